import Derived.Test.Qxb6603623aWd
import Derived.Test.Qxb6603623aWe
import Derived.Test.Qxb6603623aWf
import Derived.Test.Qxb6603623aWg
namespace Go.Proofs.Qxb6603623a.Wh
open Go.RowKit Pl Wa Wb Wc

theorem ext_tail (s : ByteArray) : (s.extract 1 s.size).data.toList = s.data.toList.tail := by
  rw [Lib.extract_to_end, List.drop_one]

theorem tail_last (s : ByteArray) (h : 2 ≤ s.size) : s.data.toList.tail.getLast? = some ((s.extract 1 s.size)[s.size - 1 - 1]'(by simp; omega)) := by
  have e := data_last (s := s.extract 1 s.size) (by simp; omega)
  rw [ext_tail] at e
  rw [e]
  congr 1
  simp

theorem tail_dropLast (s : ByteArray) : ((s.extract 1 s.size).extract 0 (s.size - 1 - 1)).data.toList = s.data.toList.tail.dropLast := by
  have e := data_dropLast (s.extract 1 s.size)
  rw [ext_tail] at e
  rw [← e]
  simp

set_option maxHeartbeats 1000000 in
theorem model_any (s : ByteArray) (hs : s.size ≤ 65536) (w : World) :
    Calls Try.prog 10 #[.string s] w fun e w' => e = .returned (.bool (modelL s.data.toList)) ∧ Below w.heap.size w w' := by
  by_cases hf : fixedB s.data.toList = true
  · by_cases h47 : (s.toList == [47]) = true
    · have e : modelL s.data.toList = false := by
        rw [modelL, if_pos (.inr (by rw [← Lib.toList_data]; simpa using h47))]
      rw [e]
      have Hf := hid (fun w => fixed_any s hs w)
      rw [hf] at Hf
      clear hf e
      go_enter Try.func10, Try.ntmps10
      go_wp2_with (go_at_call 18; refine (Hf.out _).mono ?_; rintro e w1 ⟨rfl, hb⟩)
      go_ret
      exact ⟨rfl, hb⟩
    · have h47' : (s.toList == [47]) = false := by simpa using h47
      have hn47 : ¬ s.data.toList = [47] := by rw [← Lib.toList_data]; simpa using h47
      have e0 : modelL s.data.toList = tailB (s.data.toList.head? == some 47) ((cutRoot s.data.toList).getLast? == some 47) (Lib.Pa.els (cutTrail (cutRoot s.data.toList))) := by
        rw [modelL, if_neg (by simp [hf, hn47])]
      have h0 : 0 < s.size := by
        apply Nat.pos_of_ne_zero
        intro hz
        have : s.data.toList = [] := by rw [← List.length_eq_zero_iff, ← Lib.size_eq]; exact hz
        rw [this] at hf
        exact absurd hf (by decide)
      rw [e0]
      by_cases hc : (s[0].toNat : Int) = 47
      · have hh : s.data.toList.head? = some 47 := by rw [data_head h0, c47 hc]
        have h2 : 2 ≤ s.size := by
          rcases Nat.lt_or_ge s.size 2 with h | h
          · exfalso
            apply hn47
            obtain ⟨t, ht⟩ := head_cons hh
            rw [Lib.size_eq, ht] at h
            rw [ht]
            congr 1
            rw [← List.length_eq_zero_iff]
            simp at h; omega
          · exact h
        rw [cutRoot, if_pos hh, hh]
        have hl := tail_last s h2
        by_cases hc2 : (((s.extract 1 s.size)[s.size - 1 - 1]'(by simp; omega)).toNat : Int) = 47
        · rw [cutTrail, hl, c47 hc2, if_pos rfl, ← tail_dropLast]
          exact We.model_RT s hs h2 hc hc2 h47' hf w
        · have hne : ¬ some ((s.extract 1 s.size)[s.size - 1 - 1]'(by simp; omega)) = some (47 : UInt8) := by
            intro e; exact ne47 hc2 (Option.some.inj e)
          rw [cutTrail, hl, if_neg hne, beq_eq_false_iff_ne.2 hne, ← ext_tail]
          exact Wd.model_RN s hs h2 hc hc2 h47' hf w
      · have hh : ¬ s.data.toList.head? = some 47 := by
          rw [data_head h0]; intro e; exact ne47 hc (Option.some.inj e)
        rw [cutRoot, if_neg hh, beq_eq_false_iff_ne.2 hh]
        have hl := data_last (s := s) h0
        by_cases hc2 : ((s[s.size - 1]'(by omega)).toNat : Int) = 47
        · rw [cutTrail, hl, c47 hc2, if_pos rfl, ← data_dropLast]
          exact Wg.model_UT s hs h0 hc hc2 h47' hf w
        · have hne : ¬ some (s[s.size - 1]'(by omega)) = some (47 : UInt8) := by
            intro e; exact ne47 hc2 (Option.some.inj e)
          rw [cutTrail, hl, if_neg hne, beq_eq_false_iff_ne.2 hne]
          exact Wf.model_UN s hs h0 hc hc2 h47' hf w
  · have hf' : fixedB s.data.toList = false := by simpa using hf
    have e : modelL s.data.toList = false := by rw [modelL, if_pos (.inl hf')]
    rw [e]
    have Hf := hid (fun w => fixed_any s hs w)
    rw [hf'] at Hf
    clear hf hf' e
    go_enter Try.func10, Try.ntmps10
    go_wp2_with (go_at_call 18; refine (Hf.out _).mono ?_; rintro e w1 ⟨rfl, hb⟩)
    go_ret
    exact ⟨rfl, hb⟩
end Go.Proofs.Qxb6603623a.Wh
