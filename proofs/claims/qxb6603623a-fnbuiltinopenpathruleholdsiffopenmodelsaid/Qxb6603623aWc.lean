import Derived.Test.Qxb6603623aWb
namespace Go.Proofs.Qxb6603623a.Wc
open Go.RowKit Pl Wa Wb

theorem data_last {s : ByteArray} (h : 0 < s.size) : s.data.toList.getLast? = some (s[s.size - 1]'(by omega)) := by
  rw [List.getLast?_eq_getElem?, ← Lib.size_eq]; exact byte_at s _ (by omega)

theorem data_dropLast (s : ByteArray) : (s.extract 0 (s.size - 1)).data.toList = s.data.toList.dropLast := by
  rw [Lib.extract_data, List.drop_zero, Nat.sub_zero, List.dropLast_eq_take, ← Lib.size_eq]

theorem ne47 {c : UInt8} (h : ¬ (c.toNat : Int) = 47) : ¬ c = 47 := by intro e; apply h; rw [e]; rfl

set_option maxHeartbeats 1000000 in
theorem fixed_any (s : ByteArray) (hs : s.size ≤ 65536) (w : World) :
    Calls Try.prog 18 #[.string s] w fun e w' => e = .returned (.bool (fixedB s.data.toList)) ∧ Below w.heap.size w w' := by
  by_cases h47 : (s.toList == [47]) = true
  · have e : fixedB s.data.toList = true := by rw [fixedB, if_pos (by rw [← Lib.toList_data]; simpa using h47)]
    rw [e]; clear e
    go_enter Try.func18, Try.ntmps18
    go_wp2
    go_ret
    exact ⟨rfl, Below.refl _ _⟩
  · have h47' : (s.toList == [47]) = false := by simpa using h47
    have e0 : fixedB s.data.toList = if canon s.data.toList = true then true else (decide (2 ≤ s.data.toList.length) && (s.data.toList.getLast? == some 47 && canon s.data.toList.dropLast)) := by
      rw [fixedB, if_neg (by rw [← Lib.toList_data]; simpa using h47)]
    rw [e0]; clear e0 h47
    have Hc := hid (fun w => canon_any s hs w)
    have Hd := hid (fun w => canon_any (s.extract 0 (s.size - 1)) (by simp; omega) w)
    rw [data_dropLast] at Hd
    by_cases hcan : canon s.data.toList = true
    · rw [if_pos hcan]
      rw [hcan] at Hc
      clear hcan Hd
      go_enter Try.func18, Try.ntmps18
      go_wp2_with (go_at_call 28; refine (Hc.out _).mono ?_; rintro e w1 ⟨rfl, hb⟩)
      go_ret
      exact ⟨rfl, hb⟩
    · have hcan' : canon s.data.toList = false := by simpa using hcan
      rw [if_neg hcan]
      rw [hcan'] at Hc
      clear hcan hcan'
      by_cases h2 : 2 ≤ s.size
      · have hl := data_last (s := s) (by omega)
        by_cases hc : ((s[s.size - 1]'(by omega)).toNat : Int) = 47
        · have e1 : (decide (2 ≤ s.data.toList.length) && (s.data.toList.getLast? == some 47 && canon s.data.toList.dropLast)) = canon s.data.toList.dropLast := by
            rw [hl, c47 hc, ← Lib.size_eq, decide_eq_true h2]; simp
          rw [e1]
          have hc' : (((s[s.size - 1]'(by omega)).toNat : Int) == 47) = true := by rw [hc]; rfl
          clear hc hl e1
          go_enter Try.func18, Try.ntmps18
          go_wp2_with fail
          refine (Hc.out _).mono ?_
          rintro e w1 ⟨rfl, hb⟩
          go_wp2_with fail
          refine (Hd.out _).mono ?_
          rintro e w2 ⟨rfl, hb2⟩
          go_wp2_with fail
          go_ret
          exact ⟨rfl, hb.trans (hb2.mono hb.size)⟩
        · have e1 : (decide (2 ≤ s.data.toList.length) && (s.data.toList.getLast? == some 47 && canon s.data.toList.dropLast)) = false := by
            rw [hl]; simp [ne47 hc]
          rw [e1]
          have hc' : (((s[s.size - 1]'(by omega)).toNat : Int) == 47) = false := by simpa using hc
          clear hc hl e1 Hd
          go_enter Try.func18, Try.ntmps18
          go_wp2_with fail
          refine (Hc.out _).mono ?_
          rintro e w1 ⟨rfl, hb⟩
          go_wp2_with fail
          go_ret
          exact ⟨rfl, hb⟩
      · have e1 : (decide (2 ≤ s.data.toList.length) && (s.data.toList.getLast? == some 47 && canon s.data.toList.dropLast)) = false := by
          rw [← Lib.size_eq, decide_eq_false h2, Bool.false_and]
        rw [e1]
        clear e1 Hd
        go_enter Try.func18, Try.ntmps18
        go_wp2_with fail
        refine (Hc.out _).mono ?_
        rintro e w1 ⟨rfl, hb⟩
        go_wp2_with fail
        go_ret
        exact ⟨rfl, hb⟩

/-- the tests behind the split, over what they read -/
def tailV (ro tr : Bool) (n : Nat) (f l : Bs) : Bool :=
  (ro && (!tr && (decide (n = 1) && ((f == robots) || (f == favicon))))) ||
  ((ro && ((f == wellk) && (decide (2 ≤ n) || tr))) || (!tr && (Lib.hasSuffix l rss || (Lib.hasSuffix l xml || Lib.hasSuffix l atom))))

theorem tailB_V (ro tr : Bool) (xs : List Bs) : tailB ro tr xs = tailV ro tr xs.length (xs.headD []) (xs.getLastD []) := rfl

theorem getLastD_at : ∀ (xs : List Bs) (d : Bs), 0 < xs.length → xs.getLastD d = xs.getD (xs.length - 1) []
  | [], _, h => absurd h (by simp)
  | [x], _, _ => rfl
  | x :: y :: r, d, _ => by
    have ih := getLastD_at (y :: r) x (by simp)
    rw [List.getLastD_cons, ih]
    simp

theorem headD_at (xs : List Bs) : xs.headD [] = xs.getD 0 [] := by cases xs <;> rfl

/-- zzSplit, told by the row's length and its two ends -/
theorem split_ends (s : ByteArray) (hs : s.size ≤ 65536) (w : World) (n : Nat) (fb lb : ByteArray) (hn : n = (Lib.Pa.els s.data.toList).length)
    (hf : fb = ⟨((Lib.Pa.els s.data.toList).headD []).toArray⟩) (hl : lb = ⟨((Lib.Pa.els s.data.toList).getLastD []).toArray⟩) :
    Calls Try.prog 19 #[.string s] w fun e w' => ∃ g cap, e = .returned (.slice (some ⟨g, 0, none⟩) n cap) ∧ n ≤ cap ∧ cap ≤ maxLen ∧ w'.cell? ⟨g, 0, none⟩ = some (.string fb) ∧ w'.cell? ⟨g, n - 1, none⟩ = some (.string lb) ∧ Below w.heap.size w w' := by
  refine (split_any s hs w).mono ?_
  rintro e w2 ⟨v, rfl, ⟨g, cap, rfl, hs1, hs2, hs3⟩, hb2⟩
  have hpos := List.length_pos_iff.2 (els_ne s.data.toList)
  subst hn hf hl
  refine ⟨g, cap, rfl, hs1, hs2, ?_, ?_, hb2⟩
  · rw [headD_at]; exact hs3 0 hpos
  · rw [getLastD_at _ [] hpos]; exact hs3 _ (by omega)

theorem last_le : ∀ (l : Bs), ((Lib.Pa.els l).getLastD []).length ≤ l.length := by
  intro l
  have h : Lib.hasSuffix l ((Lib.Pa.els l).getLastD []) = true := by
    rw [suffix_els _ (by
      intro hm
      have := List.length_pos_iff.2 (els_ne l)
      rw [getLastD_at _ [] this] at hm
      exact els_free l _ (by rw [List.getD_eq_getElem?_getD, List.getElem?_eq_getElem (by omega)]; simp) hm) l]
    simp [Lib.hasSuffix]
  rw [Lib.hasSuffix, List.isSuffixOf_iff_suffix] at h
  exact h.length_le

theorem lb_size {l : Bs} {lb : ByteArray} (h : lb = ⟨((Lib.Pa.els l).getLastD []).toArray⟩) (hl : l.length ≤ 65536) : lb.size ≤ 65536 := by
  have := last_le l
  rw [h, Lib.size_eq]; simpa using Nat.le_trans this hl
end Go.Proofs.Qxb6603623a.Wc
