import Derived.Test.Qxb6603623aWc
import Derived.Deep.Light
namespace Go.Proofs.Qxb6603623a.Wd
open Go.RowKit Pl Wa Wb Wc

set_option maxHeartbeats 2000000 in
theorem model_RN (s : ByteArray) (hs : s.size ≤ 65536) (h2 : 2 ≤ s.size) (hc : ((s[0]'(by omega)).toNat : Int) = 47) (hl : ¬ (((s.extract 1 s.size)[s.size - 1 - 1]'(by simp; omega)).toNat : Int) = 47) (h47 : (s.toList == [47]) = false)
    (hf : fixedB s.data.toList = true) (w : World) :
    Calls Try.prog 10 #[.string s] w fun e w' => e = .returned (.bool (tailB true false (Lib.Pa.els (s.extract 1 s.size).data.toList))) ∧ Below w.heap.size w w' := by
  have Hf := hid (fun w => fixed_any s hs w)
  rw [hf] at Hf
  have hbs : (s.extract 1 s.size).size ≤ 65536 := by simp; omega
  have hel2 := els_len (s.extract 1 s.size).data.toList
  rw [← Lib.size_eq] at hel2
  have hpos := List.length_pos_iff.2 (els_ne (s.extract 1 s.size).data.toList)
  have hc' : (((s[0]'(by omega)).toNat : Int) == 47) = true := by rw [hc]; rfl
  have hl' : ((((s.extract 1 s.size)[s.size - 1 - 1]'(by simp; omega)).toNat : Int) == 47) = false := by rw [beq_eq_false_iff_ne]; exact hl
  obtain ⟨n, hn⟩ : ∃ n, n = (Lib.Pa.els (s.extract 1 s.size).data.toList).length := ⟨_, rfl⟩
  obtain ⟨fb, hfb⟩ : ∃ fb : ByteArray, fb = ⟨((Lib.Pa.els (s.extract 1 s.size).data.toList).headD []).toArray⟩ := ⟨_, rfl⟩
  obtain ⟨lb, hlb⟩ : ∃ lb : ByteArray, lb = ⟨((Lib.Pa.els (s.extract 1 s.size).data.toList).getLastD []).toArray⟩ := ⟨_, rfl⟩
  have hlz : lb.size ≤ 65536 := lb_size hlb (by rw [← Lib.size_eq]; exact hbs)
  have Hsp := hid (fun w => split_ends (s.extract 1 s.size) hbs w n fb lb hn hfb hlb)
  rw [tailB_V, ← seg_eq hfb, ← seg_eq hlb, ← hn, ← Lib.toList_data fb]
  rw [← hn] at hel2 hpos
  have hn2 : n ≤ 65537 := by omega
  clear hc hl hf hn hfb hlb hel2 hbs
  go_enter Try.func10, Try.ntmps10
  go_wp2_with (first
    | (go_at_call 18; refine (Hf.out _).mono ?_; rintro e w1 ⟨rfl, hb⟩)
    | (go_at_call 19; refine (Hsp.out _).mono ?_; rintro e w2 ⟨g, cap, rfl, hs1, hs2, hf0, hl0, hb2⟩; clear hl' hc' h47)
    | (go_at_call 20; refine (hasSuffix_any _ _ (by assumption) (by decide) _).mono ?_; rintro e w' ⟨rfl, rfl⟩))
  all_goals
    go_ret
    refine ⟨ret_bool ?_, hb.trans (hb2.mono hb.size)⟩
    go_light
    clear Hf Hsp hf0 hl0 hb hb2
    simp_all [tailV, robots, favicon, wellk, rss, xml, atom] <;> first | omega | (intro h; omega)
end Go.Proofs.Qxb6603623a.Wd
