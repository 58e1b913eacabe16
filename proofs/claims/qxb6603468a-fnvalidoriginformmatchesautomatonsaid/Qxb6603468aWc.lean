import Derived.Test.Qxb6603468aWb
namespace Go.Proofs.Qxb6603468a.Wc
open Go.RowKit Pl Wa Wb

theorem end_eq (m : Nat) (b : Bool) : ((m : Int) == 0) = aut [] b m := by
  rw [aut, Bool.eq_iff_iff]; simp
theorem vis_of' {c : UInt8} (h : 33 ≤ (c.toNat : Int) ∧ (c.toNat : Int) ≤ 126) : visB (bi c) = true := vis_of (by omega) (by omega)
theorem at_bad {s : ByteArray} {k m : Nat} {b : Bool} (hlt : k < s.size) (h : (s[k].toNat : Int) < 33 ∨ 126 < (s[k].toNat : Int)) : aut (s.data.toList.drop k) b m = false := by
  rw [drop_cons s k hlt, aut_bad (vis_not (by omega))]
theorem at_hexno {s : ByteArray} {k m : Nat} {b : Bool} (hlt : k < s.size) (hm : 0 < m) (h : (!hexB (s[k].toNat : Int)) = true) : aut (s.data.toList.drop k) b m = false := by
  rw [drop_cons s k hlt, aut_need_bad hm]
  intro h'; rw [show hexB (s[k].toNat : Int) = true from h'] at h; cases h
theorem at_hex {s : ByteArray} {k m : Nat} {b : Bool} (hlt : k < s.size) (hm : 0 < m) (h : (!hexB (s[k].toNat : Int)) = false) : aut (s.data.toList.drop k) b m = aut (s.data.toList.drop (k + 1)) b (m - 1) := by
  rw [drop_cons s k hlt, aut_need hm (show hexB (s[k].toNat : Int) = true by simpa using h)]
theorem at_q {s : ByteArray} {k m : Nat} {b : Bool} (hlt : k < s.size) (hm : ¬ 0 < m) (hv : 33 ≤ (s[k].toNat : Int) ∧ (s[k].toNat : Int) ≤ 126) (hb : b = true) : aut (s.data.toList.drop k) b m = aut (s.data.toList.drop (k + 1)) b m := by
  obtain rfl : m = 0 := by omega
  subst hb
  rw [drop_cons s k hlt, aut_q (vis_of' hv)]
theorem at_63 {s : ByteArray} {k m : Nat} {b : Bool} (hlt : k < s.size) (hm : ¬ 0 < m) (hb : b = false) (h : ((s[k].toNat : Int) == 63) = true) : aut (s.data.toList.drop k) b m = aut (s.data.toList.drop (k + 1)) true m := by
  obtain rfl : m = 0 := by omega
  subst hb
  rw [drop_cons s k hlt, aut_quest (beq_iff_eq.1 h)]
theorem at_37 {s : ByteArray} {k m : Nat} {b : Bool} (hlt : k < s.size) (hm : ¬ 0 < m) (hb : b = false) (h : ((s[k].toNat : Int) == 37) = true) : aut (s.data.toList.drop k) b m = aut (s.data.toList.drop (k + 1)) b 2 := by
  obtain rfl : m = 0 := by omega
  subst hb
  rw [drop_cons s k hlt, aut_pct (beq_iff_eq.1 h)]
theorem at_other {s : ByteArray} {k m : Nat} {b : Bool} (hlt : k < s.size) (hm : ¬ 0 < m) (hb : b = false) (hv : 33 ≤ (s[k].toNat : Int) ∧ (s[k].toNat : Int) ≤ 126) (h : ((s[k].toNat : Int) == 63) = false) (h' : ((s[k].toNat : Int) == 37) = false) : aut (s.data.toList.drop k) b m = aut (s.data.toList.drop (k + 1)) b m := by
  obtain rfl : m = 0 := by omega
  subst hb
  rw [drop_cons s k hlt, aut_other (vis_of' hv) (beq_eq_false_iff_ne.1 h) (beq_eq_false_iff_ne.1 h')]
theorem hid_trans {a b c : Bool} (h : Hid (a = b)) (h' : b = c) : Hid (a = c) := Eq.trans h h'

set_option maxHeartbeats 1000000 in
theorem model_any (s : ByteArray) (hs : s.size ≤ 1048576) (w : World) (h0 : 0 < s.size) (hc : (s[0].toNat : Int) = 47) :
    Calls Try.prog 22 #[.string s] w fun e w' => e = .returned (.bool (aut s.data.toList false 0)) ∧ w' = w := by
  have hc' : ((s[0].toNat : Int) != 47) = false := by rw [hc]; rfl
  have h0' : ((s.size : Int) == 0) = false := by simp; intro h; subst h; simp at h0
  clear hc
  go_enter Try.func22, Try.ntmps22
  go_wp2
  clear hc' h0'
  go_loop [3, 4, 5] (fun q nd i => ∃ (k m : Nat) (b : Bool), k ≤ s.size ∧ m ≤ 2 ∧ i = .int .i64 k ∧ nd = .int .i64 m ∧ q = .bool b ∧ Hid (aut s.data.toList false 0 = aut (s.data.toList.drop k) b m)) (fun _ _ i => s.size - (intOf i).toNat)
  case atStart => exact ⟨0, 0, false, Nat.zero_le _, by omega, rfl, rfl, rfl, rfl⟩
  case round =>
    obtain ⟨k, m, b, hk, hm, rfl, rfl, rfl, HI⟩ := hrel
    by_cases hlt : k < s.size
    · go_wp2_with (go_at_call 31; refine (hexDigit_any _ _).mono ?_; rintro e w' ⟨rfl, rfl⟩)
      · go_ret
        exact ⟨ret_bool (by rw [HI.out, at_bad hlt (by assumption)]), rfl⟩
      · go_ret
        exact ⟨ret_bool (by rw [HI.out, at_hexno hlt (by assumption) (by assumption)]), rfl⟩
      · have h1 : 0 < m := by assumption
        have hn := hid_trans HI (at_hex hlt h1 (by assumption))
        go_round
        case rel => exact ⟨k + 1, m - 1, b, by omega, by omega, by go_num, by go_num, rfl, hn⟩
        case measure => simp [intOf]; omega
      · have hn := hid_trans HI (at_q hlt (by assumption) (by assumption) (by assumption))
        go_round
        case rel => exact ⟨k + 1, m, b, by omega, by omega, by go_num, rfl, rfl, hn⟩
        case measure => simp [intOf]; omega
      · have hn := hid_trans HI (at_63 hlt (by assumption) (by assumption) (by assumption))
        go_round
        case rel => exact ⟨k + 1, m, true, by omega, by omega, by go_num, rfl, rfl, hn⟩
        case measure => simp [intOf]; omega
      · have hn := hid_trans HI (at_37 hlt (by assumption) (by assumption) (by assumption))
        go_round
        case rel => exact ⟨k + 1, 2, b, by omega, by omega, by go_num, rfl, rfl, hn⟩
        case measure => simp [intOf]; omega
      · have hn := hid_trans HI (at_other hlt (by assumption) (by assumption) (by assumption) (by assumption) (by assumption))
        go_round
        case rel => exact ⟨k + 1, m, b, by omega, by omega, by go_num, rfl, rfl, hn⟩
        case measure => simp [intOf]; omega
      · go_ret
        exact ⟨ret_bool (by rw [HI.out, at_bad hlt (Or.inl (by assumption))]), rfl⟩
    · go_wp2_with fail
      go_ret
      refine ⟨ret_bool ?_, rfl⟩
      rw [HI.out, List.drop_of_length_le (by rw [← Lib.size_eq]; omega)]
      exact end_eq m b

set_option maxHeartbeats 1000000 in
theorem model_no (s : ByteArray) (hs : s.size ≤ 1048576) (w : World) (h : s.size = 0 ∨ ∃ h0 : 0 < s.size, (s[0].toNat : Int) ≠ 47) :
    Calls Try.prog 22 #[.string s] w fun e w' => e = .returned (.bool false) ∧ w' = w := by
  rcases h with h | ⟨h0, hc⟩
  · have e : s = ByteArray.empty := by
      apply ByteArray.ext; apply Array.eq_empty_of_size_eq_zero; exact h
    subst e
    go_enter Try.func22, Try.ntmps22
    go_wp2
    go_ret
    exact ⟨rfl, rfl⟩
  · have hc' : ((s[0].toNat : Int) != 47) = true := by simpa using hc
    have h0' : ((s.size : Int) == 0) = false := by simp; intro h; subst h; simp at h0
    clear hc
    go_enter Try.func22, Try.ntmps22
    go_wp2
    go_ret
    exact ⟨rfl, rfl⟩

set_option maxHeartbeats 1000000 in
theorem vof_no (s : ByteArray) (w : World) (hpre : Lib.hasPrefix s.data.toList [47] = false) :
    Calls Try.prog 21 #[.string s] w fun e w' => e = .returned (.bool false) ∧ w' = w := by
  have Hpre := hid hpre
  clear hpre
  go_enter Try.func21, Try.ntmps21
  go_wp2_with (go_at_call 28; refine (Try.strings_HasPrefix _ _ _).mono ?_; rintro e w' ⟨rfl, rfl⟩; rw [show Lib.hasPrefix s.data.toList _ = false from Hpre.out])
  go_ret
  exact ⟨rfl, rfl⟩

/-- the two entry tests are one -/
theorem pre_iff (s : ByteArray) : (Lib.hasPrefix s.data.toList [47] = true ∧ ∃ h0 : 0 < s.size, (s[0].toNat : Int) = 47) ∨ (Lib.hasPrefix s.data.toList [47] = false ∧ (s.size = 0 ∨ ∃ h0 : 0 < s.size, (s[0].toNat : Int) ≠ 47)) := by
  by_cases h0 : 0 < s.size
  · have e := drop_cons s 0 h0
    rw [List.drop_zero] at e
    have e' : Lib.hasPrefix s.data.toList [47] = ((47 : UInt8) == s[0]) := by rw [e]; simp [Lib.hasPrefix, List.isPrefixOf]
    rw [e']
    by_cases h : s[0] = 47
    · left; exact ⟨by rw [h]; rfl, h0, by rw [h]; rfl⟩
    · right
      refine ⟨beq_eq_false_iff_ne.2 (fun a => h a.symm), .inr ⟨h0, fun a => h ?_⟩⟩
      apply UInt8.toNat_inj.1; show s[0].toNat = 47; omega
  · right
    have hz : s.size = 0 := by omega
    have e : s.data.toList = [] := by rw [← List.length_eq_zero_iff, ← Lib.size_eq]; exact hz
    rw [e]; exact ⟨rfl, .inl hz⟩

set_option maxHeartbeats 1000000 in
theorem walk_any (s : ByteArray) (w : World) (hb : s.size ≤ 9223372036854775807) :
    Calls Try.prog 7 #[.string s] w fun e w' => e = .returned (.bool true) ∧ ∃ n, w' = w.drewN n := by
  by_cases hs : s.size ≤ 1048576
  · rcases pre_iff s with ⟨h1, h0, h2⟩ | ⟨h1, h2⟩
    · have hv := hid (fun w => vof_any s hs w h1)
      have hm := hid (fun w => model_any s hs w h0 h2)
      have hl := hid (law s.data.toList)
      clear h1 h2
      go_enter Try.func7, Try.ntmps7
      go_wp2_with (first
        | (go_at_call 20; refine (bytes_yes s hs _).mono ?_; rintro e w' ⟨rfl, rfl⟩)
        | (go_at_call 21; refine (hv.out _).mono ?_; rintro e w' ⟨rfl, n, rfl⟩)
        | (go_at_call 22; refine (hm.out _).mono ?_; rintro e w' ⟨rfl, rfl⟩))
      go_ret
      exact ⟨ret_bool (by rw [hl.out]; simp), n, rfl⟩
    · have hv := hid (fun w => vof_no s w h1)
      have hm := hid (fun w => model_no s hs w h2)
      clear h1 h2
      go_enter Try.func7, Try.ntmps7
      go_wp2_with (first
        | (go_at_call 20; refine (bytes_yes s hs _).mono ?_; rintro e w' ⟨rfl, rfl⟩)
        | (go_at_call 21; refine (hv.out _).mono ?_; rintro e w' ⟨rfl, rfl⟩)
        | (go_at_call 22; refine (hm.out _).mono ?_; rintro e w' ⟨rfl, rfl⟩))
      go_ret
      exact ⟨rfl, 0, rfl⟩
  · go_enter Try.func7, Try.ntmps7
    go_wp2_with (go_at_call 20; refine (bytes_no s hs _).mono ?_; rintro e w' ⟨rfl, rfl⟩)
    go_ret
    exact ⟨rfl, 0, rfl⟩
end Go.Proofs.Qxb6603468a.Wc
