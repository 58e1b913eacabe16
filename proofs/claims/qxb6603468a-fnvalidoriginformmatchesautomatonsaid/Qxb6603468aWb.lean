import Derived.Test.Qxb6603468aWa
namespace Go.Proofs.Qxb6603468a.Wb
open Go.RowKit Pl Wa

theorem drop_cons (s : ByteArray) (k : Nat) (h : k < s.size) : s.data.toList.drop k = s[k] :: s.data.toList.drop (k + 1) := by
  rw [List.drop_eq_getElem_cons (by rw [← Lib.size_eq]; exact h)]; rfl

theorem piece_at (s P : ByteArray) (q m j : Nat) (hP : P = s.extract 0 q) (hj : m + j < P.size) : bi ((s.data.toList.drop m).getD j 0) = (P[m + j].toNat : Int) := by
  subst hP
  have h1 : m + j < min q s.size := by simpa using hj
  have h2 : (s.extract 0 q)[m + j] = s[m + j]'(by omega) := by rw [ByteArray.getElem_extract]; simp
  rw [h2, List.getD_eq_getElem?_getD, List.getElem?_drop, Lib.data_getElem? s (m + j) (by omega)]
  rfl

theorem vis_of {c : UInt8} (h1 : 32 < (c.toNat : Int)) (h2 : (c.toNat : Int) < 127) : visB (bi c) = true := by
  unfold visB bi; simp; omega
theorem vis_not {c : UInt8} (h : (c.toNat : Int) ≤ 32 ∨ 127 ≤ (c.toNat : Int)) : ¬ visB (bi c) = true := by
  unfold visB bi; simp; omega

theorem st_bad {s : ByteArray} {q k : Nat} (hlt : k < s.size) (h : (s[k].toNat : Int) ≤ 32 ∨ 127 ≤ (s[k].toNat : Int)) : vl (s.data.toList.drop k) (q - k) = false := by
  rw [drop_cons s k hlt, vl_bad (vis_not h)]
theorem st_short {s : ByteArray} {q k : Nat} (hlt : k < s.size) (h : (s[k].toNat : Int) = 37) (h1 : k < q) (h2 : (q : Int) ≤ (k : Int) + 2) : vl (s.data.toList.drop k) (q - k) = false := by
  rw [drop_cons s k hlt, vl_pct_bad h (by omega) (by omega)]
theorem st_other {s : ByteArray} {q k : Nat} (hlt : k < s.size) (h1 : 32 < (s[k].toNat : Int) ∧ (s[k].toNat : Int) < 127) (h2 : ¬ ((s[k].toNat : Int) = 37 ∧ k < q)) :
    vl (s.data.toList.drop k) (q - k) = vl (s.data.toList.drop (k + 1)) (q - (k + 1)) := by
  rw [drop_cons s k hlt, vl_other (vis_of h1.1 h1.2), Nat.sub_sub]
  rintro ⟨a, b⟩; exact h2 ⟨a, by omega⟩
theorem st_hex1 {s P : ByteArray} {q k : Nat} (hlt : k < s.size) (hP : P = s.extract 0 q) (hPs : P.size = q) (h : (s[k].toNat : Int) = 37) (h1 : k + 1 < q) (h2 : ¬ hexB (P[k + 1].toNat : Int) = true) : vl (s.data.toList.drop k) (q - k) = false := by
  have e := piece_at s P q (k + 1) 0 hP (by omega)
  rw [drop_cons s k hlt, vl_pct_bad h (by omega)]
  rintro ⟨_, a, _⟩; rw [e] at a; exact h2 a
theorem st_hex2 {s P : ByteArray} {q k : Nat} (hlt : k < s.size) (hP : P = s.extract 0 q) (hPs : P.size = q) (h : (s[k].toNat : Int) = 37) (h1 : k + 2 < q) (h2 : ¬ hexB (P[k + 2].toNat : Int) = true) : vl (s.data.toList.drop k) (q - k) = false := by
  have e := piece_at s P q (k + 1) 1 hP (by omega)
  rw [drop_cons s k hlt, vl_pct_bad h (by omega)]
  rintro ⟨_, _, a⟩; rw [e] at a; exact h2 a
theorem st_pct {s P : ByteArray} {q k : Nat} (hlt : k < s.size) (hP : P = s.extract 0 q) (hPs : P.size = q) (h : (s[k].toNat : Int) = 37) (h1 : k + 2 < q) (h2 : hexB (P[k + 1].toNat : Int) = true) (h3 : hexB (P[k + 2].toNat : Int) = true) :
    vl (s.data.toList.drop k) (q - k) = vl (s.data.toList.drop (k + 1)) (q - (k + 1)) := by
  have e1 := piece_at s P q (k + 1) 0 hP (by omega)
  have e2 := piece_at s P q (k + 1) 1 hP (by omega)
  rw [drop_cons s k hlt, vl_pct h (by omega) ⟨by omega, by rw [e1]; exact h2, by rw [e2]; exact h3⟩, Nat.sub_sub]

set_option maxHeartbeats 1000000 in
theorem vof_any (s : ByteArray) (hs : s.size ≤ 1048576) (w : World) (hpre : Lib.hasPrefix s.data.toList [47] = true) :
    Calls Try.prog 21 #[.string s] w fun e w' => e = .returned (.bool (vl s.data.toList (qi s.data.toList))) ∧ ∃ n, w' = w.drewN n := by
  have hq : qi s.data.toList ≤ s.size := by rw [Lib.size_eq]; exact qi_le _
  obtain ⟨P, hPe⟩ : ∃ P, P = s.extract 0 (qi s.data.toList) := ⟨_, rfl⟩
  have hPs : P.size = qi s.data.toList := by rw [hPe]; simp; omega
  have HPe : Hid (P = s.extract 0 (qi s.data.toList)) := hPe
  have Hpre : Hid (Lib.hasPrefix s.data.toList [47] = true) := hpre
  have hcut := cut_q s hs
  rw [← hPe] at hcut
  have Hcut := hid hcut
  clear hPe hpre hcut
  go_enter Try.func21, Try.ntmps21
  go_wp2_with (first | (go_at_call 28; refine (Try.strings_HasPrefix _ _ _).mono ?_; rintro e w' ⟨rfl, rfl⟩; rw [show Lib.hasPrefix s.data.toList _ = true from Hpre.out]) | (go_at_call 29; refine (Hcut.out _).mono ?_; rintro e w' ⟨v, b, rfl, n, rfl⟩))
  go_loop [6] (fun i => ∃ k : Nat, k ≤ s.size ∧ i = .int .i64 k ∧ Hid (vl s.data.toList (qi s.data.toList) = vl (s.data.toList.drop k) (qi s.data.toList - k))) (fun i => s.size - (intOf i).toNat)
  case atStart => exact ⟨0, Nat.zero_le _, rfl, rfl⟩
  case round =>
    obtain ⟨k, hk, rfl, HI⟩ := hrel
    by_cases hlt : k < s.size
    · go_wp2_with (go_at_call 30; refine (isHex_any _ _).mono ?_; rintro e w' ⟨rfl, rfl⟩)
      · go_ret
        exact ⟨ret_bool (by rw [HI.out, st_bad hlt (by assumption)]), n, rfl⟩
      · have h1 : (s[k].toNat : Int) = 37 := by assumption
        have h2 : k + 2 < qi s.data.toList := by omega
        have h3 : ((qi s.data.toList : Nat) : Int) ≤ ↑k + 2 ∨ (!hexB ↑P[k + 2].toNat) = true := by assumption
        have h4 : ¬ hexB ↑P[k + 2].toNat = true := by
          intro h
          rw [h] at h3
          rcases h3 with h3 | h3
          · omega
          · cases h3
        go_ret
        exact ⟨ret_bool (by rw [HI.out, st_hex2 hlt HPe.out hPs h1 h2 h4]), n, rfl⟩
      · have h1 : (s[k].toNat : Int) = 37 := by assumption
        have h2 : k + 2 < qi s.data.toList := by omega
        have h3 : hexB ↑P[k + 1].toNat = true := by assumption
        have h4 : (k : Int) + 2 < ((qi s.data.toList : Nat) : Int) ∧ (!hexB ↑P[k + 2].toNat) = false := by assumption
        have hn : Hid (vl s.data.toList (qi s.data.toList) = vl (s.data.toList.drop (k + 1)) (qi s.data.toList - (k + 1))) := by
          rw [HI.out, st_pct hlt HPe.out hPs h1 h2 h3 (by simpa using h4.2)]; rfl
        go_round
        case rel => exact ⟨k + 1, by omega, by go_num, hn⟩
        case measure => simp [intOf]; omega
      · have h1 : (s[k].toNat : Int) = 37 := by assumption
        have h2 : k + 2 < qi s.data.toList := by omega
        go_ret
        exact ⟨ret_bool (by rw [HI.out, st_hex1 hlt HPe.out hPs h1 (by omega) (by assumption)]), n, rfl⟩
      · have h1 : (s[k].toNat : Int) = 37 := by assumption
        go_ret
        exact ⟨ret_bool (by rw [HI.out, st_short hlt h1 (by assumption) (by assumption)]), n, rfl⟩
      · have h1 : ¬ k < qi s.data.toList := by assumption
        have hn : Hid (vl s.data.toList (qi s.data.toList) = vl (s.data.toList.drop (k + 1)) (qi s.data.toList - (k + 1))) := by
          rw [HI.out, st_other hlt (by assumption) (fun h => h1 h.2)]; rfl
        go_round
        case rel => exact ⟨k + 1, by omega, by go_num, hn⟩
        case measure => simp [intOf]; omega
      · have h1 : ¬ (s[k].toNat : Int) = 37 := by assumption
        have hn : Hid (vl s.data.toList (qi s.data.toList) = vl (s.data.toList.drop (k + 1)) (qi s.data.toList - (k + 1))) := by
          rw [HI.out, st_other hlt (by assumption) (fun h => h1 h.1)]; rfl
        go_round
        case rel => exact ⟨k + 1, by omega, by go_num, hn⟩
        case measure => simp [intOf]; omega
      · go_ret
        exact ⟨ret_bool (by rw [HI.out, st_bad hlt (Or.inl (by assumption))]), n, rfl⟩
    · go_wp2_with fail
      go_ret
      refine ⟨ret_bool ?_, n, rfl⟩
      rw [HI.out, List.drop_of_length_le (by rw [← Lib.size_eq]; omega)]
      rfl
end Go.Proofs.Qxb6603468a.Wb
