import Derived.Test.Qxb6604044aRows
import Derived.Test.Qxb6604044aShelf
import Derived.Test.Qxb6604044aPlain
import Derived.WalkKit
import Derived.WalkSpells
import Derived.Deep.Draws
import Derived.RegionTactic
import Derived.Lib.IndexBytes
namespace Go.Proofs.Qxb6604044a.Wa
open Go.RowKit Pl

theorem hid {p : Prop} (h : p) : Hid p := h
theorem ret_bool {a b : Bool} (h : a = b) : Ending.returned (.bool a) = .returned (.bool b) := by rw [h]
theorem ret_int {k : IntKind} {a b : Int} (h : a = b) : Ending.returned (.int k a) = .returned (.int k b) := by rw [h]
theorem byte_at (s : ByteArray) (k : Nat) (h : k < s.size) : s.data.toList[k]? = some s[k] := Lib.data_getElem? s k h
theorem dig_I (c : UInt8) : dig c = digI (c.toNat : Int) := rfl

set_option maxHeartbeats 400000 in
theorem digit_any (c : Int) (w : World) :
    Calls Try.prog 17 #[.int .u8 c] w fun e w' => e = .returned (.bool (digI c)) ∧ w' = w := by
  go_enter Try.func17, Try.ntmps17
  go_wp2
  all_goals
    go_ret
    refine ⟨ret_bool ?_, rfl⟩
    unfold digI
    rw [Bool.eq_iff_iff]
    simp
    try omega

set_option maxHeartbeats 400000 in
theorem count_any (s : ByteArray) (hs : s.size ≤ 1048576) (w : World) :
    Calls Try.prog 12 #[.string s] w fun e w' => e = .returned (.int .i64 (cnt s.data.toList)) ∧ w' = w := by
  go_enter Try.func12, Try.ntmps12
  go_wp2
  go_loop [3, 4] (fun n i => ∃ k m : Nat, k ≤ s.size ∧ m ≤ k ∧ i = .int .i64 k ∧ n = .int .i64 m ∧ Hid (cnt (s.data.toList.take k) = m)) (fun _ i => s.size - (intOf i).toNat)
  case atStart => exact ⟨0, 0, Nat.zero_le _, Nat.le_refl _, rfl, rfl, rfl⟩
  case round =>
    obtain ⟨k, m, hk, hm, rfl, rfl, HI⟩ := hrel
    by_cases hlt : k < s.size
    · have HS : Hid (cnt (s.data.toList.take (k + 1)) = m + if digI (s[k].toNat : Int) = true then 1 else 0) := by
        show List.countP dig _ = _
        rw [List.take_add_one, byte_at s k hlt, List.countP_append]
        have h1 : List.countP dig (s.data.toList.take k) = m := HI.out
        rw [h1]
        have h2 : dig s[k] = digI (s[k].toNat : Int) := rfl
        simp [List.countP_cons, h2]
      clear HI
      go_wp2_with (go_at_call 17; refine (digit_any _ _).mono ?_; rintro e w' ⟨rfl, rfl⟩)
      · have h1 : digI (s[k].toNat : Int) = true := by assumption
        have HN : Hid (cnt (s.data.toList.take (k + 1)) = m + 1) := by
          have h := HS.out
          rw [if_pos h1] at h; exact h
        go_round
        case rel => exact ⟨k + 1, m + 1, by omega, by omega, by go_num, by go_num, HN⟩
        case measure => simp [intOf]; omega
      · have h1 : digI (s[k].toNat : Int) = false := by assumption
        have HN : Hid (cnt (s.data.toList.take (k + 1)) = m) := by
          have h := HS.out
          rw [if_neg (by rw [h1]; decide)] at h; exact h
        go_round
        case rel => exact ⟨k + 1, m, by omega, by omega, by go_num, rfl, HN⟩
        case measure => simp [intOf]; omega
    · go_wp2_with fail
      go_ret
      refine ⟨ret_int ?_, rfl⟩
      have h := HI.out
      rw [List.take_of_length_le (by rw [← Lib.size_eq]; omega)] at h
      rw [h]

theorem drop_cons (s : ByteArray) (k : Nat) (h : k < s.size) : s.data.toList.drop k = s[k] :: s.data.toList.drop (k + 1) := by
  rw [List.drop_eq_getElem_cons (by rw [← Lib.size_eq]; exact h)]; rfl

theorem isDig_form (l : Bs) (h : l.all dig = true) : (!l.isEmpty) = isDigB l := by unfold isDigB; rw [h, Bool.true_and]

set_option maxHeartbeats 400000 in
theorem digits_any (s : ByteArray) (hs : s.size ≤ 1048576) (w : World) :
    Calls Try.prog 19 #[.string s] w fun e w' => e = .returned (.bool (isDigB s.data.toList)) ∧ w' = w := by
  go_enter Try.func19, Try.ntmps19
  go_wp2
  go_loop [3] (fun i => ∃ k : Nat, k ≤ s.size ∧ i = .int .i64 k ∧ Hid (s.data.toList.all dig = (s.data.toList.drop k).all dig)) (fun i => s.size - (intOf i).toNat)
  case atStart => exact ⟨0, Nat.zero_le _, rfl, rfl⟩
  case round =>
    obtain ⟨k, hk, rfl, HI⟩ := hrel
    by_cases hlt : k < s.size
    · have HS : Hid (s.data.toList.all dig = (digI (s[k].toNat : Int) && (s.data.toList.drop (k + 1)).all dig)) := by
        have h := HI.out
        rw [drop_cons s k hlt, List.all_cons] at h
        exact h
      clear HI
      by_cases hd : 48 ≤ (s[k].toNat : Int) ∧ (s[k].toNat : Int) ≤ 57
      · have HN : Hid (s.data.toList.all dig = (s.data.toList.drop (k + 1)).all dig) := by
          have h := HS.out
          rw [digI, decide_eq_true hd, Bool.true_and] at h; exact h
        obtain ⟨hd1, hd2⟩ := hd
        go_wp2
        go_round
        case rel => exact ⟨k + 1, by omega, by go_num, HN⟩
        case measure => simp [intOf]; omega
      · have HN : Hid (isDigB s.data.toList = false) := by
          have h := HS.out
          rw [digI, decide_eq_false hd, Bool.false_and] at h
          show isDigB _ = false
          unfold isDigB; rw [h, Bool.false_and]
        by_cases h1 : (s[k].toNat : Int) < 48
        · clear hd
          go_wp2
          go_ret
          exact ⟨ret_bool HN.out.symm, rfl⟩
        · have h2 : 57 < (s[k].toNat : Int) := by omega
          clear hd
          go_wp2
          go_ret
          exact ⟨ret_bool HN.out.symm, rfl⟩
    · have HE : Hid (s.data.toList.all dig = true) := by
        have h := HI.out
        rw [List.drop_of_length_le (by rw [← Lib.size_eq]; omega)] at h
        exact h
      go_wp2_with fail
      go_ret
      refine ⟨ret_bool ?_, rfl⟩
      rw [← isDig_form _ HE.out, ← Lib.toList_data]

set_option maxHeartbeats 1000000 in
/-- stringslite.Cut at ".": none -/
theorem liteCut_no (s : ByteArray) (h1 : Lib.indexByte s.data.toList 46 = -1) (w : World) :
    Calls Try.prog 21 #[.string s, .string ⟨#[46]⟩] w fun e w' => e = .returned (.tuple #[.string s, .string ⟨#[]⟩, .bool false]) ∧ ∃ n, w' = w.drewN n := by
  have H1 := hid h1
  clear h1
  go_enter Try.func21, Try.ntmps21
  go_wp2_with (go_at_call 22; refine (Try.stringslite_Index_one _ _ _).mono ?_; rintro e w' ⟨rfl, rfl⟩; rw [H1.out])
  go_ret3
  exact ⟨rfl, 0, rfl⟩

set_option maxHeartbeats 1000000 in
/-- stringslite.Cut at ".": at q -/
theorem liteCut_yes (s : ByteArray) (hs : s.size ≤ 1048576) (q : Nat) (h1 : Lib.indexByte s.data.toList 46 = (q : Int)) (h2 : q < s.size) (w : World) :
    Calls Try.prog 21 #[.string s, .string ⟨#[46]⟩] w fun e w' => e = .returned (.tuple #[.string (s.extract 0 q), .string (s.extract (q + 1) s.size), .bool true]) ∧ ∃ n, w' = w.drewN n := by
  have H1 := hid h1
  clear h1
  have c1 : (0 : Int) ≤ ↑q := by omega
  have c2 : (↑q : Int) ≤ ↑s.size := by omega
  have c3 : (0 : Int) ≤ ↑q + 1 := by omega
  have c4 : (↑q + 1 : Int) ≤ ↑s.size := by omega
  go_enter Try.func21, Try.ntmps21
  go_wp2_with (go_at_call 22; refine (Try.stringslite_Index_one _ _ _).mono ?_; rintro e w' ⟨rfl, rfl⟩; rw [H1.out])
  go_region
  go_wp2
  go_ret3
  exact ⟨rfl, 1, rfl⟩

/-- strings.Cut is stringslite.Cut -/
theorem cut_of (s : ByteArray) (v1 v2 v3 : Value) (w : World) (h : Calls Try.prog 21 #[.string s, .string ⟨#[46]⟩] w fun e w' => e = .returned (.tuple #[v1, v2, v3]) ∧ ∃ n, w' = w.drewN n) :
    Calls Try.prog 20 #[.string s, .string ⟨#[46]⟩] w fun e w' => e = .returned (.tuple #[v1, v2, v3]) ∧ ∃ n, w' = w.drewN n := by
  have H := hid h
  clear h
  go_enter Try.func20, Try.ntmps20
  go_wp2_with (go_at_call 21; refine H.out.mono ?_; rintro e w' ⟨rfl, n, rfl⟩)
  go_ret3
  exact ⟨rfl, n, rfl⟩

set_option maxHeartbeats 1000000 in
theorem plain_any (s : ByteArray) (hs : s.size ≤ 1048576) (w : World) :
    Calls Try.prog 18 #[.string s] w fun e w' => e = .returned (.bool (isPlainB s.data.toList)) ∧ ∃ n, w' = w.drewN n := by
  have hsz := Lib.size_eq s
  rcases pi_index s.data.toList with ⟨h1, h2⟩ | ⟨h1, h2⟩
  · have e : isPlainB s.data.toList = isDigB s.data.toList := by
      unfold isPlainB; rw [h2, List.take_length, decide_eq_true rfl, Bool.true_or, Bool.and_true]
    rw [e]
    have Hc := hid (fun w => cut_of s _ _ _ w (liteCut_no s h1 w))
    have Hd := hid (fun w => digits_any s hs w)
    clear h1 h2 e hsz
    generalize isDigB s.data.toList = D at *
    go_enter Try.func18, Try.ntmps18
    cases D
    · go_wp2_with (first
        | (go_at_call 20; refine (Hc.out _).mono ?_; rintro e w' ⟨rfl, n, rfl⟩)
        | (go_at_call 19; refine (Hd.out _).mono ?_; rintro e w' ⟨rfl, rfl⟩))
      go_ret
      exact ⟨rfl, n, rfl⟩
    · go_wp2_with (first
        | (go_at_call 20; refine (Hc.out _).mono ?_; rintro e w' ⟨rfl, n, rfl⟩)
        | (go_at_call 19; refine (Hd.out _).mono ?_; rintro e w' ⟨rfl, rfl⟩))
      go_ret
      exact ⟨rfl, n, rfl⟩
  · obtain ⟨q, hq⟩ : ∃ q, q = pi s.data.toList := ⟨_, rfl⟩
    have e : isPlainB s.data.toList = (isDigB (s.extract 0 q).data.toList && isDigB (s.extract (q + 1) s.size).data.toList) := by
      unfold isPlainB
      rw [← hq, Lib.extract_data, Lib.extract_to_end, List.drop_zero, Nat.sub_zero, decide_eq_false (by omega), Bool.false_or]
    rw [e]
    rw [← hq] at h1 h2
    have Hc := hid (fun w => cut_of s _ _ _ w (liteCut_yes s hs q h1 (by omega) w))
    have Hd := hid (fun w => digits_any (s.extract 0 q) (by simp; omega) w)
    have Hd' := hid (fun w => digits_any (s.extract (q + 1) s.size) (by simp; omega) w)
    clear h1 h2 e hsz hq
    generalize isDigB (s.extract 0 q).data.toList = D at *
    generalize isDigB (s.extract (q + 1) s.size).data.toList = D' at *
    go_enter Try.func18, Try.ntmps18
    go_wp2_with fail
    refine (Hc.out _).mono ?_
    rintro e w1 ⟨rfl, n, rfl⟩
    go_wp2_with fail
    refine (Hd.out _).mono ?_
    rintro e w2 ⟨rfl, rfl⟩
    cases D
    · go_wp2_with fail
      go_ret
      exact ⟨rfl, n, rfl⟩
    · go_wp2_with fail
      refine (Hd'.out _).mono ?_
      rintro e w3 ⟨rfl, rfl⟩
      go_wp2_with fail
      go_ret
      exact ⟨rfl, n, rfl⟩

theorem zzplain_any (s : ByteArray) (hs : s.size ≤ 1048576) (w : World) :
    Calls Try.prog 11 #[.string s] w fun e w' => e = .returned (.bool (isPlainB s.data.toList)) ∧ ∃ n, w' = w.drewN n := by
  have H := hid (fun w => plain_any s hs w)
  go_enter Try.func11, Try.ntmps11
  go_wp2_with (go_at_call 18; refine (H.out _).mono ?_; rintro e w' ⟨rfl, n, rfl⟩)
  go_ret
  exact ⟨rfl, n, rfl⟩

set_option maxHeartbeats 400000 in
theorem bytes_yes (s : ByteArray) (hs : s.size ≤ 1048576) (w : World) :
    Calls Try.prog 10 #[.string s] w fun e w' => e = .returned (.bool true) ∧ w' = w := by
  go_enter Try.func10, Try.ntmps10
  go_wp2
  go_ret
  exact ⟨rfl, rfl⟩

set_option maxHeartbeats 400000 in
theorem bytes_no (s : ByteArray) (hs : ¬ s.size ≤ 1048576) (hb : s.size ≤ 9223372036854775807) (w : World) :
    Calls Try.prog 10 #[.string s] w fun e w' => e = .returned (.bool false) ∧ w' = w := by
  go_enter Try.func10, Try.ntmps10
  go_wp2
  go_ret
  exact ⟨rfl, rfl⟩
end Go.Proofs.Qxb6604044a.Wa
