import Derived.Test.Qxb6603468aRows
import Derived.Test.Qxb6603468aShelf
import Derived.Test.Qxb6603468aPlain
import Derived.WalkKit
import Derived.WalkSpells
import Derived.Deep.Draws
import Derived.RegionTactic
import Derived.Deep.QuietTactic
import Derived.BigQuiet
import Derived.RowKit3
namespace Go.Proofs.Qxb6603468a.Wa
open Go.RowKit Pl

theorem hid {p : Prop} (h : p) : Hid p := h
theorem ret_bool {a b : Bool} (h : a = b) : Ending.returned (.bool a) = .returned (.bool b) := by rw [h]

set_option maxHeartbeats 400000 in
theorem isHex_any (c : Int) (w : World) :
    Calls Try.prog 30 #[.int .u8 c] w fun e w' => e = .returned (.bool (hexB c)) ∧ w' = w := by
  go_enter Try.func30, Try.ntmps30
  go_wp2
  all_goals
    go_ret
    refine ⟨ret_bool ?_, rfl⟩
    unfold hexB
    rw [Bool.eq_iff_iff]
    simp
    try omega

set_option maxHeartbeats 400000 in
theorem hexDigit_any (c : Int) (w : World) :
    Calls Try.prog 31 #[.int .u8 c] w fun e w' => e = .returned (.bool (hexB c)) ∧ w' = w := by
  go_enter Try.func31, Try.ntmps31
  go_wp2
  all_goals
    go_ret
    refine ⟨ret_bool ?_, rfl⟩
    unfold hexB
    rw [Bool.eq_iff_iff]
    simp
    try omega

theorem str_63 : (⟨#[63]⟩ : ByteArray).data.toList = [63] := rfl

set_option maxHeartbeats 1000000 in
/-- strings.Cut at "?": the part before the first '?', as a piece of s -/
theorem liteCut_q (s : ByteArray) (hs : s.size ≤ 1048576) (w : World) :
    Calls Try.prog 33 #[.string s, .string ⟨#[63]⟩] w fun e w' => ∃ v b, e = .returned (.tuple #[.string (s.extract 0 (qi s.data.toList)), .string v, .bool b]) ∧ ∃ n, w' = w.drewN n := by
  have hsz : s.size = s.data.toList.length := Lib.size_eq s
  rcases qi_index s.data.toList with ⟨h1, h2⟩ | ⟨h1, h2⟩
  · have e0 : s.extract 0 (qi s.data.toList) = s := by rw [h2, ← hsz]; exact ByteArray.extract_zero_size
    have H1 : Hid (Lib.indexByte s.data.toList 63 = -1) := h1
    rw [e0]
    clear h1 h2 e0 hsz
    go_enter Try.func33, Try.ntmps33
    go_wp2_with (go_at_call 34; refine (Try.stringslite_Index_one _ _ _).mono ?_; rintro e w' ⟨rfl, rfl⟩; rw [H1.out])
    go_ret3
    exact ⟨_, _, rfl, 0, rfl⟩
  · have H1 : Hid (Lib.indexByte s.data.toList 63 = (qi s.data.toList : Int)) := h1
    rw [← hsz] at h2
    clear hsz h1
    generalize qi s.data.toList = q at *
    have c1 : (0 : Int) ≤ ↑q := by omega
    have c2 : (↑q : Int) ≤ ↑s.size := by omega
    have c3 : (0 : Int) ≤ ↑q + 1 := by omega
    have c4 : (↑q + 1 : Int) ≤ ↑s.size := by omega
    go_enter Try.func33, Try.ntmps33
    go_wp2_with (go_at_call 34; refine (Try.stringslite_Index_one _ _ _).mono ?_; rintro e w' ⟨rfl, rfl⟩; rw [H1.out])
    go_region
    go_wp2
    go_ret3
    exact ⟨_, _, rfl, 1, rfl⟩

set_option maxHeartbeats 1000000 in
theorem cut_q (s : ByteArray) (hs : s.size ≤ 1048576) (w : World) :
    Calls Try.prog 29 #[.string s, .string ⟨#[63]⟩] w fun e w' => ∃ v b, e = .returned (.tuple #[.string (s.extract 0 (qi s.data.toList)), .string v, .bool b]) ∧ ∃ n, w' = w.drewN n := by
  go_enter Try.func29, Try.ntmps29
  go_wp2_with (go_at_call 33; refine (liteCut_q s hs _).mono ?_; rintro e w' ⟨v, b, rfl, n, rfl⟩)
  go_ret3
  exact ⟨v, b, rfl, n, rfl⟩

set_option maxHeartbeats 400000 in
theorem bytes_yes (s : ByteArray) (hs : s.size ≤ 1048576) (w : World) :
    Calls Try.prog 20 #[.string s] w fun e w' => e = .returned (.bool true) ∧ w' = w := by
  go_enter Try.func20, Try.ntmps20
  go_wp2
  go_ret
  exact ⟨rfl, rfl⟩

set_option maxHeartbeats 400000 in
theorem bytes_no (s : ByteArray) (hs : ¬ s.size ≤ 1048576) (w : World) :
    Calls Try.prog 20 #[.string s] w fun e w' => e = .returned (.bool false) ∧ w' = w := by
  go_enter Try.func20, Try.ntmps20
  go_wp2
  go_ret
  exact ⟨rfl, rfl⟩
end Go.Proofs.Qxb6603468a.Wa
