import Derived.Test.Qxb6603823aRows
import Derived.Test.Qxb6603823aShelf
import Derived.Test.Qxb6603823aPlain
import Derived.WalkKit
import Derived.WalkSpells
import Derived.Deep.Draws
import Derived.RegionTactic
import Derived.Deep.QuietTactic
import Derived.BigQuiet
import Derived.Lib.SliceRun
namespace Go.Proofs.Qxb6603823a.Wa
open Go.RowKit Pl

theorem hid {p : Prop} (h : p) : Hid p := h
theorem ret_bool {a b : Bool} (h : a = b) : Ending.returned (.bool a) = .returned (.bool b) := by rw [h]
theorem ret_int {k : IntKind} {a b : Int} (h : a = b) : Ending.returned (.int k a) = .returned (.int k b) := by rw [h]

/-- the cells of a row of bytes -/
def Cells (w : World) (b o : Nat) (xs : List Int) : Prop := ∀ j, j < xs.length → w.cell? ⟨b, o + j, none⟩ = some (.int .u8 (xs.getD j 0))

set_option maxHeartbeats 400000 in
theorem colon_any (b o n cap : Nat) (xs : List Int) (w : World) (hx : xs.length = n) (hn : n ≤ 4194304) (hc : Cells w b o xs) :
    Calls Try.prog 10 #[.slice (some ⟨b, o, none⟩) n cap] w fun e w' => e = .returned (.int .i64 (fc xs)) ∧ w' = w := by
  have Hc := hid hc
  clear hc
  go_enter Try.func10, Try.ntmps10
  go_wp2
  go_loop [3] (fun i => ∃ k : Nat, k ≤ n ∧ i = .int .i64 k ∧ Hid (∀ j, j < k → xs.getD j 0 ≠ 58)) (fun i => n - (intOf i).toNat)
  case atStart => exact ⟨0, Nat.zero_le _, rfl, fun j hj => absurd hj (by omega)⟩
  case round =>
    obtain ⟨k, hk, rfl, HI⟩ := hrel
    by_cases hlt : k < n
    · obtain ⟨x, hxk⟩ : ∃ x, x = xs.getD k 0 := ⟨_, rfl⟩
      have hcell : w.cell? ⟨b, o + k, none⟩ = some (.int .u8 x) := by rw [hxk]; exact Hc.out k (by omega)
      have Hxk := hid hxk
      clear hxk
      go_wp2
      · have h1 : (x == 58) = true := by assumption
        go_ret
        refine ⟨ret_int ?_, rfl⟩
        rw [fc_some xs k (by omega) (by rw [← Hxk.out]; simpa using h1) HI.out]
      · have h1 : (x == 58) = false := by assumption
        have HN : Hid (∀ j, j < k + 1 → xs.getD j 0 ≠ 58) := by
          intro j hj
          by_cases hjk : j = k
          · rw [hjk, ← Hxk.out]; simpa using h1
          · exact HI.out j (by omega)
        go_round
        case rel => exact ⟨k + 1, by omega, by go_num, HN⟩
        case measure => simp [intOf]; omega
    · go_wp2_with fail
      go_ret
      refine ⟨ret_int ?_, rfl⟩
      rw [fc_none xs (fun j hj => HI.out j (by omega))]

set_option maxHeartbeats 400000 in
/-- nothing to look through: nil, or empty -/
theorem colon_none (ao : Option Addr) (cap : Nat) (w : World) :
    Calls Try.prog 10 #[.slice ao 0 cap] w fun e w' => e = .returned (.int .i64 (-1)) ∧ w' = w := by
  go_enter Try.func10, Try.ntmps10
  go_wp2
  refine wp_loop_rounds 1 ?_
  rw [rounds_succ]
  go_wp2
  go_ret
  exact ⟨rfl, rfl⟩

set_option maxHeartbeats 1000000 in
/-- sameBytesAt where the bytes are the same -/
theorem same_any (ba oa na ca off bb ob nb cb : Nat) (A B : List Int) (w : World) (hA : A.length = na) (hB : B.length = nb) (hn : na ≤ 4194304) (hle : off + nb ≤ na)
    (hcA : Cells w ba oa A) (hcB : Cells w bb ob B) (heq : ∀ k, k < nb → A.getD (off + k) 0 = B.getD k 0) :
    Calls Try.prog 9 #[.slice (some ⟨ba, oa, none⟩) na ca, .int .i64 off, .slice (some ⟨bb, ob, none⟩) nb cb] w fun e w' => e = .returned (.bool true) ∧ ∃ d, w' = w.drewN d := by
  have HA := hid hcA
  have HB := hid hcB
  have HE := hid heq
  clear hcA hcB heq
  go_enter Try.func9, Try.ntmps9
  go_wp2
  go_loopw [7] (fun i wr => ∃ k d : Nat, k ≤ nb ∧ i = .int .i64 k ∧ wr = w.drewN d) (fun i _ => nb - (intOf i).toNat)
  case atStart => exact ⟨0, 0, Nat.zero_le _, rfl, rfl⟩
  case round =>
    obtain ⟨k, d, hk, rfl, rfl⟩ := hrel
    by_cases hlt : k < nb
    · obtain ⟨x, hxk⟩ : ∃ x, x = B.getD k 0 := ⟨_, rfl⟩
      have hcb : w.cell? ⟨bb, ob + k, none⟩ = some (.int .u8 x) := by rw [hxk]; exact HB.out k (by omega)
      have hca : w.cell? ⟨ba, oa + (off + k), none⟩ = some (.int .u8 x) := by
        have := HA.out (off + k) (by omega)
        rw [HE.out k hlt, ← hxk] at this
        exact this
      have c1 : (0 : Int) ≤ ↑off + ↑k := by omega
      have c2 : (↑off + ↑k : Int) < ↑na := by omega
      have c3 : (↑k : Int) < ↑nb := by omega
      clear hxk
      go_wp2
      go_quiet (fail)
      go_wp2
      go_roundw
      case rel => exact ⟨k + 1, _, by omega, by go_num, rfl⟩
      case measure => simp [intOf]; omega
    · go_wp2_with fail
      go_ret
      exact ⟨rfl, d, rfl⟩

set_option maxHeartbeats 400000 in
/-- sameBytesAt where there is nothing to hold against -/
theorem same_none (ao : Option Addr) (na ca off : Nat) (bo : Option Addr) (cb : Nat) (w : World) (hn : na ≤ 4194304) (hle : off ≤ na) :
    Calls Try.prog 9 #[.slice ao na ca, .int .i64 off, .slice bo 0 cb] w fun e w' => e = .returned (.bool true) ∧ w' = w := by
  go_enter Try.func9, Try.ntmps9
  go_wp2
  refine wp_loop_rounds 1 ?_
  rw [rounds_succ]
  go_wp2
  go_ret
  exact ⟨rfl, rfl⟩

/-- what split hands back: its two results, where the first colon stands within -/
theorem index_any (b o n cap : Nat) (xs : List Int) (w : World) (hx : xs.length = n) (hw : ∀ x ∈ xs, 0 ≤ x ∧ x ≤ 255) (hc : Cells w b o xs) :
    Calls Try.prog 14 #[.slice (some ⟨b, o, none⟩) n cap, .int .u8 58] w fun e w' => e = .returned (.int .i64 (fc xs)) ∧ w' = w := by
  rw [← fc_index xs hw]
  exact Try.bytes_IndexByte b o n cap xs 58 w hx (fun i hi => hc i (by omega))

set_option maxHeartbeats 1000000 in
theorem split_in (b o n cap i : Nat) (xs : List Int) (w : World) (hx : xs.length = n) (hn : n ≤ 4194304) (hcap : n ≤ cap) (hw : ∀ x ∈ xs, 0 ≤ x ∧ x ≤ 255) (hc : Cells w b o xs)
    (hi : fc xs = i) (h0 : 0 < i) (h1 : i + 1 < n) :
    Calls Try.prog 13 #[.slice (some ⟨b, o, none⟩) n cap] w fun e w' => e = .returned (.tuple #[.slice (some ⟨b, o, none⟩) i cap, .slice (some ⟨b, o + (i + 1), none⟩) (n - (i + 1)) (cap - (i + 1))]) ∧ ∃ d, w' = w.drewN d := by
  have Hix := hid (index_any b o n cap xs w hx hw hc)
  rw [hi] at Hix
  clear hi hc hw
  have c1 : (0 : Int) ≤ ↑i := by omega
  have c2 : (↑i : Int) ≤ ↑cap := by omega
  have c3 : (0 : Int) ≤ ↑i + 1 := by omega
  have c4 : (↑i + 1 : Int) ≤ ↑n := by omega
  go_enter Try.func13, Try.ntmps13
  go_wp2_with (go_at_call 14; refine Hix.out.mono ?_; rintro e w' ⟨rfl, rfl⟩)
  go_region
  go_wp2
  go_ret2
  exact ⟨rfl, 1, rfl⟩

set_option maxHeartbeats 1000000 in
theorem split_out (b o n cap : Nat) (xs : List Int) (w : World) (hx : xs.length = n) (hn : n ≤ 4194304) (hw : ∀ x ∈ xs, 0 ≤ x ∧ x ≤ 255) (hc : Cells w b o xs)
    (hi : fc xs ≤ 0 ∨ (n : Int) - 1 ≤ fc xs) :
    Calls Try.prog 13 #[.slice (some ⟨b, o, none⟩) n cap] w fun e w' => e = .returned (.tuple #[.slice none 0 0, .slice (some ⟨b, o, none⟩) n cap]) ∧ w' = w := by
  have Hix := hid (index_any b o n cap xs w hx hw hc)
  clear hc hw
  generalize fc xs = f at *
  by_cases h0 : 0 < f
  · have h1 : (n : Int) - 1 ≤ f := by omega
    go_enter Try.func13, Try.ntmps13
    go_wp2_with (go_at_call 14; refine Hix.out.mono ?_; rintro e w' ⟨rfl, rfl⟩)
    go_ret2
    exact ⟨rfl, rfl⟩
  · go_enter Try.func13, Try.ntmps13
    go_wp2_with (go_at_call 14; refine Hix.out.mono ?_; rintro e w' ⟨rfl, rfl⟩)
    go_ret2
    exact ⟨rfl, rfl⟩

set_option maxHeartbeats 1000000 in
theorem split_nil (w : World) :
    Calls Try.prog 13 #[.slice none 0 0] w fun e w' => e = .returned (.tuple #[.slice none 0 0, .slice none 0 0]) ∧ w' = w := by
  go_enter Try.func13, Try.ntmps13
  go_wp2_with (go_at_call 14; refine (Try.bytes_IndexByte_nil _ _).mono ?_; rintro e w' ⟨rfl, rfl⟩)
  go_ret2
  exact ⟨rfl, rfl⟩

/-- ZZSplit is split -/
theorem zz_of (v v1 v2 : Value) (w : World) (h : Calls Try.prog 13 #[v] w fun e w' => e = .returned (.tuple #[v1, v2]) ∧ ∃ d, w' = w.drewN d) :
    Calls Try.prog 8 #[v] w fun e w' => e = .returned (.tuple #[v1, v2]) ∧ ∃ d, w' = w.drewN d := by
  have H := hid h
  clear h
  go_enter Try.func8, Try.ntmps8
  go_wp2_with (go_at_call 13; refine H.out.mono ?_; rintro e w' ⟨rfl, d, rfl⟩)
  go_ret2
  exact ⟨rfl, d, rfl⟩
theorem same_drew {v1 v2 : Value} {w : World} {K : Value} (h : Calls Try.prog 13 #[K] w fun e w' => e = .returned (.tuple #[v1, v2]) ∧ w' = w) :
    Calls Try.prog 13 #[K] w fun e w' => e = .returned (.tuple #[v1, v2]) ∧ ∃ d, w' = w.drewN d := by
  refine h.mono ?_
  rintro e w' ⟨rfl, rfl⟩
  exact ⟨rfl, 0, rfl⟩
end Go.Proofs.Qxb6603823a.Wa
