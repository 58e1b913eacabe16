/- Plain mathematics for the two laws over split: the first colon in a list of numbers. -/
import Derived.Lib.Bytealg
import Derived.Lib.Bytes
import Derived.Lib.IndexLaws
namespace Go.Proofs.Qxb6603823a.Pl
open Go

/-- the place of the first 58, or -1 -/
def fc : List Int → Int
  | [] => -1
  | x :: r => if x = 58 then 0 else if fc r = -1 then -1 else fc r + 1

theorem fc_ge : ∀ l, -1 ≤ fc l
  | [] => Int.le_refl _
  | x :: r => by
    have := fc_ge r
    rw [fc]; split
    · omega
    · split <;> omega

theorem fc_none : ∀ l : List Int, (∀ j, j < l.length → l.getD j 0 ≠ 58) → fc l = -1
  | [], _ => rfl
  | x :: r, h => by
    have h0 := h 0 (by simp)
    have hr := fc_none r (fun j hj => by simpa using h (j + 1) (by simp; omega))
    rw [fc, if_neg (by simpa using h0), if_pos hr]

theorem fc_some : ∀ (l : List Int) (k : Nat), k < l.length → l.getD k 0 = 58 → (∀ j, j < k → l.getD j 0 ≠ 58) → fc l = k
  | [], _, h, _, _ => absurd h (by simp)
  | x :: r, 0, _, h, _ => by rw [fc, if_pos (by simpa using h)]; rfl
  | x :: r, k + 1, hk, h, hj => by
    have h0 := hj 0 (by omega)
    have ih := fc_some r k (by simpa using hk) (by simpa using h) (fun j hj' => by simpa using hj (j + 1) (by omega))
    rw [fc, if_neg (by simpa using h0), ih, if_neg (by omega)]
    omega

theorem fc_cases : ∀ l : List Int, (fc l = -1 ∧ ∀ j, j < l.length → l.getD j 0 ≠ 58) ∨ ∃ k : Nat, fc l = k ∧ k < l.length ∧ l.getD k 0 = 58 ∧ ∀ j, j < k → l.getD j 0 ≠ 58
  | [] => .inl ⟨rfl, fun j hj => absurd hj (by simp)⟩
  | x :: r => by
    by_cases hx : x = 58
    · right
      exact ⟨0, by rw [fc, if_pos hx]; rfl, by simp, by simpa using hx, fun j hj => absurd hj (by omega)⟩
    · rcases fc_cases r with ⟨h1, h2⟩ | ⟨k, h1, h2, h3, h4⟩
      · left
        refine ⟨by rw [fc, if_neg hx, if_pos h1], fun j hj => ?_⟩
        cases j with
        | zero => simpa using hx
        | succ j => simpa using h2 j (by simpa using hj)
      · right
        refine ⟨k + 1, by rw [fc, if_neg hx, h1, if_neg (by omega)]; omega, by simp; omega, by simpa using h3, fun j hj => ?_⟩
        cases j with
        | zero => simpa using hx
        | succ j => simpa using h4 j (by omega)

theorem byte58 {x : Int} (h0 : 0 ≤ x) (h1 : x ≤ 255) : (UInt8.ofNat x.toNat == 58) = decide (x = 58) := by
  rw [Bool.eq_iff_iff, beq_iff_eq, decide_eq_true_eq, ← UInt8.toNat_inj, UInt8.toNat_ofNat']
  show x.toNat % 256 = 58 ↔ x = 58
  omega

theorem fc_index : ∀ l : List Int, (∀ x ∈ l, 0 ≤ x ∧ x ≤ 255) → Lib.indexByte (Lib.bytesOf l) 58 = fc l
  | [], _ => rfl
  | x :: r, h => by
    have ih := fc_index r (fun y hy => h y (by simp [hy]))
    obtain ⟨h0, h1⟩ := h x (by simp)
    show Lib.indexByte (UInt8.ofNat x.toNat :: Lib.bytesOf r) 58 = _
    rw [Lib.indexByte, byte58 h0 h1, ih, fc]
    simp
end Go.Proofs.Qxb6603823a.Pl
