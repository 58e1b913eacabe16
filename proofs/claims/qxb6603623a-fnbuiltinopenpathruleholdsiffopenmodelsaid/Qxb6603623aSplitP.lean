/- zzSplit's loop, its invariant over lists. -/
import Derived.Test.Qxb6603623aPlain2
namespace Go.Proofs.Qxb6603623a.Pl
open Go Go.Lib Go.Lib.Pa

/-- what holds at the head of a round: k bytes seen, the segment begins at st, ys are the segments that are cut off -/
def SpInv (l : Bs) (k st : Nat) (ys : List Bs) : Prop :=
  (k ≤ l.length → st ≤ k ∧ (47 : UInt8) ∉ (l.drop st).take (k - st) ∧ els l = ys ++ els (l.drop st)) ∧
  (k = l.length + 1 → els l = ys) ∧ ys.length ≤ k

theorem sp_start (l : Bs) : SpInv l 0 0 [] := ⟨fun _ => ⟨Nat.le_refl _, by simp, rfl⟩, fun h => by omega, Nat.le_refl _⟩

theorem drop_split (l : Bs) (k st : Nat) (h1 : st ≤ k) : l.drop st = (l.drop st).take (k - st) ++ l.drop k := by
  have e : l.drop k = (l.drop st).drop (k - st) := by rw [List.drop_drop]; congr 1; omega
  rw [e, List.take_append_drop]

theorem sp_end {l : Bs} {st : Nat} {ys : List Bs} (h : SpInv l l.length st ys) : SpInv l (l.length + 1) (l.length + 1) (ys ++ [(l.drop st).take (l.length - st)]) := by
  obtain ⟨h1, h2, h3⟩ := h.1 (Nat.le_refl _)
  refine ⟨fun h => by omega, fun _ => ?_, by have := h.2.2; simp; omega⟩
  have e := drop_split l l.length st h1
  have e2 := els_elem _ (l.drop l.length) h2 (.inl (by simp))
  rw [← e] at e2
  rw [h3, e2]
  simp [tailEls]

theorem sp_cut {l : Bs} {k st : Nat} {ys : List Bs} (h : SpInv l k st ys) (hk : k < l.length) (hc : l[k]? = some 47) : SpInv l (k + 1) (k + 1) (ys ++ [(l.drop st).take (k - st)]) := by
  obtain ⟨h1, h2, h3⟩ := h.1 (by omega)
  have ed : l.drop k = 47 :: l.drop (k + 1) := by
    rw [List.drop_eq_getElem_cons hk]; congr 1
    rw [List.getElem?_eq_getElem hk] at hc; simpa using hc
  have e := drop_split l k st h1
  have e2 := els_elem _ (l.drop k) h2 (.inr (by rw [ed]; rfl))
  rw [← e, ed] at e2
  have e3 : els (l.drop st) = (l.drop st).take (k - st) :: els (l.drop (k + 1)) := e2
  refine ⟨fun _ => ⟨Nat.le_refl _, by simp, ?_⟩, fun h' => ?_, by have := h.2.2; simp; omega⟩
  · rw [h3, e3]; simp
  · omega

theorem sp_on {l : Bs} {k st : Nat} {ys : List Bs} (h : SpInv l k st ys) (hk : k < l.length) (hc : l[k]? ≠ some 47) : SpInv l (k + 1) st ys := by
  obtain ⟨h1, h2, h3⟩ := h.1 (by omega)
  refine ⟨fun _ => ⟨by omega, ?_, h3⟩, fun h' => by omega, by have := h.2.2; omega⟩
  have e : k + 1 - st = (k - st) + 1 := by omega
  rw [e, List.take_add_one, List.getElem?_drop, show st + (k - st) = k by omega, List.getElem?_eq_getElem hk]
  rw [List.getElem?_eq_getElem hk] at hc
  simp only [List.mem_append, not_or]
  refine ⟨h2, ?_⟩
  intro hm
  apply hc
  have : (47 : UInt8) = l[k] := by simpa using hm
  rw [this]

theorem els_len (l : Bs) : (els l).length ≤ l.length + 1 := by
  induction l with
  | nil => simp [els]
  | cons c t ih =>
    rw [els]
    split
    · simp; omega
    · cases he : els t with
      | nil => simp
      | cons e r => rw [he] at ih; simp at ih ⊢; omega
end Go.Proofs.Qxb6603623a.Pl
