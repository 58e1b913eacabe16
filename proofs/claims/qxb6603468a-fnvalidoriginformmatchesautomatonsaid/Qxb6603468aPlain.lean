/- Plain mathematics for FnValidOriginFormMatchesAutomaton: no Go in sight. -/
import Derived.Lib.Bytealg
import Derived.Lib.IndexLaws
namespace Go.Proofs.Qxb6603468a.Pl
open Go

/-- a hex digit, as a number -/
def hexB (c : Int) : Bool := decide (48 ≤ c ∧ c ≤ 57) || decide (97 ≤ c ∧ c ≤ 102) || decide (65 ≤ c ∧ c ≤ 70)
/-- visible ASCII -/
def visB (c : Int) : Bool := decide (33 ≤ c ∧ c ≤ 126)
/-- a byte as an integer -/
def bi (c : UInt8) : Int := (c.toNat : Int)

/-- the loop of ValidOriginForm over what is left of the target, 'p' bytes of it being path -/
def vl : List UInt8 → Nat → Bool
  | [], _ => true
  | c :: cs, p =>
    if visB (bi c) = true then
      if bi c = 37 ∧ 0 < p then
        if 2 < p ∧ hexB (bi (cs.getD 0 0)) = true ∧ hexB (bi (cs.getD 1 0)) = true then vl cs (p - 1) else false
      else vl cs (p - 1)
    else false

/-- the loop of originFormModel -/
def aut : List UInt8 → Bool → Nat → Bool
  | [], _, need => decide (need = 0)
  | c :: cs, q, need =>
    if visB (bi c) = true then
      if 0 < need then (if hexB (bi c) = true then aut cs q (need - 1) else false)
      else if q = true then aut cs q need
      else if bi c = 63 then aut cs true need
      else if bi c = 37 then aut cs q 2
      else aut cs q need
    else false

/-- where the first '?' stands, or the length -/
def qi : List UInt8 → Nat
  | [] => 0
  | c :: cs => if bi c = 63 then 0 else qi cs + 1

theorem hex_facts {c : Int} (h : hexB c = true) : visB c = true ∧ c ≠ 37 ∧ c ≠ 63 := by
  unfold hexB at h
  unfold visB
  simp at h ⊢
  omega

theorem vl_bad {c : UInt8} {cs : List UInt8} {p : Nat} (h : ¬ visB (bi c) = true) : vl (c :: cs) p = false := by
  rw [vl, if_neg h]
theorem vl_pct {c : UInt8} {cs : List UInt8} {p : Nat} (h : bi c = 37) (hp : 0 < p)
    (hx : 2 < p ∧ hexB (bi (cs.getD 0 0)) = true ∧ hexB (bi (cs.getD 1 0)) = true) : vl (c :: cs) p = vl cs (p - 1) := by
  rw [vl, if_pos (by rw [h]; rfl), if_pos ⟨h, hp⟩, if_pos hx]
theorem vl_pct_bad {c : UInt8} {cs : List UInt8} {p : Nat} (h : bi c = 37) (hp : 0 < p)
    (hx : ¬ (2 < p ∧ hexB (bi (cs.getD 0 0)) = true ∧ hexB (bi (cs.getD 1 0)) = true)) : vl (c :: cs) p = false := by
  rw [vl, if_pos (by rw [h]; rfl), if_pos ⟨h, hp⟩, if_neg hx]
theorem vl_other {c : UInt8} {cs : List UInt8} {p : Nat} (h : visB (bi c) = true) (hp : ¬ (bi c = 37 ∧ 0 < p)) : vl (c :: cs) p = vl cs (p - 1) := by
  rw [vl, if_pos h, if_neg hp]

theorem aut_bad {c : UInt8} {cs : List UInt8} {q : Bool} {n : Nat} (h : ¬ visB (bi c) = true) : aut (c :: cs) q n = false := by
  rw [aut, if_neg h]
theorem aut_need {c : UInt8} {cs : List UInt8} {q : Bool} {n : Nat} (hn : 0 < n) (h : hexB (bi c) = true) : aut (c :: cs) q n = aut cs q (n - 1) := by
  rw [aut, if_pos (hex_facts h).1, if_pos hn, if_pos h]
theorem aut_need_bad {c : UInt8} {cs : List UInt8} {q : Bool} {n : Nat} (hn : 0 < n) (h : ¬ hexB (bi c) = true) : aut (c :: cs) q n = false := by
  by_cases hv : visB (bi c) = true
  · rw [aut, if_pos hv, if_pos hn, if_neg h]
  · exact aut_bad hv
theorem aut_q {c : UInt8} {cs : List UInt8} (h : visB (bi c) = true) : aut (c :: cs) true 0 = aut cs true 0 := by
  rw [aut, if_pos h, if_neg (Nat.lt_irrefl 0), if_pos rfl]
theorem aut_quest {c : UInt8} {cs : List UInt8} (h : bi c = 63) : aut (c :: cs) false 0 = aut cs true 0 := by
  rw [aut, if_pos (by rw [h]; rfl), if_neg (Nat.lt_irrefl 0), if_neg (by decide), if_pos h]
theorem aut_pct {c : UInt8} {cs : List UInt8} (h : bi c = 37) : aut (c :: cs) false 0 = aut cs false 2 := by
  rw [aut, if_pos (by rw [h]; rfl), if_neg (Nat.lt_irrefl 0), if_neg (by decide), if_neg (by omega), if_pos h]
theorem aut_other {c : UInt8} {cs : List UInt8} (hv : visB (bi c) = true) (h : ¬ bi c = 63) (h' : ¬ bi c = 37) : aut (c :: cs) false 0 = aut cs false 0 := by
  rw [aut, if_pos hv, if_neg (Nat.lt_irrefl 0), if_neg (by decide), if_neg h, if_neg h']

theorem vl_zero : ∀ l, vl l 0 = aut l true 0
  | [] => by simp [vl, aut]
  | c :: cs => by
    by_cases hv : visB (bi c) = true
    · rw [vl_other hv (by omega), aut_q hv]; exact vl_zero cs
    · rw [vl_bad hv, aut_bad hv]

theorem qi_le : ∀ l, qi l ≤ l.length
  | [] => by simp [qi]
  | c :: cs => by
    have := qi_le cs
    simp only [qi, List.length_cons]
    split <;> omega

theorem qi_cons {c : UInt8} {cs : List UInt8} (h : ¬ bi c = 63) : qi (c :: cs) = qi cs + 1 := by rw [qi, if_neg h]

theorem vl_aut (n : Nat) : ∀ l : List UInt8, l.length ≤ n → vl l (qi l) = aut l false 0 := by
  induction n using Nat.strongRecOn with
  | ind n ih =>
    intro l hl
    cases l with
    | nil => simp [vl, aut]
    | cons c cs =>
      have hl' : cs.length + 1 ≤ n := by simpa using hl
      by_cases hv : visB (bi c) = true
      · by_cases hq : bi c = 63
        · rw [aut_quest hq, qi, if_pos hq, vl_other hv (by omega)]
          exact vl_zero cs
        · rw [qi_cons hq]
          by_cases hp : bi c = 37
          · rw [aut_pct hp]
            cases cs with
            | nil => rw [vl_pct_bad hp (by omega) (by simp [qi])]; simp [aut]
            | cons a r1 =>
              by_cases ha : hexB (bi a) = true
              · obtain ⟨a1, a2, a3⟩ := hex_facts ha
                rw [aut_need (by omega) ha, qi_cons a3]
                cases r1 with
                | nil => rw [vl_pct_bad hp (by omega) (by simp [qi])]; simp [aut]
                | cons b r =>
                  by_cases hb : hexB (bi b) = true
                  · obtain ⟨b1, b2, b3⟩ := hex_facts hb
                    rw [aut_need (by omega) hb, qi_cons b3, vl_pct hp (by omega) ⟨by omega, by simpa using ha, by simpa using hb⟩,
                      Nat.add_sub_cancel, vl_other a1 (by omega), Nat.add_sub_cancel, vl_other b1 (by omega), Nat.add_sub_cancel]
                    exact ih r.length (by simp only [List.length_cons] at hl'; omega) r (Nat.le_refl _)
                  · rw [aut_need_bad (by omega) hb, vl_pct_bad hp (by omega) (by simp [hb])]
              · rw [aut_need_bad (by omega) ha, vl_pct_bad hp (by omega) (by simp [ha])]
          · rw [aut_other hv hq hp, vl_other hv (by omega), Nat.add_sub_cancel]
            exact ih cs.length (by omega) cs (Nat.le_refl _)
      · rw [vl_bad hv, aut_bad hv]

theorem law (l : List UInt8) : vl l (qi l) = aut l false 0 := vl_aut l.length l (Nat.le_refl _)

/-- the place of the first '?' as the library's index gives it -/
theorem qi_index : ∀ l : List UInt8, (Lib.indexByte l 63 = -1 ∧ qi l = l.length) ∨ (Lib.indexByte l 63 = (qi l : Int) ∧ qi l < l.length)
  | [] => by left; simp [Lib.indexByte, qi]
  | c :: cs => by
    by_cases hc : c = 63
    · right; subst hc; simp [Lib.indexByte, qi, bi]
    · have hb : ¬ bi c = 63 := by
        intro h; apply hc; apply UInt8.toNat_inj.1; unfold bi at h; show c.toNat = 63; omega
      rw [qi_cons hb]
      rcases qi_index cs with ⟨h1, h2⟩ | ⟨h1, h2⟩
      · left; simp [Lib.indexByte, hc, h1, h2]
      · right; simp [Lib.indexByte, hc, h1]; omega
end Go.Proofs.Qxb6603468a.Pl
