/- Plain mathematics for FnParseInt64AcceptsExactlyPlainUpTo18Digits: lists of bytes, no Go in sight. -/
import Derived.Lib.Bytealg
import Derived.Lib.IndexLaws
namespace Go.Proofs.Qxb6604044a.Pl
open Go

abbrev Bs := List UInt8
/-- a byte as an integer -/
def bi (c : UInt8) : Int := (c.toNat : Int)
def dig (c : UInt8) : Bool := decide (48 ≤ bi c ∧ bi c ≤ 57)
def digI (c : Int) : Bool := decide (48 ≤ c ∧ c ≤ 57)
/-- isDigits -/
def isDigB (x : Bs) : Bool := x.all dig && !x.isEmpty
/-- where the first '.' stands, or the length -/
def pi : Bs → Nat
  | [] => 0
  | c :: cs => if bi c = 46 then 0 else pi cs + 1
def isPlainB (l : Bs) : Bool := isDigB (l.take (pi l)) && (decide (pi l = l.length) || isDigB (l.drop (pi l + 1)))
def cnt (l : Bs) : Nat := l.countP dig
def tgt (l : Bs) : Bool := isPlainB l && decide (cnt l ≤ 18)

theorem pi_cons {c : UInt8} {cs : Bs} (h : ¬ bi c = 46) : pi (c :: cs) = pi cs + 1 := by rw [pi, if_neg h]

theorem pi_index : ∀ l : Bs, (Lib.indexByte l 46 = -1 ∧ pi l = l.length) ∨ (Lib.indexByte l 46 = (pi l : Int) ∧ pi l < l.length)
  | [] => by left; simp [Lib.indexByte, pi]
  | c :: cs => by
    by_cases hc : c = 46
    · right; subst hc; simp [Lib.indexByte, pi, bi]
    · have hb : ¬ bi c = 46 := by
        intro h; apply hc; apply UInt8.toNat_inj.1; unfold bi at h; show c.toNat = 46; omega
      rw [pi_cons hb]
      rcases pi_index cs with ⟨h1, h2⟩ | ⟨h1, h2⟩
      · left; simp [Lib.indexByte, hc, h1, h2]
      · right; simp [Lib.indexByte, hc, h1]; omega

theorem pi_gt : ∀ (l : Bs) (k : Nat), k < l.length → (∀ j, j ≤ k → ∀ c, l[j]? = some c → ¬ bi c = 46) → k < pi l
  | [], _, h, _ => absurd h (by simp)
  | c :: cs, 0, _, h => by rw [pi_cons (h 0 (Nat.le_refl _) c rfl)]; omega
  | c :: cs, k + 1, hk, h => by
    have ih := pi_gt cs k (by simpa using hk) (fun j hj d hd => h (j + 1) (by omega) d (by simpa using hd))
    rw [pi_cons (h 0 (by omega) c rfl)]; omega

theorem pi_at : ∀ (l : Bs) (q : Nat) (c : UInt8), l[q]? = some c → bi c = 46 → (∀ j, j < q → ∀ d, l[j]? = some d → ¬ bi d = 46) → pi l = q
  | [], _, _, h, _, _ => by simp at h
  | x :: xs, 0, c, h, hc, _ => by
    have : x = c := by simpa using h
    subst this; rw [pi, if_pos hc]
  | x :: xs, q + 1, c, h, hc, hj => by
    have ih := pi_at xs q c (by simpa using h) hc (fun j hj' d hd => hj (j + 1) (by omega) d (by simpa using hd))
    rw [pi_cons (hj 0 (by omega) x rfl), ih]

theorem pi_le : ∀ l : Bs, pi l ≤ l.length
  | [] => Nat.le_refl _
  | c :: cs => by
    have := pi_le cs
    rw [pi]; split
    · exact Nat.zero_le _
    · simp; exact this

theorem pi_none {l : Bs} (h : ∀ (j : Nat) c, l[j]? = some c → ¬ bi c = 46) : pi l = l.length := by
  rcases Nat.lt_or_ge (pi l) l.length with hlt | hge
  · exfalso
    rcases Nat.eq_zero_or_pos l.length with h0 | h0
    · omega
    · have := pi_gt l (l.length - 1) (by omega) (fun j _ c hc => h j c hc)
      omega
  · have := pi_le l; omega

theorem dig_46 {c : UInt8} (h : dig c = true) : ¬ bi c = 46 := by
  unfold dig at h; simp at h; omega

theorem all_at {x : Bs} (h : x.all dig = true) {j : Nat} {c : UInt8} (hc : x[j]? = some c) : dig c = true :=
  List.all_eq_true.1 h c (List.mem_of_getElem? hc)

theorem take_at {l : Bs} {k j : Nat} (h : j < k) : (l.take k)[j]? = l[j]? := by
  rw [List.getElem?_take, if_pos h]

theorem cnt_all {x : Bs} (h : x.all dig = true) : cnt x = x.length := by
  unfold cnt
  rw [List.countP_eq_length]
  exact fun a ha => List.all_eq_true.1 h a ha

theorem cut_at {l : Bs} {q : Nat} {c : UInt8} (h : l[q]? = some c) : l = l.take q ++ c :: l.drop (q + 1) := by
  obtain ⟨hq, e⟩ := List.getElem?_eq_some_iff.1 h
  rw [← e, ← List.drop_eq_getElem_cons hq, List.take_append_drop]

theorem cnt_cut {l : Bs} {q : Nat} {c : UInt8} (h : l[q]? = some c) (hc : bi c = 46) (h1 : (l.take q).all dig = true) (h2 : (l.drop (q + 1)).all dig = true) : cnt l + 1 = l.length := by
  have hq := (List.getElem?_eq_some_iff.1 h).1
  have e := cut_at h
  have hd : dig c = false := by unfold dig; rw [hc]; decide
  have hcnt : cnt l = cnt (l.take q) + cnt (l.drop (q + 1)) := by
    show l.countP dig = (l.take q).countP dig + (l.drop (q + 1)).countP dig
    conv => lhs; rw [e]
    rw [List.countP_append, List.countP_cons, hd]
    simp
  rw [hcnt, cnt_all h1, cnt_all h2, List.length_take, List.length_drop]
  omega

theorem pi_byte {l : Bs} (h : pi l < l.length) : ∃ c, l[pi l]? = some c ∧ bi c = 46 := by
  rcases pi_index l with ⟨_, h2⟩ | ⟨h1, _⟩
  · omega
  · have := (Lib.indexByte_some h1).1
    exact ⟨46, this, rfl⟩

theorem plain_len {l : Bs} (h : isPlainB l = true) : l.length ≤ cnt l + 1 := by
  unfold isPlainB at h
  rw [Bool.and_eq_true] at h
  obtain ⟨h1, h2⟩ := h
  have h1' : (l.take (pi l)).all dig = true := by unfold isDigB at h1; rw [Bool.and_eq_true] at h1; exact h1.1
  rcases Nat.lt_or_ge (pi l) l.length with hlt | hge
  · rw [decide_eq_false (by omega), Bool.false_or] at h2
    have h2' : (l.drop (pi l + 1)).all dig = true := by unfold isDigB at h2; rw [Bool.and_eq_true] at h2; exact h2.1
    obtain ⟨c, hc, hb⟩ := pi_byte hlt
    have := cnt_cut hc hb h1' h2'
    omega
  · rw [List.take_of_length_le hge] at h1'
    rw [cnt_all h1']; omega

/-- longer than 19 bytes: refused -/
theorem tgt_long {l : Bs} (h : 19 < l.length) : tgt l = false := by
  unfold tgt
  cases hp : isPlainB l with
  | false => rfl
  | true =>
    have := plain_len hp
    rw [Bool.true_and, decide_eq_false]; omega

theorem ne_len (x : Bs) : (!x.isEmpty) = decide (0 < x.length) := by cases x <;> simp

/-! ### the scan of ParseInt64 -/
/-- k bytes are read; p: where the point was met, or -1 -/
def ScInv (l : Bs) (k : Nat) (p : Int) : Prop :=
  (p = -1 ∧ (l.take k).all dig = true) ∨
  ∃ q : Nat, p = q ∧ q < k ∧ (∃ c, l[q]? = some c ∧ bi c = 46) ∧ (l.take q).all dig = true ∧ ∀ j, q < j → j < k → ∀ c, l[j]? = some c → dig c = true

theorem sc_start (l : Bs) : ScInv l 0 (-1) := .inl ⟨rfl, by simp⟩

theorem sc_bd {l : Bs} {k : Nat} {p : Int} (h : ScInv l k p) : -1 ≤ p ∧ p < k := by
  rcases h with ⟨rfl, _⟩ | ⟨q, rfl, h, _⟩ <;> omega

theorem take_succ_all {l : Bs} {k : Nat} {c : UInt8} (h : (l.take k).all dig = true) (hc : l[k]? = some c) (hd : dig c = true) : (l.take (k + 1)).all dig = true := by
  rw [List.take_add_one, hc, List.all_append, h]; simp [hd]

theorem sc_dig {l : Bs} {k : Nat} {p : Int} {c : UInt8} (h : ScInv l k p) (hc : l[k]? = some c) (hd : dig c = true) : ScInv l (k + 1) p := by
  rcases h with ⟨rfl, h1⟩ | ⟨q, rfl, h1, h2, h3, h4⟩
  · exact .inl ⟨rfl, take_succ_all h1 hc hd⟩
  · refine .inr ⟨q, rfl, by omega, h2, h3, fun j hj hjk d hjd => ?_⟩
    by_cases e : j = k
    · subst e; rw [hc] at hjd; cases hjd; exact hd
    · exact h4 j hj (by omega) d hjd

theorem sc_point {l : Bs} {k : Nat} {p : Int} {c : UInt8} (h : ScInv l k p) (hc : l[k]? = some c) (hb : bi c = 46) (hp : p < 0) : ScInv l (k + 1) k := by
  rcases h with ⟨rfl, h1⟩ | ⟨q, rfl, _⟩
  · exact .inr ⟨k, rfl, by omega, ⟨c, hc, hb⟩, h1, fun j h1 h2 => absurd h1 (by omega)⟩
  · omega

theorem not_all {x : Bs} {c : UInt8} (hm : c ∈ x) (hd : dig c = false) : isDigB x = false := by
  unfold isDigB
  have : x.all dig = false := by
    rw [Bool.eq_false_iff]; intro h
    rw [List.all_eq_true.1 h c hm] at hd; cases hd
  rw [this, Bool.false_and]

/-- a byte that stops the scan: refused -/
theorem tgt_stop {l : Bs} {k : Nat} {p : Int} {c : UInt8} (h : ScInv l k p) (hc : l[k]? = some c) (hd : dig c = false) (hs : ¬ (bi c = 46 ∧ p < 0)) : tgt l = false := by
  have hk := (List.getElem?_eq_some_iff.1 hc).1
  have : isPlainB l = false := by
    unfold isPlainB
    rcases h with ⟨rfl, h1⟩ | ⟨q, rfl, h1, ⟨x, hx, hb⟩, h3, h4⟩
    · have hn : ¬ bi c = 46 := fun e => hs ⟨e, by omega⟩
      have hgt : k < pi l := pi_gt l k hk (by
        intro j hj d hjd
        by_cases e : j = k
        · subst e; rw [hc] at hjd; cases hjd; exact hn
        · exact dig_46 (all_at h1 (j := j) (by rw [take_at (l := l) (k := k) (j := j) (by omega)]; exact hjd)))
      rw [not_all (c := c) (List.mem_of_getElem? (i := k) (by rw [take_at hgt]; exact hc)) hd, Bool.false_and]
    · have hq : pi l = q := pi_at l q x hx hb (fun j hj d hjd => dig_46 (all_at h3 (by rw [take_at hj]; exact hjd)))
      have hqk : ¬ q = l.length := by omega
      rw [hq, decide_eq_false hqk, Bool.false_or, not_all (x := l.drop (q + 1)) (c := c) (List.mem_of_getElem? (i := k - (q + 1)) (by rw [List.getElem?_drop, show q + 1 + (k - (q + 1)) = k by omega]; exact hc)) hd, Bool.and_false]
  unfold tgt; rw [this, Bool.false_and]

/-- the scan came to the end, no point -/
theorem tgt_end0 {l : Bs} (h : ScInv l l.length (-1)) : tgt l = decide (0 < l.length ∧ l.length ≤ 18) := by
  rcases h with ⟨_, h1⟩ | ⟨q, h0, _⟩
  · rw [List.take_length] at h1
    have hp : pi l = l.length := pi_none (fun j c hc => dig_46 (all_at h1 hc))
    unfold tgt isPlainB
    rw [hp, List.take_length, decide_eq_true rfl, Bool.true_or, Bool.and_true, cnt_all h1]
    unfold isDigB
    rw [h1, Bool.true_and, Bool.eq_iff_iff]
    simp [List.length_pos_iff]
  · omega

/-- the scan came to the end, a point at q -/
theorem tgt_end1 {l : Bs} {q : Nat} (h : ScInv l l.length q) (hl : l.length ≤ 19) : tgt l = decide (0 < q ∧ q + 1 < l.length) := by
  rcases h with ⟨h0, _⟩ | ⟨q', h0, h1, ⟨x, hx, hb⟩, h3, h4⟩
  · omega
  · obtain rfl : q = q' := by omega
    have hp : pi l = q := pi_at l q x hx hb (fun j hj d hjd => dig_46 (all_at h3 (by rw [take_at hj]; exact hjd)))
    have h5 : (l.drop (q + 1)).all dig = true := by
      rw [List.all_eq_true]
      intro c hc
      obtain ⟨j, hj⟩ := List.mem_iff_getElem?.1 hc
      rw [List.getElem?_drop] at hj
      have hlt := (List.getElem?_eq_some_iff.1 hj).1
      exact h4 _ (by omega) hlt c hj
    have hcnt := cnt_cut hx hb h3 h5
    unfold tgt isPlainB isDigB
    rw [hp, decide_eq_false (by omega), Bool.false_or, h3, h5, Bool.true_and, Bool.true_and, decide_eq_true (show cnt l ≤ 18 by omega), Bool.and_true, ne_len, ne_len, List.length_take, List.length_drop, Bool.eq_iff_iff]
    simp only [Bool.and_eq_true, decide_eq_true_eq]
    omega
end Go.Proofs.Qxb6604044a.Pl
