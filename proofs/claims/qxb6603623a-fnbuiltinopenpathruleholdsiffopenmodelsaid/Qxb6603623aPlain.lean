/- Plain mathematics for FnBuiltinOpenPathRuleHoldsIffOpenModel: lists of bytes, no Go in sight. -/
import Derived.Lib.CleanSame
import Derived.Lib.Strings
namespace Go.Proofs.Qxb6603623a.Pl
open Go Go.Lib Go.Lib.Pa

abbrev Bs := List UInt8
def join (A : List Bs) : Bs := ([47] : Bs).intercalate A

/-! ### els and join -/
theorem els_ne : ∀ l : Bs, els l ≠ []
  | [] => by simp [els]
  | c :: t => by
    rw [els]; split
    · simp
    · split <;> simp

theorem join_nil : join [] = [] := rfl
theorem join_one (x : Bs) : join [x] = x := by simp [join, List.intercalate]
theorem join_cons (x y : Bs) (r : List Bs) : join (x :: y :: r) = x ++ 47 :: join (y :: r) := by
  simp [join, List.intercalate, List.intersperse]

theorem join_els : ∀ l : Bs, join (els l) = l
  | [] => by simp [els, join, List.intercalate]
  | c :: t => by
    have ih := join_els t
    rw [els]
    split
    · rename_i h
      subst h
      cases he : els t with
      | nil => exact absurd he (els_ne t)
      | cons e r => rw [join_cons, ← he, ih]; rfl
    · cases he : els t with
      | nil => exact absurd he (els_ne t)
      | cons e r =>
        rw [he] at ih
        cases r with
        | nil => rw [join_one] at ih; simp only [join_one, ih]
        | cons y r => rw [join_cons] at ih; simp only [join_cons, List.cons_append, ih]

theorem els_free : ∀ (l : Bs), ∀ x ∈ els l, (47 : UInt8) ∉ x
  | [] => by simp [els]
  | c :: t => by
    have ih := els_free t
    rw [els]
    split
    · intro x hx
      rcases List.mem_cons.1 hx with rfl | h
      · simp
      · exact ih x h
    · rename_i hc
      cases he : els t with
      | nil => exact absurd he (els_ne t)
      | cons e r =>
        rw [he] at ih
        intro x hx
        rcases List.mem_cons.1 hx with rfl | h
        · have := ih e (by simp)
          simp only [List.mem_cons, not_or]
          exact ⟨fun h => hc h.symm, this⟩
        · exact ih x (by simp [h])

theorem els_join : ∀ A : List Bs, A ≠ [] → (∀ x ∈ A, (47 : UInt8) ∉ x) → els (join A) = A
  | [], h, _ => absurd rfl h
  | [x], _, hf => by
    rw [join_one]
    have := els_elem x [] (hf x (by simp)) (.inl rfl)
    rw [List.append_nil] at this
    rw [this]; rfl
  | x :: y :: r, _, hf => by
    have ih := els_join (y :: r) (by simp) (fun z hz => hf z (by simp [hz]))
    rw [join_cons, els_elem x _ (hf x (by simp)) (.inr rfl)]
    show x :: els (join (y :: r)) = _
    rw [ih]

theorem els_snoc : ∀ m : Bs, els (m ++ [47]) = els m ++ [[]]
  | [] => by simp [els]
  | c :: t => by
    have ih := els_snoc t
    show els (c :: (t ++ [47])) = _
    rw [els, els, ih]
    split
    · rfl
    · cases he : els t with
      | nil => exact absurd he (els_ne t)
      | cons e r => rfl

/-! ### the functions -/
def proper (g : Bs) : Bool := g != [] && (g != [46] && g != [46, 46])
def canonRel : Bool → List Bs → Bool
  | _, [] => true
  | seen, g :: r => if g = [] ∨ g = [46] then false else if g = [46, 46] then (if seen = true then false else canonRel seen r) else canonRel true r
def canon (l : Bs) : Bool :=
  if l = [] then false else if l.head? = some 47 then (els l.tail).all proper else if l = [46] then true else canonRel false (els l)
def fixedB (l : Bs) : Bool :=
  if l = [47] then true else if canon l = true then true else (decide (2 ≤ l.length) && (l.getLast? == some 47 && canon l.dropLast))
def resolveL (l : Bs) : Bs := if hasSuffix l [47] = true ∧ cleanEls l ≠ [47] then cleanEls l ++ [47] else cleanEls l

theorem proper_iff (g : Bs) : proper g = true ↔ g ≠ [] ∧ g ≠ [46] ∧ g ≠ [46, 46] := by
  simp [proper]

/-! ### clean of a canonical path -/
theorem fold_abs (A st : List Bs) (h : A.all proper = true) (ro : Bool) : A.foldl (cleanStep ro) st = A.reverse ++ st := by
  induction A generalizing st with
  | nil => rfl
  | cons g r ih =>
    rw [List.all_cons, Bool.and_eq_true] at h
    obtain ⟨h1, h2, h3⟩ := (proper_iff g).1 h.1
    rw [List.foldl_cons, step_elem ro st g h1 h2 h3, ih _ h.2]
    simp

theorem all_of_rel (A : List Bs) (h : canonRel true A = true) : A.all proper = true := by
  induction A with
  | nil => rfl
  | cons g r ih =>
    rw [canonRel] at h
    split at h
    · cases h
    · split at h
      · simp at h
      · rename_i h1 h2
        rw [List.all_cons, ih h, Bool.and_true]
        exact (proper_iff g).2 ⟨fun e => h1 (.inl e), fun e => h1 (.inr e), h2⟩

theorem rel_of_all (A : List Bs) (h : A.all proper = true) (b : Bool) : canonRel b A = true := by
  induction A generalizing b with
  | nil => rfl
  | cons g r ih =>
    rw [List.all_cons, Bool.and_eq_true] at h
    obtain ⟨h1, h2, h3⟩ := (proper_iff g).1 h.1
    rw [canonRel, if_neg (by simp [h1, h2]), if_neg h3]
    exact ih h.2 true

/-- every kept element is '..' -/
def dots (st : List Bs) : Prop := ∀ x ∈ st, x = [46, 46]

theorem fold_rel (A st : List Bs) (hd : dots st) (h : canonRel false A = true) : A.foldl (cleanStep false) st = A.reverse ++ st := by
  induction A generalizing st with
  | nil => rfl
  | cons g r ih =>
    rw [canonRel] at h
    split at h
    · cases h
    · rename_i h1
      split at h
      · rename_i h2
        subst h2
        have hs : cleanStep false st [46, 46] = [46, 46] :: st := by
          unfold cleanStep
          rw [if_neg (by simp), if_pos rfl]
          cases st with
          | nil => rfl
          | cons x s => simp [hd x (by simp)]
        rw [List.foldl_cons, hs, ih _ (by intro x hx; rcases List.mem_cons.1 hx with rfl | h; rfl; exact hd x h) (by simpa using h)]
        simp
      · rename_i h2
        rw [List.foldl_cons, step_elem false st g (fun e => h1 (.inl e)) (fun e => h1 (.inr e)) h2, fold_abs r _ (all_of_rel r h)]
        simp

/-! ### what a fold leaves is canonical -/
theorem keep_abs (A st : List Bs) (hs : ∀ x ∈ st, proper x = true ∧ (47 : UInt8) ∉ x) (hA : ∀ x ∈ A, (47 : UInt8) ∉ x) :
    ∀ x ∈ A.foldl (cleanStep true) st, proper x = true ∧ (47 : UInt8) ∉ x := by
  induction A generalizing st with
  | nil => exact hs
  | cons g r ih =>
    rw [List.foldl_cons]
    apply ih
    · unfold cleanStep
      split
      · exact hs
      · rename_i h1
        split
        · split
          · rename_i x s
            split
            · rename_i h2 h3
              intro y hy
              have := (hs x (by simp)).1
              rw [h3] at this; simp [proper] at this
            · intro y hy; exact hs y (by simp [hy])
          · simp
        · rename_i h2
          intro y hy
          rcases List.mem_cons.1 hy with rfl | h
          · exact ⟨(proper_iff _).2 ⟨fun e => h1 (.inl e), fun e => h1 (.inr e), h2⟩, hA _ (by simp)⟩
          · exact hs y h
    · intro x hx; exact hA x (by simp [hx])

/-- the stack of a relative path, THE LAST FIRST: proper ones upon '..'s -/
def relSt : List Bs → Prop
  | [] => True
  | x :: r => (47 : UInt8) ∉ x ∧ ((proper x = true ∧ relSt r) ∨ (x = [46, 46] ∧ dots r))

theorem relSt_dots : ∀ r, dots r → relSt r
  | [], _ => trivial
  | x :: r, h => by
    have hx := h x (by simp)
    refine ⟨by rw [hx]; simp, .inr ⟨hx, fun y hy => h y (by simp [hy])⟩⟩

theorem keep_rel (A st : List Bs) (hs : relSt st) (hA : ∀ x ∈ A, (47 : UInt8) ∉ x) : relSt (A.foldl (cleanStep false) st) := by
  induction A generalizing st with
  | nil => exact hs
  | cons g r ih =>
    rw [List.foldl_cons]
    apply ih
    · unfold cleanStep
      split
      · exact hs
      · rename_i h1
        split
        · rename_i h2
          split
          · rename_i x s
            split
            · rename_i h3
              obtain ⟨_, h4⟩ := hs
              rcases h4 with ⟨h4, _⟩ | ⟨_, h5⟩
              · rw [h3] at h4; simp [proper] at h4
              · refine ⟨by rw [h2]; simp, .inr ⟨h2, ?_⟩⟩
                intro y hy
                rcases List.mem_cons.1 hy with rfl | h
                · exact h3
                · exact h5 y h
            · obtain ⟨_, h4⟩ := hs
              rcases h4 with ⟨_, h5⟩ | ⟨_, h5⟩
              · exact h5
              · exact relSt_dots _ h5
          · exact ⟨by rw [h2]; simp, .inr ⟨h2, fun y hy => absurd hy (by simp)⟩⟩
        · rename_i h2
          exact ⟨hA g (by simp), .inl ⟨(proper_iff _).2 ⟨fun e => h1 (.inl e), fun e => h1 (.inr e), h2⟩, hs⟩⟩
    · intro x hx; exact hA x (by simp [hx])

theorem relSt_free : ∀ st, relSt st → ∀ x ∈ st, (47 : UInt8) ∉ x
  | [], _ => by simp
  | y :: r, h => by
    intro x hx
    rcases List.mem_cons.1 hx with rfl | hx
    · exact h.1
    · rcases h.2 with ⟨_, h2⟩ | ⟨_, h2⟩
      · exact relSt_free r h2 x hx
      · rw [h2 x hx]; simp

theorem rel_dots_append : ∀ (D B : List Bs), dots D → canonRel false B = true → canonRel false (D ++ B) = true
  | [], _, _, h => h
  | x :: D, B, hd, h => by
    have hx := hd x (by simp)
    subst hx
    show canonRel false ([46, 46] :: (D ++ B)) = true
    rw [canonRel, if_neg (by simp), if_pos rfl, if_neg (by simp)]
    exact rel_dots_append D B (fun y hy => hd y (by simp [hy])) h

theorem relSt_canon : ∀ st B, relSt st → B.all proper = true → canonRel false (st.reverse ++ B) = true
  | [], B, _, h => rel_of_all B h false
  | x :: r, B, hs, h => by
    rw [List.reverse_cons, List.append_assoc]
    rcases hs.2 with ⟨h1, h2⟩ | ⟨h1, h2⟩
    · exact relSt_canon r ([x] ++ B) h2 (by simp [h1]; simpa using h)
    · refine rel_dots_append r.reverse _ (fun y hy => h2 y (by simpa using hy)) ?_
      subst h1
      show canonRel false ([46, 46] :: B) = true
      rw [canonRel, if_neg (by simp), if_pos rfl, if_neg (by simp)]
      exact rel_of_all B h false

/-! ### clean fixes a path just where it is canonical, or the root -/
theorem head_cons {l : Bs} (h : l.head? = some 47) : ∃ t, l = 47 :: t := by
  cases l with
  | nil => cases h
  | cons c t => exact ⟨t, by simp at h; rw [h]⟩

theorem clean_fix (l : Bs) (hne : l ≠ []) : cleanEls l = l ↔ (canon l = true ∨ l = [47]) := by
  by_cases hh : l.head? = some 47
  · obtain ⟨t, rfl⟩ := head_cons hh
    rw [cleanEls_abs _ hne (by simp), els_slash, List.foldl_cons, step_nil, canon, if_neg hne, if_pos hh]
    have hk := keep_abs (els t) [] (by simp) (els_free t)
    constructor
    · intro h
      have h1 : join ((els t).foldl (cleanStep true) []).reverse = t := (List.cons.inj h).2
      by_cases hz : (els t).foldl (cleanStep true) [] = []
      · right
        rw [hz] at h1
        rw [← h1]; rfl
      · left
        have h2 := els_join ((els t).foldl (cleanStep true) []).reverse (by simpa using hz) (fun x hx => (hk x (by simpa using hx)).2)
        rw [h1] at h2
        show (els t).all proper = true
        rw [h2, List.all_eq_true]
        intro x hx
        exact (hk x (by simpa using hx)).1
    · rintro (h | h)
      · rw [fold_abs (els t) [] h, List.append_nil, List.reverse_reverse]
        exact congrArg _ (join_els t)
      · obtain rfl : t = [] := by simpa using h
        rfl
  · rw [cleanEls_rel _ hne (by simpa using hh), canon, if_neg hne, if_neg hh]
    have hk := keep_rel (els l) [] trivial (els_free l)
    have h47 : l ≠ [47] := fun e => hh (by rw [e]; rfl)
    by_cases hdot : l = [46]
    · subst hdot
      rw [if_pos rfl]
      exact ⟨fun _ => .inl rfl, fun _ => by decide⟩
    · rw [if_neg hdot]
      constructor
      · intro h
        left
        split at h
        · exact absurd h.symm hdot
        · rename_i hb
          have hz : (els l).foldl (cleanStep false) [] ≠ [] := by
            intro e; rw [e] at hb; exact hb rfl
          have h2 := els_join ((els l).foldl (cleanStep false) []).reverse (by simpa using hz) (fun x hx => relSt_free _ hk x (by simpa using hx))
          rw [show join ((els l).foldl (cleanStep false) []).reverse = l from h] at h2
          rw [h2]
          have := relSt_canon _ [] hk rfl
          rwa [List.append_nil] at this
      · rintro (h | h)
        · rw [fold_rel (els l) [] (fun x hx => absurd hx (by simp)) h, List.append_nil, List.reverse_reverse, show ([47] : Bs).intercalate (els l) = l from join_els l, if_neg hne]
        · exact absurd h h47
end Go.Proofs.Qxb6603623a.Pl
