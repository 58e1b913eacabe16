/- The plain law, second part: resolve, open, the segment model. -/
import Derived.Test.Qxb6603623aPlain
namespace Go.Proofs.Qxb6603623a.Pl
open Go Go.Lib Go.Lib.Pa

/-! ### a trailing slash -/
theorem suffix_snoc (l : Bs) (c : UInt8) : hasSuffix l [c] = (l.getLast? == some c) := by
  rw [Bool.eq_iff_iff, hasSuffix, List.isSuffixOf_iff_suffix]
  simp only [beq_iff_eq]
  constructor
  · rintro ⟨m, rfl⟩; simp
  · intro h
    obtain ⟨m, rfl⟩ := List.getLast?_eq_some_iff.1 h
    exact ⟨m, rfl⟩

theorem clean_snoc (m : Bs) (hne : m ≠ []) : cleanEls (m ++ [47]) = cleanEls m := by
  have hh : (m ++ [47]).head? = m.head? := by
    cases m with
    | nil => exact absurd rfl hne
    | cons c t => rfl
  have hf : ∀ ro, (els (m ++ [47])).foldl (cleanStep ro) [] = (els m).foldl (cleanStep ro) [] := by
    intro ro; rw [els_snoc, List.foldl_append, List.foldl_cons, step_nil, List.foldl_nil]
  simp only [cleanEls, hh, hf, hne, if_false, List.append_eq_nil_iff, false_and]

theorem rel_snoc_nil : ∀ (A : List Bs) (b : Bool), canonRel b (A ++ [[]]) = false
  | [], b => by show canonRel b [[]] = false; rw [canonRel, if_pos (.inl rfl)]
  | g :: r, b => by
    show canonRel b (g :: (r ++ [[]])) = false
    rw [canonRel]
    split
    · rfl
    · split
      · split
        · rfl
        · exact rel_snoc_nil r b
      · exact rel_snoc_nil r true

theorem canon_snoc (m : Bs) : canon (m ++ [47]) = false := by
  unfold canon
  rw [if_neg (by simp)]
  split
  · rename_i h
    cases m with
    | nil => simp [els, proper]
    | cons c t =>
      show (els (t ++ [47])).all proper = false
      rw [els_snoc]; simp [proper]
  · rename_i h
    rw [if_neg]
    · rw [els_snoc]; exact rel_snoc_nil _ _
    · intro e
      have := congrArg List.getLast? e
      simp at this

theorem canon_root : canon [47] = false := canon_snoc []

theorem resolve_fix (l : Bs) : resolveL l = l ↔ fixedB l = true := by
  by_cases hs : hasSuffix l [47] = true
  · have hl : l.getLast? = some 47 := by rw [suffix_snoc] at hs; simpa using hs
    obtain ⟨m, rfl⟩ := List.getLast?_eq_some_iff.1 hl
    by_cases hm : m = []
    · subst hm
      have hc : cleanEls ([] ++ [47]) = [47] := by decide
      unfold resolveL fixedB
      rw [hc]; simp
    · have h47 : m ++ [47] ≠ [47] := by simpa using hm
      have hlen : 2 ≤ (m ++ [47]).length := by
        have := List.length_pos_iff.2 hm; simp; omega
      unfold resolveL fixedB
      rw [clean_snoc m hm, if_neg h47, canon_snoc, hl, List.dropLast_concat, decide_eq_true hlen]
      simp only [hs, true_and, Bool.true_and, beq_self_eq_true, Bool.false_eq_true, if_false]
      have hf := clean_fix m hm
      constructor
      · intro h
        split at h
        · have h1 : cleanEls m = m := List.append_cancel_right h
          rcases hf.1 h1 with h2 | h2
          · exact h2
          · rename_i h3; exact absurd (h1.trans h2) h3
        · rename_i h3
          have h3' : cleanEls m = [47] := by simpa using h3
          rw [h3'] at h
          exact absurd h.symm h47
      · intro h
        have h1 := hf.2 (.inl h)
        have h2 : m ≠ [47] := by intro e; rw [e, canon_root] at h; cases h
        rw [h1, if_pos h2]
  · have hl : ¬ l.getLast? = some 47 := by rw [suffix_snoc] at hs; simpa using hs
    have h47 : l ≠ [47] := fun e => hl (by rw [e]; rfl)
    unfold resolveL fixedB
    rw [if_neg (fun h => hs h.1), if_neg h47]
    by_cases hne : l = []
    · subst hne; decide
    · rw [clean_fix l hne]
      by_cases hc : canon l = true
      · simp [hc]
      · rw [if_neg hc]; simp [hc, h47, hl]

/-! ### the last segment -/
theorem suffix_cons (c : UInt8) (t x : Bs) : hasSuffix (c :: t) x = true ↔ x = c :: t ∨ hasSuffix t x = true := by
  simp only [hasSuffix, List.isSuffixOf_iff_suffix, List.suffix_cons_iff]

theorem suffix_els (x : Bs) (hx : (47 : UInt8) ∉ x) : ∀ (l : Bs), hasSuffix l x = hasSuffix ((els l).getLastD []) x
  | [] => by simp [els]
  | c :: t => by
    have ih := suffix_els x hx t
    cases he : els t with
    | nil => exact absurd he (els_ne t)
    | cons e r =>
      rw [he, List.getLastD_cons] at ih
      by_cases hc : c = 47
      · subst hc
        rw [els_slash, he, List.getLastD_cons, List.getLastD_cons, ← ih, Bool.eq_iff_iff, suffix_cons]
        constructor
        · rintro (h | h)
          · exact absurd (by rw [h]; simp) hx
          · exact h
        · exact .inr
      · have hE : els (c :: t) = (c :: e) :: r := by rw [els, if_neg hc, he]
        rw [hE, List.getLastD_cons]
        cases r with
        | nil =>
          have ht : t = e := by rw [← join_els t, he, join_one]
          rw [ht]; rfl
        | cons y r =>
          rw [List.getLastD_cons] at ih ⊢
          rw [← ih, Bool.eq_iff_iff, suffix_cons]
          constructor
          · rintro (h | h)
            · exfalso
              apply hx
              rw [h, ← join_els t, he, join_cons]; simp
            · exact h
          · exact .inr

/-! ### open and the segment model -/
def robots : Bs := [114, 111, 98, 111, 116, 115, 46, 116, 120, 116]
def favicon : Bs := [102, 97, 118, 105, 99, 111, 110, 46, 105, 99, 111]
def wellk : Bs := [46, 119, 101, 108, 108, 45, 107, 110, 111, 119, 110]
def rss : Bs := [46, 114, 115, 115]
def xml : Bs := [46, 120, 109, 108]
def atom : Bs := [46, 97, 116, 111, 109]

/-- policy.open -/
def openL (l : Bs) : Bool :=
  if resolveL l = l then
    (l == 47 :: robots) || ((l == 47 :: favicon) || (hasPrefix l (47 :: (wellk ++ [47])) || (hasSuffix l rss || (hasSuffix l xml || hasSuffix l atom))))
  else false

/-- the tests of zzOpenModel behind the split -/
def tailB (ro tr : Bool) (segs : List Bs) : Bool :=
  (ro && (!tr && (decide (segs.length = 1) && ((segs.headD [] == robots) || (segs.headD [] == favicon))))) ||
  ((ro && ((segs.headD [] == wellk) && (decide (2 ≤ segs.length) || tr))) ||
  (!tr && (hasSuffix (segs.getLastD []) rss || (hasSuffix (segs.getLastD []) xml || hasSuffix (segs.getLastD []) atom))))

def cutRoot (l : Bs) : Bs := if l.head? = some 47 then l.tail else l
def cutTrail (l : Bs) : Bs := if l.getLast? = some 47 then l.dropLast else l
def modelL (l : Bs) : Bool :=
  if fixedB l = false ∨ l = [47] then false
  else tailB (l.head? == some 47) ((cutRoot l).getLast? == some 47) (els (cutTrail (cutRoot l)))

theorem suffix_root (x t : Bs) (hx : (47 : UInt8) ∉ x) : hasSuffix (47 :: t) x = hasSuffix t x := by
  rw [Bool.eq_iff_iff, suffix_cons]
  constructor
  · rintro (h | h)
    · exact absurd (by rw [h]; simp) hx
    · exact h
  · exact .inr

theorem suffix_trail (x m : Bs) (hx : (47 : UInt8) ∉ x) (hne : x ≠ []) : hasSuffix (m ++ [47]) x = false := by
  rw [Bool.eq_false_iff]
  intro h
  rw [hasSuffix, List.isSuffixOf_iff_suffix] at h
  obtain ⟨p, hp⟩ := h
  apply hx
  have := congrArg List.getLast? hp
  rw [List.getLast?_append, List.getLast?_concat] at this
  cases hx' : x.getLast? with
  | none => exact absurd (List.getLast?_eq_none_iff.1 hx') hne
  | some c =>
    rw [hx'] at this
    have hc : c = 47 := by simpa using this
    subst hc
    exact List.mem_of_getLast? hx'

theorem head_els_wellk (b : Bs) : ((els b).headD [] == wellk && decide (2 ≤ (els b).length)) = hasPrefix b (wellk ++ [47]) := by
  rw [Bool.eq_iff_iff, hasPrefix, List.isPrefixOf_iff_prefix]
  simp only [Bool.and_eq_true, beq_iff_eq, decide_eq_true_eq]
  constructor
  · rintro ⟨h1, h2⟩
    cases he : els b with
    | nil => exact absurd he (els_ne b)
    | cons e r =>
      cases r with
      | nil => rw [he] at h2; simp at h2
      | cons y r =>
        rw [he] at h1
        have h1' : e = wellk := h1
        rw [← join_els b, he, join_cons, h1']
        exact ⟨join (y :: r), by simp⟩
  · rintro ⟨r, rfl⟩
    have h := els_elem wellk (47 :: r) (by decide) (.inr rfl)
    rw [show wellk ++ 47 :: r = wellk ++ [47] ++ r by simp] at h
    rw [h]
    refine ⟨rfl, ?_⟩
    have := List.length_pos_iff.2 (els_ne r)
    show 2 ≤ (els r).length + 1
    omega

theorem one_seg (b x : Bs) (hx : (47 : UInt8) ∉ x) : (decide ((els b).length = 1) && ((els b).headD [] == x)) = (b == x) := by
  rw [Bool.eq_iff_iff]
  simp only [Bool.and_eq_true, beq_iff_eq, decide_eq_true_eq]
  constructor
  · rintro ⟨h1, h2⟩
    cases he : els b with
    | nil => exact absurd he (els_ne b)
    | cons e r =>
      rw [he] at h1 h2
      obtain rfl : r = [] := by simpa using h1
      rw [← join_els b, he, join_one]; exact h2
  · rintro rfl
    have h := els_elem b [] hx (.inl rfl)
    rw [List.append_nil] at h
    rw [h]; exact ⟨rfl, rfl⟩

/-- the six tests at a path without a trailing slash -/
theorem tests_plain_abs (t : Bs) :
    ((47 :: t == 47 :: robots) || ((47 :: t == 47 :: favicon) || (hasPrefix (47 :: t) (47 :: (wellk ++ [47])) || (hasSuffix (47 :: t) rss || (hasSuffix (47 :: t) xml || hasSuffix (47 :: t) atom))))) = tailB true false (els t) := by
  unfold tailB
  have e1 := one_seg t robots (by decide)
  have e2 := one_seg t favicon (by decide)
  have e3 := head_els_wellk t
  have e4 : hasPrefix (47 :: t) (47 :: (wellk ++ [47])) = hasPrefix t (wellk ++ [47]) := by simp [hasPrefix, List.isPrefixOf]
  rw [suffix_root rss t (by decide), suffix_root xml t (by decide), suffix_root atom t (by decide), suffix_els rss (by decide) t, suffix_els xml (by decide) t, suffix_els atom (by decide) t, e4, ← e3]
  simp only [Bool.true_and, Bool.not_false, Bool.or_false, Bool.and_or_distrib_left, e1, e2, Bool.or_assoc]
  rfl

theorem tests_plain_rel (l : Bs) (hl : l.head? ≠ some 47) :
    ((l == 47 :: robots) || ((l == 47 :: favicon) || (hasPrefix l (47 :: (wellk ++ [47])) || (hasSuffix l rss || (hasSuffix l xml || hasSuffix l atom))))) = tailB false false (els l) := by
  have h1 : (l == 47 :: robots) = false := by rw [beq_eq_false_iff_ne]; intro e; exact hl (by rw [e]; rfl)
  have h2 : (l == 47 :: favicon) = false := by rw [beq_eq_false_iff_ne]; intro e; exact hl (by rw [e]; rfl)
  have h3 : hasPrefix l (47 :: (wellk ++ [47])) = false := by
    rw [Bool.eq_false_iff]; intro h
    rw [hasPrefix, List.isPrefixOf_iff_prefix] at h
    obtain ⟨r, rfl⟩ := h
    exact hl rfl
  unfold tailB
  rw [h1, h2, h3, suffix_els rss (by decide) l, suffix_els xml (by decide) l, suffix_els atom (by decide) l]
  simp

theorem tests_trail_abs (m : Bs) :
    ((47 :: (m ++ [47]) == 47 :: robots) || ((47 :: (m ++ [47]) == 47 :: favicon) || (hasPrefix (47 :: (m ++ [47])) (47 :: (wellk ++ [47])) || (hasSuffix (47 :: (m ++ [47])) rss || (hasSuffix (47 :: (m ++ [47])) xml || hasSuffix (47 :: (m ++ [47])) atom))))) = tailB true true (els m) := by
  have g : ∀ x : Bs, (47 : UInt8) ∉ x → (47 :: (m ++ [47]) == 47 :: x) = false := by
    intro x hx
    rw [beq_eq_false_iff_ne]; intro e
    apply hx; rw [← (List.cons.inj e).2]; simp
  have hs : ∀ x : Bs, (47 : UInt8) ∉ x → x ≠ [] → hasSuffix (47 :: (m ++ [47])) x = false := by
    intro x hx hne
    exact suffix_trail x (47 :: m) hx hne
  have e4 : hasPrefix (47 :: (m ++ [47])) (47 :: (wellk ++ [47])) = hasPrefix (m ++ [47]) (wellk ++ [47]) := by simp [hasPrefix, List.isPrefixOf]
  have e5 : hasPrefix (m ++ [47]) (wellk ++ [47]) = ((els m).headD [] == wellk) := by
    rw [← head_els_wellk, els_snoc]
    have := List.length_pos_iff.2 (els_ne m)
    have h2 : decide (2 ≤ (els m ++ [[]]).length) = true := by simp; omega
    rw [h2, Bool.and_true]
    cases he : els m with
    | nil => exact absurd he (els_ne m)
    | cons e r => rfl
  unfold tailB
  rw [g robots (by decide), g favicon (by decide), hs rss (by decide) (by decide), hs xml (by decide) (by decide), hs atom (by decide) (by decide), e4, e5]
  simp

theorem tests_trail_rel (m : Bs) (hl : m.head? ≠ some 47) (hne : m ≠ []) :
    ((m ++ [47] == 47 :: robots) || ((m ++ [47] == 47 :: favicon) || (hasPrefix (m ++ [47]) (47 :: (wellk ++ [47])) || (hasSuffix (m ++ [47]) rss || (hasSuffix (m ++ [47]) xml || hasSuffix (m ++ [47]) atom))))) = tailB false true (els m) := by
  have hh : (m ++ [47]).head? ≠ some 47 := by
    cases m with
    | nil => exact absurd rfl hne
    | cons c t => exact hl
  have h1 : (m ++ [47] == 47 :: robots) = false := by rw [beq_eq_false_iff_ne]; intro e; exact hh (by rw [e]; rfl)
  have h2 : (m ++ [47] == 47 :: favicon) = false := by rw [beq_eq_false_iff_ne]; intro e; exact hh (by rw [e]; rfl)
  have h3 : hasPrefix (m ++ [47]) (47 :: (wellk ++ [47])) = false := by
    rw [Bool.eq_false_iff]; intro h
    rw [hasPrefix, List.isPrefixOf_iff_prefix] at h
    obtain ⟨r, hr⟩ := h
    exact hh (by rw [← hr]; rfl)
  unfold tailB
  rw [h1, h2, h3, suffix_trail rss m (by decide) (by decide), suffix_trail xml m (by decide) (by decide), suffix_trail atom m (by decide) (by decide)]
  simp

theorem law (l : Bs) : openL l = modelL l := by
  unfold openL modelL
  by_cases hf : fixedB l = true
  · rw [if_pos ((resolve_fix l).2 hf)]
    by_cases h47 : l = [47]
    · subst h47; rw [if_pos (.inr rfl)]; decide
    · rw [if_neg (by simp [hf, h47])]
      by_cases hh : l.head? = some 47
      · obtain ⟨t, rfl⟩ := head_cons hh
        have ht : t ≠ [] := fun e => h47 (by rw [e])
        have hc : cutRoot (47 :: t) = t := by unfold cutRoot; rw [if_pos hh]; rfl
        rw [hc]
        by_cases hl : t.getLast? = some 47
        · obtain ⟨m, rfl⟩ := List.getLast?_eq_some_iff.1 hl
          have hc2 : cutTrail (m ++ [47]) = m := by unfold cutTrail; rw [if_pos hl, List.dropLast_concat]
          rw [hc2, tests_trail_abs, hl]; rfl
        · have hc2 : cutTrail t = t := by unfold cutTrail; rw [if_neg hl]
          rw [hc2, tests_plain_abs t, beq_eq_false_iff_ne.2 hl]; rfl
      · have hc : cutRoot l = l := by unfold cutRoot; rw [if_neg hh]
        rw [hc, beq_eq_false_iff_ne.2 hh]
        by_cases hl : l.getLast? = some 47
        · obtain ⟨m, rfl⟩ := List.getLast?_eq_some_iff.1 hl
          have hm : m ≠ [] := by intro e; subst e; exact h47 rfl
          have hc2 : cutTrail (m ++ [47]) = m := by unfold cutTrail; rw [if_pos hl, List.dropLast_concat]
          have hh' : m.head? ≠ some 47 := by
            cases m with
            | nil => exact absurd rfl hm
            | cons c t => exact hh
          rw [hc2, tests_trail_rel m hh' hm, hl]; rfl
        · have hc2 : cutTrail l = l := by unfold cutTrail; rw [if_neg hl]
          rw [hc2, tests_plain_rel l hh, beq_eq_false_iff_ne.2 hl]
  · have hf' : fixedB l = false := by simpa using hf
    rw [if_neg (fun h => hf ((resolve_fix l).1 h)), if_pos (.inl hf')]
end Go.Proofs.Qxb6603623a.Pl
