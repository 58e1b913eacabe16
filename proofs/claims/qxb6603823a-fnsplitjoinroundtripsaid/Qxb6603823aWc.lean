import Derived.Test.Qxb6603823aWb
namespace Go.Proofs.Qxb6603823a.Wc
open Go.RowKit Pl Wa Wb

set_option maxHeartbeats 400000 in
theorem bytes2 (ao : Option Addr) (n c : Nat) (bo : Option Addr) (m d : Nat) (hn : n ≤ 9223372036854775807) (hm : m ≤ 9223372036854775807) (w : World) :
    Calls Try.prog 11 #[.slice ao n c, .slice bo m d] w fun e w' => ∃ b, e = .returned (.bool b) ∧ w' = w := by
  go_enter Try.func11, Try.ntmps11
  go_wp2
  all_goals
    go_ret
    exact ⟨_, rfl, rfl⟩

set_option maxHeartbeats 1000000 in
/-- too long, or one of the two is empty -/
theorem join_early (ao : Option Addr) (n c : Nat) (bo : Option Addr) (m d : Nat) (hn : n ≤ 9223372036854775807) (hm : m ≤ 9223372036854775807) (h : ¬ (n + m ≤ 1048576 ∧ 0 < n ∧ 0 < m)) (w : World) :
    Calls Try.prog 5 #[.slice ao n c, .slice bo m d] w fun e w' => e = .returned (.bool true) ∧ Below w.heap.size w w' := by
  have Hb := hid (fun w => bytes2 ao n c bo m d hn hm w)
  by_cases h1 : n ≤ 1048576
  · by_cases h2 : m ≤ 1048576
    · by_cases h3 : n + m ≤ 1048576
      · by_cases h4 : n = 0
        · subst h4
          go_enter Try.func5, Try.ntmps5
          go_wp2_with fail
          refine (Hb.out _).mono ?_
          rintro e w1 ⟨b, rfl, rfl⟩
          cases b <;> (go_wp2_with fail; go_ret; exact ⟨rfl, Below.refl _ _⟩)
        · have h5 : m = 0 := by omega
          subst h5
          have h4' : ((n : Int) == 0) = false := by simpa using h4
          go_enter Try.func5, Try.ntmps5
          go_wp2_with fail
          refine (Hb.out _).mono ?_
          rintro e w1 ⟨b, rfl, rfl⟩
          cases b <;> (go_wp2_with fail; go_ret; exact ⟨rfl, Below.refl _ _⟩)
      · go_enter Try.func5, Try.ntmps5
        go_wp2_with fail
        refine (Hb.out _).mono ?_
        rintro e w1 ⟨b, rfl, rfl⟩
        cases b <;> (go_wp2_with fail; go_ret; exact ⟨rfl, Below.refl _ _⟩)
    · go_enter Try.func5, Try.ntmps5
      go_wp2_with fail
      refine (Hb.out _).mono ?_
      rintro e w1 ⟨b, rfl, rfl⟩
      cases b <;> (go_wp2_with fail; go_ret; exact ⟨rfl, Below.refl _ _⟩)
  · go_enter Try.func5, Try.ntmps5
    go_wp2_with fail
    refine (Hb.out _).mono ?_
    rintro e w1 ⟨b, rfl, rfl⟩
    cases b <;> (go_wp2_with fail; go_ret; exact ⟨rfl, Below.refl _ _⟩)

theorem cells_keep {w w' : World} {B g o : Nat} {xs : List Int} (h : Cells w g o xs) (hb : Below B w w') (hg : g < B) : Cells w' g o xs := by
  intro j hj
  rw [hb.cell (p := ⟨g, o + j, none⟩) hg]
  exact h j hj

theorem row_cells {w : World} {g : Nat} {xs : List Int} (h : Cells w g 0 xs) : ∀ j v, (bs xs)[j]? = some v → w.cell? ((⟨g, 0, none⟩ : Addr).add j) = some v := by
  intro j v hv
  have hj : j < xs.length := by
    have := (List.getElem?_eq_some_iff.1 hv).1
    rwa [bs_len] at this
  have hc := h j hj
  rw [Go.WideShapes.add_plain, hc]
  simp [bs, hj] at hv ⊢
  exact hv

theorem own_cells {w : World} {B g n cap : Nat} {xs : List Int} (hl : xs.length = n) (h : w.ownsRow B 5 1 (.slice (some ⟨g, 0, none⟩) n cap) n (bs xs)) : Cells w g 0 xs := by
  intro j hj
  rw [Nat.zero_add, h.cellAt j (by omega)]
  simp [bs, hj]

theorem fc_join (xs ys : List Int) (n : Nat) (hx : xs.length = n) (h : fc xs < 0) : fc (xs ++ 58 :: ys) = n := by
  apply fc_some
  · simp; omega
  · simp [← hx]
  · intro j hj
    rcases fc_cases xs with ⟨_, h2⟩ | ⟨k, h1, _⟩
    · have := h2 j (by omega)
      intro e
      apply this
      rw [← e]
      simp [List.getElem?_append_left (show j < xs.length by omega)]
    · omega

set_option maxHeartbeats 1000000 in
/-- the prefix holds a colon -/
theorem join_colon (b o n c : Nat) (bo : Option Addr) (m d : Nat) (xs : List Int) (w : World) (hx : xs.length = n) (hn : n + m ≤ 1048576) (h0 : 0 < n) (h1 : 0 < m) (hc : Cells w b o xs) (hf : 0 ≤ fc xs) :
    Calls Try.prog 5 #[.slice (some ⟨b, o, none⟩) n c, .slice bo m d] w fun e w' => e = .returned (.bool true) ∧ Below w.heap.size w w' := by
  have Hb := hid (fun w => bytes2 (some ⟨b, o, none⟩) n c bo m d (by omega) (by omega) w)
  have Hc := hid (colon_any b o n c xs w hx (by omega) hc)
  have t1 : ((n : Int) == 0) = false := by simp; omega
  have t2 : ((m : Int) == 0) = false := by simp; omega
  clear hc
  generalize fc xs = f at *
  go_enter Try.func5, Try.ntmps5
  go_wp2_with fail
  refine (Hb.out _).mono ?_
  rintro e w1 ⟨bb, rfl, hw1⟩
  subst w1
  cases bb
  · go_wp2_with fail
    go_ret
    exact ⟨rfl, Below.refl _ _⟩
  · go_wp2_with fail
    refine Hc.out.mono ?_
    rintro e w1 ⟨rfl, hw1⟩
    subst w1
    go_wp2_with fail
    go_ret
    exact ⟨rfl, Below.refl _ _⟩
end Go.Proofs.Qxb6603823a.Wc
