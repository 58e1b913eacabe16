import Derived.Test.Qxb6603623aWh
import Derived.Test.Qxb6603623aWi
import Derived.Laws.EntriesVeiled
namespace Go.Proofs.Qxb6603623a.Wj
open Go.RowKit Pl Wa Wb Wc

set_option maxHeartbeats 1000000 in
theorem builtin_any (w : World) :
    Calls Try.prog 12 #[] w fun e w' => ∃ b0 b2 b3, e = .returned (.pointer (some ⟨b3, 0, none⟩)) ∧ w'.cell? ⟨b3, 0, none⟩ = some (.slice (some ⟨b2, 0, none⟩) 2 2) ∧
      w'.cell? ⟨b2, 4, none⟩ = some (.slice (some ⟨b0, 0, none⟩) 1 1) ∧ w'.cell? ⟨b0, 0, none⟩ = some (.func (.func 21) #[] #[]) ∧ b0 < w'.heap.size ∧ b2 < w'.heap.size ∧ Below w.heap.size w w' := by
  go_enter Try.func12, Try.ntmps12
  go_wp2
  go_ret
  refine ⟨w.heap.size, w.heap.size + 1 + 1, w.heap.size + 1 + 1 + 1, rfl, ?_, ?_, ?_, by simp; omega, by simp, ?_⟩
  · rw [World.cell?_alloc_at _ _ _ _ (by simp)]; rfl
  · rw [World.cell?_alloc_past _ _ _ (by simp), World.cell?_alloc_at _ _ _ _ (by simp)]; rfl
  · rw [World.cell?_alloc_past _ _ _ (by simp; omega), World.cell?_alloc_past _ _ _ (by simp; omega), World.cell?_alloc_past _ _ _ (by simp), World.cell?_alloc_at _ _ _ _ rfl]; rfl
  · exact ((((Below.refl _ _).alloc (Nat.le_refl _) _).alloc (by simp) _).alloc (by simp; omega) _).alloc (by simp; omega) _

set_option maxHeartbeats 1000000 in
theorem newreq_any (s u : ByteArray) (w : World) :
    Calls Try.prog 14 #[.string s, .string u] w fun e w' => ∃ b, e = .returned (.pointer (some ⟨b, 0, none⟩)) ∧ w'.cell? ⟨b, 0, none⟩ = some (.string s) ∧ b < w'.heap.size ∧ Below w.heap.size w w' := by
  go_enter Try.func14, Try.ntmps14
  go_wp2
  go_ret
  refine ⟨w.heap.size, rfl, ?_, by simp, (Below.refl _ _).alloc (Nat.le_refl _) _⟩
  simp

set_option maxHeartbeats 1000000 in
theorem rules_any (b3 b2 : Nat) (w : World) (h : w.cell? ⟨b3, 0, none⟩ = some (.slice (some ⟨b2, 0, none⟩) 2 2)) :
    Calls Try.prog 13 #[.pointer (some ⟨b3, 0, none⟩)] w fun e w' => e = .returned (.slice (some ⟨b2, 0, none⟩) 2 2) ∧ w' = w := by
  go_enter Try.func13, Try.ntmps13
  go_wp2
  go_ret
  exact ⟨rfl, rfl⟩

set_option maxHeartbeats 1000000 in
theorem ruleAt_any (b2 : Nat) (w : World) :
    Calls Try.prog 16 #[.slice (some ⟨b2, 0, none⟩) 2 2, .int .i64 0] w fun e w' => e = .returned (.pointer (some ⟨b2, 0, none⟩)) ∧ w' = w := by
  go_enter Try.func16, Try.ntmps16
  go_wp2
  go_ret
  exact ⟨rfl, rfl⟩

set_option maxHeartbeats 1000000 in
theorem closure_any (s : ByteArray) (hs : s.size ≤ 65536) (bq : Nat) (w : World) (h : w.cell? ⟨bq, 0, none⟩ = some (.string s)) :
    Calls Try.prog 21 #[.pointer (some ⟨bq, 0, none⟩)] w fun e w' => e = .returned (.bool (openL s.data.toList)) ∧ Below w.heap.size w w' := by
  have Ho := hid (fun w => Wi.open_any s hs w)
  go_enter Try.func21, Try.ntmps21
  go_wp2_with (go_at_call 17; refine (Ho.out _).mono ?_; rintro e w1 ⟨rfl, hb⟩)
  go_ret
  exact ⟨rfl, hb⟩

set_option maxHeartbeats 1000000 in
theorem holds_any (s : ByteArray) (hs : s.size ≤ 65536) (b2 b0 bq : Nat) (w : World) (h1 : w.cell? ⟨b2, 4, none⟩ = some (.slice (some ⟨b0, 0, none⟩) 1 1))
    (h2 : w.cell? ⟨b0, 0, none⟩ = some (.func (.func 21) #[] #[])) (h3 : w.cell? ⟨bq, 0, none⟩ = some (.string s)) :
    Calls Try.prog 24 #[.pointer (some ⟨b2, 0, none⟩), .pointer (some ⟨bq, 0, none⟩)] w fun e w' => e = .returned (.bool (openL s.data.toList)) ∧ Below w.heap.size w w' := by
  have Hc := hid (closure_any s hs bq w h3)
  clear h3
  generalize openL s.data.toList = B at *
  go_enter Try.func24, Try.ntmps24
  go_wp2
  clear h1
  go_loopw [12] (fun i wr => (i = .int .i64 0 ∧ wr = w) ∨ (i = .int .i64 1 ∧ Hid (B = true) ∧ Below w.heap.size w wr)) (fun i _ => 2 - (intOf i).toNat)
  case atStart => exact .inl ⟨rfl, rfl⟩
  case round =>
    rcases hrel with ⟨rfl, rfl⟩ | ⟨rfl, HB, hb⟩
    · go_wp2_with fail
      refine Hc.out.mono ?_
      rintro e w1 ⟨rfl, hb⟩
      cases hB : B with
      | true =>
        go_wp2_with fail
        go_roundw
        case rel => exact .inr ⟨by go_num, hB, hb⟩
        case measure => simp [intOf]
      | false =>
        go_wp2_with fail
        go_ret
        exact ⟨ret_bool hB.symm, hb⟩
    · have hB := HB.out
      subst hB
      go_wp2_with fail
      go_ret
      exact ⟨rfl, hb⟩

set_option maxHeartbeats 1000000 in
theorem zzholds_any (s : ByteArray) (hs : s.size ≤ 65536) (b2 b0 bq : Nat) (w : World) (h1 : w.cell? ⟨b2, 4, none⟩ = some (.slice (some ⟨b0, 0, none⟩) 1 1))
    (h2 : w.cell? ⟨b0, 0, none⟩ = some (.func (.func 21) #[] #[])) (h3 : w.cell? ⟨bq, 0, none⟩ = some (.string s)) :
    Calls Try.prog 15 #[.pointer (some ⟨b2, 0, none⟩), .pointer (some ⟨bq, 0, none⟩)] w fun e w' => e = .returned (.bool (openL s.data.toList)) ∧ Below w.heap.size w w' := by
  have Hc := hid (holds_any s hs b2 b0 bq w h1 h2 h3)
  clear h1 h2 h3
  go_enter Try.func15, Try.ntmps15
  go_wp2_with (go_at_call 24; refine Hc.out.mono ?_; rintro e w1 ⟨rfl, hb⟩)
  go_ret
  exact ⟨rfl, hb⟩

set_option maxHeartbeats 400000 in
theorem bytes_yes (s u : ByteArray) (hs : s.size ≤ 65536) (hu : u.size ≤ 65536) (w : World) :
    Calls Try.prog 11 #[.string s, .string u] w fun e w' => e = .returned (.bool true) ∧ w' = w := by
  go_enter Try.func11, Try.ntmps11
  go_wp2
  go_ret
  exact ⟨rfl, rfl⟩

set_option maxHeartbeats 400000 in
theorem bytes_some (s u : ByteArray) (hs : s.size ≤ 9223372036854775807) (hu : u.size ≤ 9223372036854775807) (w : World) :
    Calls Try.prog 11 #[.string s, .string u] w fun e w' => ∃ b, e = .returned (.bool b) ∧ w' = w := by
  go_enter Try.func11, Try.ntmps11
  go_wp2
  all_goals
    go_ret
    exact ⟨_, rfl, rfl⟩

set_option maxHeartbeats 1000000 in
theorem walk_big (s u : ByteArray) (hs : s.size ≤ 9223372036854775807) (hu : u.size ≤ 9223372036854775807) (h : ¬ (s.size ≤ 65536 ∧ u.size ≤ 65536)) (w : World) :
    Calls Try.prog 5 #[.string s, .string u] w fun e w' => e = .returned (.bool true) ∧ w' = w := by
  have Hb := hid (fun w => bytes_some s u hs hu w)
  go_enter Try.func5, Try.ntmps5
  go_wp2_with fail
  refine (Hb.out _).mono ?_
  rintro e w1 ⟨b, rfl, rfl⟩
  by_cases h1 : s.size ≤ 65536
  · have h2 : ¬ u.size ≤ 65536 := fun h2 => h ⟨h1, h2⟩
    cases b <;> (go_wp2_with fail; go_ret; exact ⟨rfl, rfl⟩)
  · cases b <;> (go_wp2_with fail; go_ret; exact ⟨rfl, rfl⟩)

set_option maxHeartbeats 1000000 in
theorem walk_small (s u : ByteArray) (hs : s.size ≤ 65536) (hu : u.size ≤ 65536) (w : World) :
    Calls Try.prog 5 #[.string s, .string u] w fun e w' => e = .returned (.bool true) ∧ Below w.heap.size w w' := by
  have hl := hid (law s.data.toList)
  go_enter Try.func5, Try.ntmps5
  go_wp2_with fail
  refine (bytes_yes s u hs hu _).mono ?_
  rintro e w0 ⟨rfl, rfl⟩
  go_wp2_with fail
  refine (builtin_any _).mono ?_
  rintro e w1 ⟨b0, b2, b3, rfl, c3, c2, c0, l0, l2, hb1⟩
  go_wp2_with fail
  refine (rules_any b3 b2 _ c3).mono ?_
  rintro e w1' ⟨rfl, rfl⟩
  clear c3
  go_wp2_with fail
  refine (newreq_any s u _).mono ?_
  rintro e w2 ⟨bq, rfl, cq, lq, hb2⟩
  have c2' : w2.cell? ⟨b2, 4, none⟩ = some (.slice (some ⟨b0, 0, none⟩) 1 1) := (hb2.cell (p := ⟨b2, 4, none⟩) l2).trans c2
  have c0' : w2.cell? ⟨b0, 0, none⟩ = some (.func (.func 21) #[] #[]) := (hb2.cell (p := ⟨b0, 0, none⟩) l0).trans c0
  have Hz := hid (zzholds_any s hs b2 b0 bq w2 c2' c0' cq)
  clear c2 c0 c2' c0' cq
  go_wp2_with fail
  refine (ruleAt_any b2 _).mono ?_
  rintro e w2' ⟨rfl, rfl⟩
  go_wp2_with fail
  refine Hz.out.mono ?_
  rintro e w3 ⟨rfl, hb3⟩
  go_wp2_with fail
  refine (Wh.model_any s hs _).mono ?_
  rintro e w4 ⟨rfl, hb4⟩
  rw [hl.out]
  go_wp2_with fail
  go_ret
  have s1 := hb1.size
  have s2 := hb2.size
  have s3 := hb3.size
  exact ⟨ret_bool (by simp), ((hb1.trans (hb2.mono s1)).trans (hb3.mono (by omega))).trans (hb4.mono (by omega))⟩

theorem walk_any (s u : ByteArray) (hs : s.size ≤ 9223372036854775807) (hu : u.size ≤ 9223372036854775807) (w : World) :
    Calls Try.prog 5 #[.string s, .string u] w fun e w' => e = .returned (.bool true) ∧ Below w.heap.size w w' := by
  by_cases h : s.size ≤ 65536 ∧ u.size ≤ 65536
  · exact walk_small s u h.1 h.2 w
  · refine (walk_big s u hs hu h w).mono ?_
    rintro e w' ⟨rfl, rfl⟩
    exact ⟨rfl, Below.refl _ _⟩
end Go.Proofs.Qxb6603623a.Wj
