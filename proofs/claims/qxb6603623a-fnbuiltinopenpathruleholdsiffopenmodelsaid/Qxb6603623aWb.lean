import Derived.Test.Qxb6603623aWa
namespace Go.Proofs.Qxb6603623a.Wb
open Go.RowKit Pl Wa

theorem proper_form (l : Bs) : (!l.isEmpty && !(l == [46]) && !(l == [46, 46])) = proper l := by
  cases l <;> simp [proper, bne]

set_option maxHeartbeats 400000 in
theorem proper_any (g : ByteArray) (w : World) :
    Calls Try.prog 33 #[.string g] w fun e w' => e = .returned (.bool (proper g.data.toList)) ∧ w' = w := by
  go_enter Try.func33, Try.ntmps33
  go_wp2
  all_goals
    go_ret
    refine ⟨ret_bool ?_, rfl⟩
    rw [← Lib.toList_data]
    first | exact proper_form _ | simp [proper, *]

set_option maxHeartbeats 400000 in
theorem hasSuffix_any (s t : ByteArray) (hs : s.size ≤ 65536) (ht : t.size ≤ 65536) (w : World) :
    Calls Try.prog 20 #[.string s, .string t] w fun e w' => e = .returned (.bool (Lib.hasSuffix s.data.toList t.data.toList)) ∧ w' = w := by
  by_cases h : t.size ≤ s.size
  · have e : ((s.extract (s.size - t.size) s.size).toList == t.toList) = Lib.hasSuffix s.data.toList t.data.toList := by
      rw [← Lib.hasSuffix_raw, decide_eq_true h, Bool.true_and]
    have He := hid e
    clear e
    go_enter Try.func20, Try.ntmps20
    go_wp2
    go_ret
    exact ⟨ret_bool He.out, rfl⟩
  · have e : false = Lib.hasSuffix s.data.toList t.data.toList := by
      rw [← Lib.hasSuffix_raw, decide_eq_false h, Bool.false_and]
    have He := hid e
    clear e
    go_enter Try.func20, Try.ntmps20
    go_wp2
    go_ret
    exact ⟨ret_bool He.out, rfl⟩

theorem drop_at (xs : List Bs) (k : Nat) (h : k < xs.length) : xs.drop k = xs.getD k [] :: xs.drop (k + 1) := by
  rw [List.drop_eq_getElem_cons h]; simp [h]

theorem seg_eq {g : ByteArray} {l : Bs} (h : g = ⟨l.toArray⟩) : g.data.toList = l := by rw [h]

theorem rel_at (b : Bool) {xs : List Bs} {k : Nat} {g : ByteArray} (h : k < xs.length) (hg : g = ⟨(xs.getD k []).toArray⟩) : canonRel b (xs.drop k) = canonRel b (g.toList :: xs.drop (k + 1)) := by
  rw [drop_at xs k h, Lib.toList_data, seg_eq hg]

theorem toList_ne {s : ByteArray} (h : 0 < s.size) : s.toList.isEmpty = false := by
  rw [Lib.toList_data, List.isEmpty_eq_false_iff]; intro e; rw [Lib.size_eq, e] at h; cases h

set_option maxHeartbeats 1000000 in
/-- a rooted path -/
theorem canon_abs (s : ByteArray) (hs : s.size ≤ 65536) (h0 : 0 < s.size) (hc : (s[0].toNat : Int) = 47) (w : World) :
    Calls Try.prog 28 #[.string s] w fun e w' => e = .returned (.bool ((Lib.Pa.els s.data.toList.tail).all proper)) ∧ Below w.heap.size w w' := by
  have hsp := fun w => split_any (s.extract 1 s.size) (by simp; omega) w
  rw [Lib.extract_to_end, List.drop_one] at hsp
  have Hsp := hid hsp
  have hel := els_len s.data.toList.tail
  have hel2 : (Lib.Pa.els s.data.toList.tail).length ≤ 65536 := by rw [List.length_tail, ← Lib.size_eq] at hel; omega
  have hne := toList_ne h0
  have hc' : ((s[0].toNat : Int) == 47) = true := by rw [hc]; rfl
  clear hsp hc hel
  generalize Lib.Pa.els s.data.toList.tail = xs at *
  go_enter Try.func28, Try.ntmps28
  go_wp2_with (go_at_call 19; refine (Hsp.out _).mono ?_; rintro e w1 ⟨v, rfl, ⟨g, cap, rfl, hs1, hs2, hs3⟩, hb⟩; have HS3 := hid hs3; clear hs3)
  clear hne hc'
  go_loop [4] (fun i => ∃ k : Nat, k ≤ xs.length ∧ i = .int .i64 k ∧ Hid (xs.all proper = (xs.drop k).all proper)) (fun i => xs.length - (intOf i).toNat)
  case atStart => exact ⟨0, Nat.zero_le _, rfl, rfl⟩
  case round =>
    obtain ⟨k, hk, rfl, HI⟩ := hrel
    by_cases hlt : k < xs.length
    · have hcell : w1.cell? ⟨g, k, none⟩ = some (.string ⟨(xs.getD k []).toArray⟩) := HS3.out k hlt
      obtain ⟨gk, hgk⟩ : ∃ gk : ByteArray, gk = ⟨(xs.getD k []).toArray⟩ := ⟨_, rfl⟩
      rw [← hgk] at hcell
      have Hgk := hid hgk
      clear hgk
      go_wp2_with (go_at_call 33; refine (proper_any _ _).mono ?_; rintro e w' ⟨rfl, rfl⟩)
      · have h1 : (!proper gk.data.toList) = true := by assumption
        go_ret
        refine ⟨ret_bool ?_, hb⟩
        rw [HI.out, drop_at xs k hlt, List.all_cons, seg_eq Hgk.out] at *
        rw [Bool.not_eq_true'] at h1
        rw [h1, Bool.false_and]
      · have h1 : (!proper gk.data.toList) = false := by assumption
        have HN : Hid (xs.all proper = (xs.drop (k + 1)).all proper) := by
          have h2 := HI.out
          rw [drop_at xs k hlt, List.all_cons, ← seg_eq Hgk.out, show proper gk.data.toList = true by simpa using h1, Bool.true_and] at h2
          exact h2
        go_round
        case rel => exact ⟨k + 1, by omega, by go_num, HN⟩
        case measure => simp [intOf]; omega
    · go_wp2_with fail
      go_ret
      refine ⟨ret_bool ?_, hb⟩
      rw [HI.out, List.drop_of_length_le (by omega)]; rfl

set_option maxHeartbeats 1000000 in
/-- a path that is not rooted, and not the dot -/
theorem canon_rel (s : ByteArray) (hs : s.size ≤ 65536) (h0 : 0 < s.size) (hc : ¬ (s[0].toNat : Int) = 47) (hd : (s.toList == [46]) = false) (w : World) :
    Calls Try.prog 28 #[.string s] w fun e w' => e = .returned (.bool (canonRel false (Lib.Pa.els s.data.toList))) ∧ Below w.heap.size w w' := by
  have Hsp := hid (fun w => split_any s hs w)
  have hel := els_len s.data.toList
  have hel2 : (Lib.Pa.els s.data.toList).length ≤ 65537 := by rw [← Lib.size_eq] at hel; omega
  have hne := toList_ne h0
  have hc' : ((s[0].toNat : Int) == 47) = false := by simpa using hc
  clear hc hel
  generalize Lib.Pa.els s.data.toList = xs at *
  go_enter Try.func28, Try.ntmps28
  go_wp2_with (go_at_call 19; refine (Hsp.out _).mono ?_; rintro e w1 ⟨v, rfl, ⟨g, cap, rfl, hs1, hs2, hs3⟩, hb⟩; have HS3 := hid hs3; clear hs3)
  clear hne hc' hd
  go_loop [6, 7] (fun sn i => ∃ (k : Nat) (b : Bool), k ≤ xs.length ∧ i = .int .i64 k ∧ sn = .bool b ∧ Hid (canonRel false xs = canonRel b (xs.drop k))) (fun _ i => xs.length - (intOf i).toNat)
  case atStart => exact ⟨0, false, Nat.zero_le _, rfl, rfl, rfl⟩
  case round =>
    obtain ⟨k, b, hk, rfl, rfl, HI⟩ := hrel
    by_cases hlt : k < xs.length
    · have hcell : w1.cell? ⟨g, k, none⟩ = some (.string ⟨(xs.getD k []).toArray⟩) := HS3.out k hlt
      obtain ⟨gk, hgk⟩ : ∃ gk : ByteArray, gk = ⟨(xs.getD k []).toArray⟩ := ⟨_, rfl⟩
      rw [← hgk] at hcell
      have Hgk := hid hgk
      clear hgk
      have HR := hid (rel_at b hlt Hgk.out)
      go_wp2
      · have h1 : gk.toList = [] := by assumption
        go_ret
        exact ⟨ret_bool (by rw [HI.out, HR.out, canonRel, if_pos (.inl h1)]), hb⟩
      · have h1 : gk.toList.isEmpty = true ∨ (gk.toList == [46]) = true := by assumption
        go_ret
        exact ⟨ret_bool (by rw [HI.out, HR.out, canonRel, if_pos (by simpa using h1)]), hb⟩
      · have h1 : gk.toList.isEmpty = false ∧ (gk.toList == [46]) = false := by assumption
        have h2 : (gk.toList == [46, 46]) = true := by assumption
        have h3 : b = true := by assumption
        go_ret
        exact ⟨ret_bool (by rw [HI.out, HR.out, canonRel, if_neg (by simpa using h1), if_pos (by simpa using h2), if_pos h3]), hb⟩
      · have h1 : gk.toList.isEmpty = false ∧ (gk.toList == [46]) = false := by assumption
        have h2 : (gk.toList == [46, 46]) = true := by assumption
        have h3 : b = false := by assumption
        have HN : Hid (canonRel false xs = canonRel b (xs.drop (k + 1))) := by
          have h4 := HI.out
          rw [HR.out, canonRel, if_neg (by simpa using h1), if_pos (by simpa using h2), if_neg (by simp [h3])] at h4
          exact h4
        go_round
        case rel => exact ⟨k + 1, b, by omega, by go_num, rfl, HN⟩
        case measure => simp [intOf]; omega
      · have h1 : gk.toList.isEmpty = false ∧ (gk.toList == [46]) = false := by assumption
        have h2 : (gk.toList == [46, 46]) = false := by assumption
        have HN : Hid (canonRel false xs = canonRel true (xs.drop (k + 1))) := by
          have h4 := HI.out
          rw [HR.out, canonRel, if_neg (by simpa using h1), if_neg (by simpa using h2)] at h4
          exact h4
        go_round
        case rel => exact ⟨k + 1, true, by omega, by go_num, rfl, HN⟩
        case measure => simp [intOf]; omega
    · go_wp2_with fail
      go_ret
      refine ⟨ret_bool ?_, hb⟩
      rw [HI.out, List.drop_of_length_le (by omega)]; rfl

theorem data_head {s : ByteArray} (h : 0 < s.size) : s.data.toList.head? = some s[0] := by
  rw [List.head?_eq_getElem?]; exact byte_at s 0 h

theorem data_ne {s : ByteArray} (h : 0 < s.size) : s.data.toList ≠ [] := by
  intro e; rw [Lib.size_eq, e] at h; cases h

theorem empty_of {s : ByteArray} (h : ¬ 0 < s.size) : s = ByteArray.empty := by
  apply ByteArray.ext; apply Array.eq_empty_of_size_eq_zero; show s.size = 0; omega

set_option maxHeartbeats 1000000 in
theorem canon_any (s : ByteArray) (hs : s.size ≤ 65536) (w : World) :
    Calls Try.prog 28 #[.string s] w fun e w' => e = .returned (.bool (canon s.data.toList)) ∧ Below w.heap.size w w' := by
  by_cases h0 : 0 < s.size
  · by_cases hc : (s[0].toNat : Int) = 47
    · have e : canon s.data.toList = (Lib.Pa.els s.data.toList.tail).all proper := by
        rw [canon, if_neg (data_ne h0), if_pos (by rw [data_head h0, c47 hc])]
      rw [e]; exact canon_abs s hs h0 hc w
    · have hn : ¬ s.data.toList.head? = some 47 := by
        rw [data_head h0]; intro e; apply hc; rw [Option.some.inj e]; rfl
      by_cases hd : (s.toList == [46]) = true
      · have e : canon s.data.toList = true := by
          rw [canon, if_neg (data_ne h0), if_neg hn, if_pos (by rw [← Lib.toList_data]; simpa using hd)]
        rw [e]
        have hne := toList_ne h0
        have hc' : ((s[0].toNat : Int) == 47) = false := by simpa using hc
        clear hc hn e
        go_enter Try.func28, Try.ntmps28
        go_wp2
        go_ret
        exact ⟨rfl, Below.refl _ _⟩
      · have hd' : (s.toList == [46]) = false := by simpa using hd
        have e : canon s.data.toList = canonRel false (Lib.Pa.els s.data.toList) := by
          rw [canon, if_neg (data_ne h0), if_neg hn, if_neg (by rw [← Lib.toList_data]; simpa using hd)]
        rw [e]; exact canon_rel s hs h0 hc hd' w
  · have he := empty_of h0
    subst he
    go_enter Try.func28, Try.ntmps28
    go_wp2
    go_ret
    exact ⟨rfl, Below.refl _ _⟩
end Go.Proofs.Qxb6603623a.Wb
