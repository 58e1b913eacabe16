import Derived.Test.Qxb6603823aWa
import Derived.Laws.CopyOwn
import Derived.WalkSmall
namespace Go.Proofs.Qxb6603823a.Wb
open Go.RowKit Pl Wa

theorem Try.info5 : (Try.prog.info? 5).map (fun i => (i.zero, i.size, i.bytes)) = some (some (.int .u8 0), 1, 1) := by kernel_rfl
theorem Try.size5 : (Try.prog.info? 5).map (·.size) = some 1 := by kernel_rfl

/-- the cells of a made row -/
def bs (xs : List Int) : List Value := xs.map (Value.int .u8)
theorem bs_len (xs : List Int) : (bs xs).length = xs.length := by simp [bs]
theorem bs_one (xs : List Int) : ∀ v ∈ bs xs, v.oneCell' = true := ints_oneCell _ _

theorem made_block {w1 : World} {B g n : Nat} {zs : List Value} (h : w1.ownsRow B 5 1 (.slice (some ⟨g, 0, none⟩) n n) n zs) :
    ∃ cur : List Value, cur.length = n ∧ w1.heap[g]? = some (.cells cur.toArray 5 (0, 0)) := by
  obtain ⟨_, h2⟩ := h
  rcases h2 with ⟨h, _⟩ | ⟨g', cap, cur, he, _, h3, _, _, h6, _⟩
  · cases h
  · have he' : g = g' ∧ n = cap := by simpa using he
    obtain ⟨rfl, rfl⟩ := he'
    exact ⟨cur.toList, by simpa using h6, by simpa using h3⟩

theorem cells_of {w2 : World} {g : Nat} {cur : List Value} {xs : List Int} (hl : cur.length = xs.length) (h : w2.heap[g]? = some (.cells (splice cur 0 (bs xs)).toArray 5 (0, 0))) : Cells w2 g 0 xs := by
  have e : splice cur 0 (bs xs) = bs xs := by
    unfold splice; rw [List.take_zero, List.nil_append, Nat.zero_add, List.drop_of_length_le (by rw [bs_len]; omega), List.append_nil]
  rw [e] at h
  intro j hj
  rw [Nat.zero_add]
  unfold World.cell?
  simp only [h]
  simp [bs, hj]

/-- a slice of bytes that came in -/
def Row8 (w : World) (x : Addr) (xs : List Int) : Prop := ∀ j, j < xs.length → w.cell? (x.add j) = some (.int .u8 (xs.getD j 0))

theorem src_cells {w w1 : World} {x : Addr} {xs : List Int} (h : Row8 w x xs) (hb : Below w.heap.size w w1) : ∀ j v, (bs xs)[j]? = some v → w1.cell? (x.add j) = some v := by
  intro j v hv
  have hj : j < xs.length := by
    have := (List.getElem?_eq_some_iff.1 hv).1
    rwa [bs_len] at this
  have hc := h j hj
  have hlt := World.block_lt_of_cell? w _ hc
  rw [hb.cell hlt, hc]
  simp [bs, hj] at hv ⊢
  exact hv

set_option maxHeartbeats 400000 in
theorem bytes_yes (ao : Option Addr) (n c : Nat) (hs : n ≤ 1048576) (w : World) :
    Calls Try.prog 7 #[.slice ao n c] w fun e w' => e = .returned (.bool true) ∧ w' = w := by
  go_enter Try.func7, Try.ntmps7
  go_wp2
  go_ret
  exact ⟨rfl, rfl⟩

set_option maxHeartbeats 400000 in
theorem bytes_no (ao : Option Addr) (n c : Nat) (hs : ¬ n ≤ 1048576) (hm : n ≤ 9223372036854775807) (w : World) :
    Calls Try.prog 7 #[.slice ao n c] w fun e w' => e = .returned (.bool false) ∧ w' = w := by
  go_enter Try.func7, Try.ntmps7
  go_wp2
  go_ret
  exact ⟨rfl, rfl⟩

set_option maxHeartbeats 1000000 in
theorem char_big (ao : Option Addr) (n c : Nat) (hs : ¬ n ≤ 1048576) (hm : n ≤ 9223372036854775807) (w : World) :
    Calls Try.prog 4 #[.slice ao n c] w fun e w' => e = .returned (.bool true) ∧ Below w.heap.size w w' := by
  go_enter Try.func4, Try.ntmps4
  go_wp2_with (go_at_call 7; refine (bytes_no ao n c hs hm _).mono ?_; rintro e w' ⟨rfl, rfl⟩)
  go_ret
  exact ⟨rfl, Below.refl _ _⟩

theorem neq_nil (w : World) (a : Option Addr) (n c n' c' : Nat) : (binOp .neq 24 (.slice a n c) (.slice none n' c')).run Try.prog w = .ok (.bool (!a.isNone)) w :=
  run_neq_slice_nil_any w 24 5 a n c n' c' Try.underlying24
theorem eql_nil (w : World) (a : Option Addr) (n c n' c' : Nat) : (binOp .eql 24 (.slice a n c) (.slice none n' c')).run Try.prog w = .ok (.bool a.isNone) w :=
  Lib.run_eql_slice_nil w 24 5 a n c n' c' Try.underlying24

set_option maxHeartbeats 1000000 in
theorem char_nil (w : World) :
    Calls Try.prog 4 #[.slice none 0 0] w fun e w' => e = .returned (.bool true) ∧ Below w.heap.size w w' := by
  have q1 := neq_nil
  have q2 := eql_nil
  go_enter Try.func4, Try.ntmps4
  go_wp2_with (first
    | (go_at_call 7; refine (bytes_yes none 0 0 (by omega) _).mono ?_; rintro e w' ⟨rfl, rfl⟩)
    | (go_at_call 8; refine (zz_of _ _ _ _ (same_drew (split_nil _))).mono ?_; rintro e w' ⟨rfl, d, rfl⟩)
    | (go_at_call 9; refine (same_none none 0 0 0 none 0 _ (by omega) (by omega)).mono ?_; rintro e w' ⟨rfl, rfl⟩)
    | (go_at_call 10; refine (colon_none none 0 _).mono ?_; rintro e w' ⟨rfl, rfl⟩))
  go_ret
  exact ⟨rfl, below_drewN (Below.refl _ _) d⟩

theorem cells_drop {w : World} {g : Nat} {xs : List Int} (h : Cells w g 0 xs) (m : Nat) : Cells w g m (xs.drop m) := by
  intro j hj
  have hj' : m + j < xs.length := by simp at hj; omega
  have := h (m + j) hj'
  rw [Nat.zero_add] at this
  rw [this]; simp
theorem cells_take {w : World} {g : Nat} {xs : List Int} (h : Cells w g 0 xs) (m : Nat) : Cells w g 0 (xs.take m) := by
  intro j hj
  have hj' : j < xs.length ∧ j < m := by simp at hj; omega
  rw [h j hj'.1]
  simp [hj'.2]
theorem cells_drewN {w : World} {g o : Nat} {xs : List Int} (h : Cells w g o xs) (d : Nat) : Cells (w.drewN d) g o xs := h

theorem getD_take {xs : List Int} {m j : Nat} (h : j < m) : (xs.take m).getD j 0 = xs.getD j 0 := by
  simp [h]
theorem getD_drop (xs : List Int) (m j : Nat) : (xs.drop m).getD j 0 = xs.getD (m + j) 0 := by
  simp

/-- split of the copy, the first colon within -/
theorem zz_in (g n k : Nat) (xs : List Int) (w : World) (hx : xs.length = n) (hn : n ≤ 1048576) (hw : ∀ y ∈ xs, 0 ≤ y ∧ y ≤ 255) (hc : Cells w g 0 xs) (hi : fc xs = k) (h0 : 0 < k) (h1 : k + 1 < n) :
    Calls Try.prog 8 #[.slice (some ⟨g, 0, none⟩) n n] w fun e w' => e = .returned (.tuple #[.slice (some ⟨g, 0, none⟩) k n, .slice (some ⟨g, k + 1, none⟩) (n - (k + 1)) (n - (k + 1))]) ∧ ∃ d, w' = w.drewN d := by
  have h := split_in g 0 n n k xs w hx (by omega) (Nat.le_refl _) hw hc hi h0 h1
  rw [Nat.zero_add] at h
  exact zz_of _ _ _ _ h

theorem zz_out (g n : Nat) (xs : List Int) (w : World) (hx : xs.length = n) (hn : n ≤ 1048576) (hw : ∀ y ∈ xs, 0 ≤ y ∧ y ≤ 255) (hc : Cells w g 0 xs) (hi : fc xs ≤ 0 ∨ (n : Int) - 1 ≤ fc xs) :
    Calls Try.prog 8 #[.slice (some ⟨g, 0, none⟩) n n] w fun e w' => e = .returned (.tuple #[.slice none 0 0, .slice (some ⟨g, 0, none⟩) n n]) ∧ ∃ d, w' = w.drewN d :=
  zz_of _ _ _ _ (same_drew (split_out g 0 n n xs w hx (by omega) hw hc hi))

/-- the head of a row against that row -/
theorem same_head (g n m c : Nat) (xs : List Int) (w : World) (hx : xs.length = n) (hn : n ≤ 1048576) (hm : m ≤ n) (hc : Cells w g 0 xs) :
    Calls Try.prog 9 #[.slice (some ⟨g, 0, none⟩) n n, .int .i64 0, .slice (some ⟨g, 0, none⟩) m c] w fun e w' => e = .returned (.bool true) ∧ ∃ d, w' = w.drewN d :=
  same_any g 0 n n 0 g 0 m c xs (xs.take m) w hx (by simp; omega) (by omega) (by omega) hc (cells_take hc m) (fun k hk => by rw [getD_take hk, Nat.zero_add])

/-- the rest of a row against that row -/
theorem same_rest (g n m c : Nat) (xs : List Int) (w : World) (hx : xs.length = n) (hn : n ≤ 1048576) (hm : m + 1 ≤ n) (hc : Cells w g 0 xs) :
    Calls Try.prog 9 #[.slice (some ⟨g, 0, none⟩) n n, .int .i64 (↑m + 1), .slice (some ⟨g, m + 1, none⟩) (n - (m + 1)) c] w fun e w' => e = .returned (.bool true) ∧ ∃ d, w' = w.drewN d := by
  have h := same_any g 0 n n (m + 1) g (m + 1) (n - (m + 1)) c xs (xs.drop (m + 1)) w hx (by simp; omega) (by omega) (by omega) hc (cells_drop hc (m + 1)) (fun k _ => by rw [getD_drop])
  rw [show ((m + 1 : Nat) : Int) = (m : Int) + 1 by omega] at h
  exact h

set_option maxHeartbeats 2000000 in
theorem char_some (x : Addr) (n cap : Nat) (xs : List Int) (w : World) (hx : xs.length = n) (hn : n ≤ 1048576) (hw : ∀ y ∈ xs, 0 ≤ y ∧ y ≤ 255) (hr : Row8 w x xs) :
    Calls Try.prog 4 #[.slice (some x) n cap] w fun e w' => e = .returned (.bool true) ∧ Below w.heap.size w w' := by
  have q1 := neq_nil
  have q2 := eql_nil
  have Hr := hid hr
  have Hw := hid hw
  have Hx := hid hx
  obtain ⟨i0, hi, hz0, hz1, hz2⟩ := info_parts Try.info5
  clear hr hw hx
  go_enter Try.func4, Try.ntmps4
  go_wp2_with (first
    | (go_at_call 7; refine (bytes_yes _ n cap hn _).mono ?_; rintro e w' ⟨rfl, hww⟩; subst w')
    | (at_make; refine wpList_make_full _ rfl _ _ 24 rfl w.heap.size 5 i0 (.int .u8 0) 1 Try.underlying24 hi hz0 hz1 .i64 .i64 _ _ n rfl rfl rfl rfl ?b2 ?b3 (Nat.le_refl _) ?_))
  case b2 => rw [hz2]; omega
  case b3 => unfold maxLen; omega
  intro w1 hown hgrow
  have hb1 : Below w.heap.size w w1 := (Below.refl _ _).grown hgrow (Nat.le_refl _) (fun k e => by cases e)
  obtain ⟨cur, hcl, hblk⟩ := made_block hown
  have hg1 : w.heap.size < w1.heap.size := (hown.lt w.heap.size rfl).2
  have Hblk := hid hblk
  have Hsrc := hid (src_cells Hr.out hb1)
  obtain ⟨g, hg⟩ : ∃ g, g = w.heap.size := ⟨_, rfl⟩
  rw [← hg] at Hblk ⊢
  have hgw : w.heap.size ≤ g := by omega
  clear hown hgrow hblk hg1 hg Hr
  go_wp2_with (refine wpList_copy_splice rfl _ _ 24 24 rfl 5 Try.underlying24 Try.size5 _ _ _ _ _ _ rfl rfl g 0 cur 5 Hblk.out (bs xs) ?c1 ?c2 ?c3 (bs_one xs) w.heap.size w hb1 hgw ?_)
  case c1 => rw [bs_len, Hx.out]; simp
  case c2 => first | exact fun _ => Hsrc.out | exact fun _ => ⟨rfl, x, rfl, Hsrc.out⟩
  case c3 => rw [bs_len, Hx.out]; omega
  intro w2 hg2 hb2
  have HC := hid (cells_of (by rw [hcl, Hx.out]) hg2.out)
  clear hg2 hb1 Hblk Hsrc
  go_wp2_with fail
  by_cases hin : 0 < fc xs ∧ fc xs < (n : Int) - 1
  · obtain ⟨k, hk⟩ : ∃ k : Nat, fc xs = k := ⟨(fc xs).toNat, by omega⟩
    have hk0 : 0 < k := by omega
    have hk1 : k + 1 < n := by omega
    have h58 : w2.cell? ⟨g, k, none⟩ = some (.int .u8 58) ∧ ∀ j, j < k → xs.getD j 0 ≠ 58 := by
      rcases fc_cases xs with ⟨h1, _⟩ | ⟨k', h1, h2, h3, h4⟩
      · omega
      · obtain rfl : k' = k := by omega
        have := HC.out k' h2
        rw [Nat.zero_add, h3] at this
        exact ⟨this, h4⟩
    have Hno := hid (fc_none (xs.take k) (fun j hj => by have hj' : j < k := (by simp at hj; omega); rw [getD_take hj']; exact h58.2 j hj'))
    have hcell := h58.1
    refine (zz_in g n k xs w2 Hx.out hn Hw.out HC.out hk hk0 hk1).mono ?_
    rintro e w3 ⟨rfl, d3, rfl⟩
    clear hin hk h58
    have t1 : ((k : Int) == 0) = false := by simp; omega
    have t2 : (((n - (k + 1) : Nat) : Int) == 0) = false := by simp; omega
    have t3 : ((k : Int) + 1 + ((n - (k + 1) : Nat) : Int) != (n : Int)) = false := by simp; omega
    go_wp2_with fail
    refine (same_head g n k n xs _ Hx.out hn (by omega) (cells_drewN HC.out _)).mono ?_
    rintro e w4 ⟨rfl, d4, rfl⟩
    go_wp2_with fail
    refine (same_rest g n k _ xs _ Hx.out hn (by omega) (cells_drewN HC.out _)).mono ?_
    rintro e w5 ⟨rfl, d5, rfl⟩
    go_wp2_with fail
    refine (colon_any g 0 k n (xs.take k) _ (by have := Hx.out; simp; omega) (by omega) (cells_take (cells_drewN HC.out _) k)).mono ?_
    rintro e w6 ⟨rfl, rfl⟩
    rw [Hno.out]
    go_wp2_with fail
    go_ret
    exact ⟨rfl, below_drewN hb2 _⟩
  · have hlt : fc xs < (n : Int) ∧ -1 ≤ fc xs := by
      have := Hx.out
      rcases fc_cases xs with ⟨h1, _⟩ | ⟨k', h1, h2, _, _⟩ <;> omega
    refine (zz_out g n xs w2 Hx.out hn Hw.out HC.out (by omega)).mono ?_
    rintro e w3 ⟨rfl, d3, rfl⟩
    go_wp2_with fail
    refine (same_head g n n n xs _ Hx.out hn (Nat.le_refl _) (cells_drewN HC.out _)).mono ?_
    rintro e w4 ⟨rfl, d4, rfl⟩
    go_wp2_with fail
    refine (colon_any g 0 n n xs _ Hx.out (by omega) (cells_drewN HC.out _)).mono ?_
    rintro e w6 ⟨rfl, rfl⟩
    generalize fc xs = f at *
    by_cases h1 : f < 0
    · go_wp2_with fail
      go_ret
      exact ⟨rfl, below_drewN hb2 _⟩
    · by_cases h2 : f = 0
      · have h2' : (f == 0) = true := by rw [h2]; rfl
        clear h2
        go_wp2_with fail
        go_ret
        exact ⟨rfl, below_drewN hb2 _⟩
      · have h2' : (f == 0) = false := by simpa using h2
        have h3' : (f == (n : Int) - 1) = true := by simp; omega
        go_wp2_with fail
        go_ret
        exact ⟨rfl, below_drewN hb2 _⟩
end Go.Proofs.Qxb6603823a.Wb
