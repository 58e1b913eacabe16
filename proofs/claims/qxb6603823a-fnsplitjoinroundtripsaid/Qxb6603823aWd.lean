import Derived.Test.Qxb6603823aWc
namespace Go.Proofs.Qxb6603823a.Wd
open Go.RowKit Pl Wa Wb Wc

theorem src_plain {w w1 : World} {b o : Nat} {xs : List Int} (h : Cells w b o xs) (hb : Below w.heap.size w w1) : ∀ j v, (bs xs)[j]? = some v → w1.cell? ⟨b, o + j, none⟩ = some v := by
  intro j v hv
  have hj : j < xs.length := by
    have := (List.getElem?_eq_some_iff.1 hv).1
    rwa [bs_len] at this
  have hc := h j hj
  have hlt := World.block_lt_of_cell? w _ hc
  rw [hb.cell hlt, hc]
  simp [bs, hj] at hv ⊢
  exact hv

theorem lt_of_cells {w : World} {g : Nat} {v : Obj} (h : w.heap[g]? = some v) : g < w.heap.size := by
  rcases Nat.lt_or_ge g w.heap.size with h' | h'
  · exact h'
  · rw [Array.getElem?_eq_none h'] at h; cases h

theorem zz_in2 (g n k : Nat) (xs : List Int) (w : World) (hx : xs.length = n) (hn : n ≤ 1048577) (hw : ∀ y ∈ xs, 0 ≤ y ∧ y ≤ 255) (hc : Cells w g 0 xs) (hi : fc xs = k) (h0 : 0 < k) (h1 : k + 1 < n) :
    Calls Try.prog 8 #[.slice (some ⟨g, 0, none⟩) n n] w fun e w' => e = .returned (.tuple #[.slice (some ⟨g, 0, none⟩) k n, .slice (some ⟨g, k + 1, none⟩) (n - (k + 1)) (n - (k + 1))]) ∧ ∃ d, w' = w.drewN d := by
  have h := split_in g 0 n n k xs w hx (by omega) (Nat.le_refl _) hw hc hi h0 h1
  rw [Nat.zero_add] at h
  exact zz_of _ _ _ _ h

set_option maxHeartbeats 4000000 in
theorem join_main (b o n c b' o' m d : Nat) (xs ys : List Int) (w : World) (hx : xs.length = n) (hy : ys.length = m) (hn : n + m ≤ 1048576) (h0 : 0 < n) (h1 : 0 < m)
    (hc : Cells w b o xs) (hc' : Cells w b' o' ys) (hwx : ∀ y ∈ xs, 0 ≤ y ∧ y ≤ 255) (hwy : ∀ y ∈ ys, 0 ≤ y ∧ y ≤ 255) (hf : fc xs < 0) :
    Calls Try.prog 5 #[.slice (some ⟨b, o, none⟩) n c, .slice (some ⟨b', o', none⟩) m d] w fun e w' => e = .returned (.bool true) ∧ Below w.heap.size w w' := by
  have Hb := hid (fun w => bytes2 (some ⟨b, o, none⟩) n c (some ⟨b', o', none⟩) m d (by omega) (by omega) w)
  have Hcl := hid (colon_any b o n c xs w hx (by omega) hc)
  have t1 : ((n : Int) == 0) = false := by simp; omega
  have t2 : ((m : Int) == 0) = false := by simp; omega
  have q1 := neq_nil
  obtain ⟨N, hN⟩ : ∃ N, N = n + 1 + m := ⟨_, rfl⟩
  have HN := hid hN
  have hN1 : n + 1 < N := by omega
  have hN2 : N ≤ 1048577 := by omega
  have Hx := hid hx
  have Hy := hid hy
  have Hc := hid hc
  have Hc' := hid hc'
  have HJ := hid (fc_join xs ys n hx hf)
  have Hwx := hid hwx
  have Hwy := hid hwy
  obtain ⟨i0, hi, hz0, hz1, hz2⟩ := info_parts Try.info5
  clear hx hy hc hc' hN hwx hwy
  go_enter Try.func5, Try.ntmps5
  go_wp2_with fail
  refine (Hb.out _).mono ?_
  rintro e w1 ⟨bb, rfl, hw1⟩
  subst w1
  cases bb
  · go_wp2_with fail
    go_ret
    exact ⟨rfl, Below.refl _ _⟩
  go_wp2_with fail
  refine Hcl.out.mono ?_
  rintro e w1 ⟨rfl, hw1⟩
  subst w1
  clear Hb Hcl
  generalize fc xs = f at *
  go_wp2_with (at_make; refine wpList_make_full _ rfl _ _ 24 rfl w.heap.size 5 i0 (.int .u8 0) 1 Try.underlying24 hi hz0 hz1 .i64 .i64 _ _ n rfl rfl rfl rfl ?b2 ?b3 (Nat.le_refl _) ?_)
  case b2 => rw [hz2]; omega
  case b3 => unfold maxLen; omega
  intro w1 hown hgrow
  have hb1 : Below w.heap.size w w1 := (Below.refl _ _).grown hgrow (Nat.le_refl _) (fun k e => by cases e)
  obtain ⟨cur, hcl, hblk⟩ := made_block hown
  have Hblk := hid hblk
  have Hsrc := hid (src_plain Hc.out hb1)
  have hg1 : w.heap.size < w1.heap.size := (hown.lt w.heap.size rfl).2
  obtain ⟨g1, hg⟩ : ∃ g, g = w.heap.size := ⟨_, rfl⟩
  rw [← hg] at Hblk ⊢
  have hgw : w.heap.size ≤ g1 := by omega
  have hgw1 : g1 < w1.heap.size := by omega
  clear hown hgrow hblk hg1 hg Hc
  go_wp2_with (refine wpList_copy_splice rfl _ _ 24 24 rfl 5 Try.underlying24 Try.size5 _ _ _ _ _ _ rfl rfl g1 0 cur 5 Hblk.out (bs xs) ?c1 ?c2 ?c3 (bs_one xs) w.heap.size w hb1 hgw ?_)
  case c1 => rw [bs_len, Hx.out]; simp
  case c2 => exact fun _ => Hsrc.out
  case c3 => rw [bs_len, Hx.out]; omega
  intro w2 hg2 hb2
  have HC1 := hid (cells_of (by rw [hcl, Hx.out]) hg2.out)
  have hs2 : g1 < w2.heap.size := lt_of_cells hg2.out
  clear hg2 hb1 Hblk Hsrc hcl
  go_wp2_with (at_make; refine wpList_make_full _ rfl _ _ 24 rfl w2.heap.size 5 i0 (.int .u8 0) 1 Try.underlying24 hi hz0 hz1 .i64 .i64 _ _ m rfl rfl rfl rfl ?b2' ?b3' (Nat.le_refl _) ?_)
  case b2' => rw [hz2]; omega
  case b3' => unfold maxLen; omega
  intro w3 hown hgrow
  have hb3 : Below w2.heap.size w2 w3 := (Below.refl _ _).grown hgrow (Nat.le_refl _) (fun k e => by cases e)
  obtain ⟨cur', hcl', hblk'⟩ := made_block hown
  have Hblk' := hid hblk'
  have hsz2 := hb2.size
  have Hsrc' := hid (src_plain Hc'.out (hb2.trans (hb3.mono hsz2)))
  obtain ⟨g2, hg⟩ : ∃ g, g = w2.heap.size := ⟨_, rfl⟩
  rw [← hg] at Hblk' ⊢
  have hgw2 : w2.heap.size ≤ g2 := by omega
  clear hown hgrow hblk' hg Hc'
  go_wp2_with (refine wpList_copy_splice rfl _ _ 24 24 rfl 5 Try.underlying24 Try.size5 _ _ _ _ _ _ rfl rfl g2 0 cur' 5 Hblk'.out (bs ys) ?c1' ?c2' ?c3' (bs_one ys) w2.heap.size w2 hb3 hgw2 ?_)
  case c1' => rw [bs_len, Hy.out]; simp
  case c2' => exact fun _ => Hsrc'.out
  case c3' => rw [bs_len, Hy.out]; omega
  intro w4 hg4 hb4
  have HC2 := hid (cells_of (by rw [hcl', Hy.out]) hg4.out)
  have hs4 : g2 < w4.heap.size := lt_of_cells hg4.out
  have HC1' := hid (cells_keep HC1.out hb4 hs2)
  have hsz4 := hb4.size
  have hbw4 : Below w.heap.size w w4 := hb2.trans (hb4.mono hsz2)
  clear hg4 hb3 hb4 Hblk' Hsrc' hcl' HC1 hb2
  go_wp2_with (at_make; refine wpList_make_own _ rfl _ _ 24 rfl w4.heap.size 5 i0 (.int .u8 0) 1 Try.underlying24 hi hz0 hz1 .i64 .i64 _ N rfl rfl ?hC ?b2'' ?b3'' (Nat.le_refl _) ?_)
  case hC => have := HN.out; omega
  case b2'' => rw [hz2]; omega
  case b3'' => unfold maxLen; omega
  intro w5 hown5 hgrow5
  have hb5 : Below w4.heap.size w4 w5 := (Below.refl _ _).grown hgrow5 (Nat.le_refl _) (fun k e => by cases e)
  obtain ⟨g3, hg⟩ : ∃ g, g = w4.heap.size := ⟨_, rfl⟩
  have hg3 : w4.heap.size ≤ g3 := by omega
  have hown5' : w5.ownsRow w4.heap.size 5 1 (.slice (some ⟨g3, 0, none⟩) 0 N) 0 [] := by rw [hg]; exact hown5
  rw [← hg]
  have hb5s := hb5.size
  have hg1w : g1 < w4.heap.size := by omega
  have Hs5 := hid (row_cells (cells_keep HC1'.out hb5 hg1w))
  clear hown5 hgrow5 hg
  go_wp2_with (at_builtin; refine wpList_append_fits _ rfl _ _ 24 rfl w4.heap.size 5 i0 1 Try.underlying24 hi hz1 g3 0 N [] rfl hown5' ⟨g1, 0, none⟩ n n (bs xs) rfl ?d1 ?d2 ?d3 ?d4 ?_)
  case d1 => rw [bs_len, Hx.out]; simp
  case d2 => exact Hs5.out
  case d3 => exact bs_one xs
  case d4 => omega
  intro w6 hown6 hgrow6
  have hb6 : Below w4.heap.size w4 w6 := hb5.grown hgrow6 hb5s (fun k e => by cases e; exact hg3)
  have hb6s := hb6.size
  clear hgrow6 hown5' hb5 Hs5
  go_wp2_with (at_builtin; refine wpList_append_fits _ rfl _ _ 24 rfl w4.heap.size 5 i0 1 Try.underlying24 hi hz1 g3 n N (bs xs) rfl (hown6.alloc _) ⟨w6.heap.size, 0, none⟩ 1 1 [.int .u8 58] rfl ?d1' ?d2' ?d3' ?d4' ?_)
  case d1' => rfl
  case d2' =>
    intro j u hj
    match j, hj with
    | 0, hj => simp at hj; subst hj; simp [Addr.add]
  case d3' => intro u hu; simp at hu; subst hu; rfl
  case d4' => omega
  intro w7 hown7 hgrow7
  have hb7 : Below w4.heap.size w4 w7 := (hb6.alloc hb6s _).grown hgrow7 (by simp; omega) (fun k e => by cases e; exact hg3)
  have hb7s := hb7.size
  have hg2w : g2 < w4.heap.size := hs4
  have Hs7 := hid (row_cells (cells_keep HC2.out hb7 hg2w))
  clear hgrow7 hown6 hb6
  go_wp2_with (at_builtin; refine wpList_append_fits _ rfl _ _ 24 rfl w4.heap.size 5 i0 1 Try.underlying24 hi hz1 g3 (n + 1) N (bs xs ++ [.int .u8 58]) rfl hown7 ⟨g2, 0, none⟩ m m (bs ys) rfl ?e1 ?e2 ?e3 ?e4 ?_)
  case e1 => rw [bs_len, Hy.out]; simp
  case e2 => exact Hs7.out
  case e3 => exact bs_one ys
  case e4 => have := HN.out; omega
  intro w8 hown8 hgrow8
  have hb8 : Below w4.heap.size w4 w8 := hb7.grown hgrow8 hb7s (fun k e => by cases e; exact hg3)
  have hN := HN.out
  subst hN
  have HC3 : Hid (Cells w8 g3 0 (xs ++ 58 :: ys)) := by
    refine own_cells (B := w4.heap.size) (n := n + 1 + m) (cap := n + 1 + m) (by have := Hx.out; have := Hy.out; simp; omega) ?_
    have e : bs (xs ++ 58 :: ys) = bs xs ++ .int .u8 58 :: bs ys := by simp [bs]
    rw [e]; exact hown8
  have HC1 := hid (cells_keep HC1'.out hb8 hg1w)
  have HC2' := hid (cells_keep HC2.out hb8 hg2w)
  have hbw8 : Below w.heap.size w w8 := hbw4.trans (hb8.mono hbw4.size)
  have HP : Hid (Cells w8 g3 0 xs) := by
    have h := cells_take HC3.out n
    rwa [List.take_left' Hx.out] at h
  have HL : Hid (Cells w8 g3 (n + 1) ys) := by
    have h := cells_drop HC3.out (n + 1)
    have e : (xs ++ 58 :: ys).drop (n + 1) = ys := by rw [← Hx.out]; simp
    rwa [e] at h
  have HZ : Hid (∀ y ∈ xs ++ 58 :: ys, 0 ≤ y ∧ y ≤ 255) := by
    intro y hy
    rcases List.mem_append.1 hy with h | h
    · exact Hwx.out y h
    · rcases List.mem_cons.1 h with h | h
      · omega
      · exact Hwy.out y h
  have hz := zz_in2 g3 (n + 1 + m) n (xs ++ 58 :: ys) w8 (by have := Hx.out; have := Hy.out; simp; omega) (by omega) HZ.out HC3.out HJ.out h0 (by omega)
  rw [show n + 1 + m - (n + 1) = m by omega] at hz
  have Hz := hid hz
  clear hgrow8 hown8 hown7 hb7 hb8 hbw4 Hs7 HC1' HC2 hz
  go_wp2_with fail
  refine Hz.out.mono ?_
  rintro e w9 ⟨rfl, d9, rfl⟩
  go_wp2_with fail
  refine (same_any g3 0 n (n + 1 + m) 0 g1 0 n n xs xs _ Hx.out Hx.out (by omega) (by omega) (cells_drewN HP.out _) (cells_drewN HC1.out _) (fun k _ => by rw [Nat.zero_add])).mono ?_
  rintro e w10 ⟨rfl, d10, rfl⟩
  go_wp2_with fail
  refine (same_any g3 (n + 1) m m 0 g2 0 m m ys ys _ Hy.out Hy.out (by omega) (by omega) (cells_drewN HL.out _) (cells_drewN HC2'.out _) (fun k _ => by rw [Nat.zero_add])).mono ?_
  rintro e w11 ⟨rfl, d11, rfl⟩
  go_wp2_with fail
  go_ret
  exact ⟨rfl, below_drewN hbw8 _⟩
end Go.Proofs.Qxb6603823a.Wd
