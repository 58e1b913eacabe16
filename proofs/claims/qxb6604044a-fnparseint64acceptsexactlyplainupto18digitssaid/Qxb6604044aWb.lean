import Derived.Test.Qxb6604044aWa
namespace Go.Proofs.Qxb6604044a.Wb
open Go.RowKit Pl Wa

/-- two numbers, whatever they are, and the verdict -/
def Parsed (b : Bool) (e : Ending) : Prop := ∃ x y, e = .returned (.tuple #[.int .i64 x, .int .i32 y, .bool b])
theorem parsed_mk {b b' : Bool} {x y : Int} (h : b' = b) : Parsed b' (.returned (.tuple #[.int .i64 x, .int .i32 y, .bool b])) := ⟨x, y, by rw [h]⟩

set_option maxHeartbeats 1000000 in
theorem parse_long (s : ByteArray) (hs : s.size ≤ 1048576) (h : ¬ s.size ≤ 19) (w : World) :
    Calls Try.prog 8 #[.string s] w fun e w' => Parsed (tgt s.data.toList) e ∧ w' = w := by
  rw [tgt_long (by rw [← Lib.size_eq]; omega)]
  go_enter Try.func8, Try.ntmps8
  go_wp2
  go_ret3
  exact ⟨parsed_mk rfl, rfl⟩

set_option maxHeartbeats 2000000 in
theorem parse_short (s : ByteArray) (h : s.size ≤ 19) (w : World) :
    Calls Try.prog 8 #[.string s] w fun e w' => Parsed (tgt s.data.toList) e ∧ w' = w := by
  have Hsz := hid (Lib.size_eq s)
  go_enter Try.func8, Try.ntmps8
  go_wp2
  go_loop [5, 6, 7] (fun cf pt i => ∃ (k : Nat) (c p : Int), k ≤ s.size ∧ i = .int .i64 k ∧ cf = .int .i64 c ∧ pt = .int .i64 p ∧ -1 ≤ p ∧ p < k ∧ Hid (ScInv s.data.toList k p)) (fun _ _ i => s.size - (intOf i).toNat)
  case atStart => exact ⟨0, 0, -1, Nat.zero_le _, rfl, rfl, rfl, by omega, by omega, sc_start _⟩
  case round =>
    obtain ⟨k, c, p, hk, rfl, rfl, rfl, hp1, hp2, HI⟩ := hrel
    by_cases hlt : k < s.size
    · have hb := byte_at s k hlt
      have HB := hid hb
      clear hb
      by_cases hd : 48 ≤ (s[k].toNat : Int) ∧ (s[k].toNat : Int) ≤ 57
      · have HN := hid (sc_dig HI.out HB.out (by unfold dig; exact decide_eq_true hd))
        obtain ⟨hd1, hd2⟩ := hd
        clear HI
        go_wp2
        go_round
        case rel => exact ⟨k + 1, _, p, by omega, by go_num, rfl, rfl, hp1, by omega, HN⟩
        case measure => simp [intOf]; omega
      · have hdf : dig s[k] = false := by unfold dig; exact decide_eq_false hd
        by_cases hpt : (s[k].toNat : Int) = 46 ∧ p < 0
        · have HN := hid (sc_point HI.out HB.out hpt.1 hpt.2)
          have hp3 := hpt.2
          have h46 : ((s[k].toNat : Int) == 46) = true := by rw [hpt.1]; rfl
          have hlo : (s[k].toNat : Int) < 48 := by omega
          clear HI hd hpt hdf
          go_wp2
          go_round
          case rel => exact ⟨k + 1, c, k, by omega, by go_num, rfl, rfl, by omega, by omega, HN⟩
          case measure => simp [intOf]; omega
        · have HT := hid (tgt_stop HI.out HB.out hdf hpt)
          clear HI hdf
          by_cases h46 : (s[k].toNat : Int) = 46
          · have hp3 : ¬ p < 0 := fun h => hpt ⟨h46, h⟩
            have h46' : ((s[k].toNat : Int) == 46) = true := by rw [h46]; rfl
            have hlo : (s[k].toNat : Int) < 48 := by omega
            clear hd hpt h46
            go_wp2
            go_ret3
            exact ⟨parsed_mk HT.out, rfl⟩
          · have h46' : ((s[k].toNat : Int) == 46) = false := by simpa using h46
            by_cases hlo : (s[k].toNat : Int) < 48
            · clear hd hpt h46
              go_wp2
              go_ret3
              exact ⟨parsed_mk HT.out, rfl⟩
            · have hhi : 57 < (s[k].toNat : Int) := by omega
              clear hd hpt h46
              go_wp2
              go_ret3
              exact ⟨parsed_mk HT.out, rfl⟩
    · have HE : Hid (ScInv s.data.toList s.data.toList.length p) := by
        have e : k = s.data.toList.length := by rw [← Hsz.out]; omega
        have h := HI.out
        rw [e] at h
        exact h
      clear HI
      by_cases hp0 : p < 0
      · obtain rfl : p = -1 := by omega
        have HT := hid (tgt_end0 HE.out)
        rw [← Hsz.out] at HT
        by_cases hz : s.size = 0
        · have hT : tgt s.data.toList = false := by rw [HT.out]; exact decide_eq_false (by omega)
          have HT' := hid hT
          have hE : s.toList.isEmpty = true := by
            rw [Lib.toList_data, List.isEmpty_iff, ← List.length_eq_zero_iff, ← Lib.size_eq]; exact hz
          clear hT HT HE hp0
          go_wp2
          go_ret3
          exact ⟨parsed_mk HT'.out, rfl⟩
        · have hE : s.toList.isEmpty = false := by
            rw [Lib.toList_data, List.isEmpty_eq_false_iff]; intro e; apply hz; rw [Lib.size_eq, e]; rfl
          by_cases h18 : s.size ≤ 18
          · have HT' : Hid (tgt s.data.toList = true) := by
              have h := HT.out
              rw [decide_eq_true (by omega)] at h; exact h
            clear HT HE hp0
            go_wp2
            go_ret3
            exact ⟨parsed_mk HT'.out, rfl⟩
          · have HT' : Hid (tgt s.data.toList = false) := by
              have h := HT.out
              rw [decide_eq_false (by omega)] at h; exact h
            clear HT HE hp0
            go_wp2
            go_ret3
            exact ⟨parsed_mk HT'.out, rfl⟩
      · obtain ⟨q, rfl⟩ : ∃ q : Nat, p = q := ⟨p.toNat, by omega⟩
        have HT := hid (tgt_end1 HE.out (by rw [← Hsz.out]; exact h))
        rw [← Hsz.out] at HT
        have hE : s.toList.isEmpty = false := by
          rw [Lib.toList_data, List.isEmpty_eq_false_iff]; intro e
          have : s.size = 0 := by rw [Lib.size_eq, e]; rfl
          omega
        by_cases hq0 : q = 0
        · have HT' : Hid (tgt s.data.toList = false) := by
            have h := HT.out
            rw [decide_eq_false (by omega)] at h; exact h
          subst hq0
          clear HT HE hp0
          go_wp2
          go_ret3
          exact ⟨parsed_mk HT'.out, rfl⟩
        · have hq0' : ((q : Int) == 0) = false := by simpa using hq0
          have hqp : 0 < q := by omega
          by_cases hq1 : q + 1 < s.size
          · have HT' : Hid (tgt s.data.toList = true) := by
              have h := HT.out
              rw [decide_eq_true (by omega)] at h; exact h
            have hpl : ((s.size : Int) - ↑q - 1 == 0) = false := by rw [beq_eq_false_iff_ne]; omega
            clear HT HE hp0 hq0
            go_wp2
            go_ret3
            exact ⟨parsed_mk HT'.out, rfl⟩
          · have HT' : Hid (tgt s.data.toList = false) := by
              have h := HT.out
              rw [decide_eq_false (by omega)] at h; exact h
            have hpl : ((s.size : Int) - ↑q - 1 == 0) = true := by rw [beq_iff_eq]; omega
            clear HT HE hp0 hq0
            go_wp2
            go_ret3
            exact ⟨parsed_mk HT'.out, rfl⟩

theorem parse_any (s : ByteArray) (hs : s.size ≤ 1048576) (w : World) :
    Calls Try.prog 8 #[.string s] w fun e w' => Parsed (tgt s.data.toList) e ∧ w' = w := by
  by_cases h : s.size ≤ 19
  · exact parse_short s h w
  · exact parse_long s hs h w

set_option maxHeartbeats 1000000 in
theorem walk_any (s : ByteArray) (w : World) (hb : s.size ≤ 9223372036854775807) :
    Calls Try.prog 4 #[.string s] w fun e w' => e = .returned (.bool true) ∧ ∃ n, w' = w.drewN n := by
  by_cases hs : s.size ≤ 1048576
  · have Hp := hid (fun w => parse_any s hs w)
    have Hz := hid (fun w => zzplain_any s hs w)
    have Hc := hid (fun w => count_any s hs w)
    have HT : Hid (tgt s.data.toList = (isPlainB s.data.toList && decide (cnt s.data.toList ≤ 18))) := rfl
    go_enter Try.func4, Try.ntmps4
    go_wp2_with fail
    refine (bytes_yes s hs _).mono ?_
    rintro e w1 ⟨rfl, hw1⟩
    subst w1
    go_wp2_with fail
    refine (Hp.out _).mono ?_
    rintro e w1 ⟨⟨x, y, rfl⟩, hw1⟩
    subst w1
    generalize tgt s.data.toList = T at *
    go_wp2_with fail
    refine (Hz.out _).mono ?_
    rintro e w1 ⟨rfl, d, rfl⟩
    generalize isPlainB s.data.toList = P at *
    cases P
    · have hT : T = false := HT.out
      subst hT
      go_wp2_with fail
      go_ret
      exact ⟨rfl, d, rfl⟩
    · have HT' : Hid (T = decide (cnt s.data.toList ≤ 18)) := HT.out
      clear HT
      go_wp2_with fail
      refine (Hc.out _).mono ?_
      rintro e w2 ⟨rfl, rfl⟩
      generalize cnt s.data.toList = C at *
      go_wp2_with fail
      go_ret
      refine ⟨ret_bool ?_, d, rfl⟩
      rw [HT'.out]
      simp
      omega
  · go_enter Try.func4, Try.ntmps4
    go_wp2_with (go_at_call 10; refine (bytes_no s hs hb _).mono ?_; rintro e w' ⟨rfl, rfl⟩)
    go_ret
    exact ⟨rfl, 0, rfl⟩
end Go.Proofs.Qxb6604044a.Wb
