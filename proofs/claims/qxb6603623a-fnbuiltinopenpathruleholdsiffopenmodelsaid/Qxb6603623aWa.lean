import Derived.Test.Qxb6603623aRows
import Derived.Test.Qxb6603623aShelf
import Derived.Test.Qxb6603623aSplitP
import Derived.WalkKit
import Derived.WalkSpells
import Derived.Deep.Draws
import Derived.RowKit3
import Derived.Lib.IndexBytes
namespace Go.Proofs.Qxb6603623a.Wa
open Go.RowKit Pl

theorem hid {p : Prop} (h : p) : Hid p := h
theorem ret_bool {a b : Bool} (h : a = b) : Ending.returned (.bool a) = .returned (.bool b) := by rw [h]
def sv (e : Bs) : Value := .string ⟨e.toArray⟩
theorem sv_extract (s : ByteArray) (a b : Nat) : Value.string (s.extract a b) = sv ((s.data.toList.drop a).take (b - a)) := by
  unfold sv; rw [Lib.extract_eq]
theorem Try.info9 : (Try.prog.info? 9).map (fun i => (i.zero, i.size, i.bytes)) = some (some (.string ByteArray.empty), 1, 16) := by kernel_rfl

/-- what zzSplit leaves: a row of strings of the call's own -/
def Segs (w : World) (v : Value) (xs : List Bs) : Prop :=
  ∃ g cap, v = .slice (some ⟨g, 0, none⟩) xs.length cap ∧ xs.length ≤ cap ∧ cap ≤ maxLen ∧ ∀ j, j < xs.length → w.cell? ⟨g, j, none⟩ = some (sv (xs.getD j []))

theorem own_step {w wr w1 : World} {v v' : Value} {ys : List Bs} {x : Value} {y : Bs} (hx : x = sv y) (hown : wr.ownsRow w.heap.size 9 1 v ys.length (ys.map sv)) (hbel : Below w.heap.size w wr)
    (hown' : w1.ownsRow w.heap.size 9 1 v' (ys.length + 1) (ys.map sv ++ [x])) (hg : (wr.alloc (.cells #[x] 9)).grownBy w1 v.ownBlock) :
    w1.ownsRow w.heap.size 9 1 v' (ys ++ [y]).length ((ys ++ [y]).map sv) ∧ Below w.heap.size w w1 := by
  subst hx
  refine ⟨by simpa using hown', ?_⟩
  have hs := hbel.size
  exact (hbel.alloc hs _).grown hg (by simp; omega) (fun k e => (hown.lt k e).1)

theorem segs_of {w wr : World} {v : Value} {ys : List Bs} (hne : ys ≠ []) (h : wr.ownsRow w.heap.size 9 1 v ys.length (ys.map sv)) : Segs wr v ys := by
  have h' := h
  obtain ⟨_, h2⟩ := h
  rcases h2 with ⟨_, h0⟩ | ⟨g, cap, cur, rfl, _, _, h3, h4, _, _⟩
  · exact absurd (List.length_eq_zero_iff.1 h0) hne
  · refine ⟨g, cap, rfl, h3, h4, fun j hj => ?_⟩
    rw [h'.cellAt j (by omega)]
    simp [hj]

theorem c47 {c : UInt8} (h : (c.toNat : Int) = 47) : c = 47 := by
  apply UInt8.toNat_inj.1; show c.toNat = 47; omega
theorem byte_at (s : ByteArray) (k : Nat) (h : k < s.size) : s.data.toList[k]? = some s[k] := Lib.data_getElem? s k h

set_option maxHeartbeats 1000000 in
theorem split_any (s : ByteArray) (hs : s.size ≤ 65536) (w : World) :
    Calls Try.prog 19 #[.string s] w fun e w' => ∃ v, e = .returned v ∧ Segs w' v (Lib.Pa.els s.data.toList) ∧ Below w.heap.size w w' := by
  have hsz : s.size = s.data.toList.length := Lib.size_eq s
  have Hsz := hid hsz
  obtain ⟨i0, hi, hz0, hz1, hz2⟩ := info_parts Try.info9
  clear hsz
  go_enter Try.func19, Try.ntmps19
  go_wp2
  go_loopw [3, 4, 5] (fun v st i wr => ∃ (k m : Nat) (ys : List Bs), k ≤ s.size + 1 ∧ i = .int .i64 k ∧ st = .int .i64 m ∧ m ≤ k ∧ Hid (SpInv s.data.toList k m ys) ∧ ys.length ≤ k ∧ wr.ownsRow w.heap.size 9 1 v ys.length (ys.map sv) ∧ Below w.heap.size w wr)
    (fun _ _ i _ => s.size + 1 - (intOf i).toNat)
  case atStart => exact ⟨0, 0, [], by omega, rfl, rfl, Nat.le_refl _, sp_start _, Nat.le_refl _, World.ownsRow_nil _ _ _ _, Below.refl _ _⟩
  case round =>
    obtain ⟨k, m, ys, hk, rfl, rfl, hm, HI, hyl, hown, hbel⟩ := hrel
    by_cases hle : k ≤ s.size
    · have HSv := hid (sv_extract s m k)
      by_cases hlt : k < s.size
      · by_cases hc : (s[k].toNat : Int) = 47
        · have hc' : ((s[k].toNat : Int) == 47) = true := by rw [hc]; rfl
          have hkn : ((k : Int) == (s.size : Int)) = false := by simp; omega
          have HNN := hid (sp_cut HI.out (by rw [← Hsz.out]; exact hlt) (by rw [byte_at s k hlt, c47 hc]))
          clear hc
          go_wp2_with (at_builtin; refine wpList_append_own _ rfl _ _ 33 rfl w.heap.size 9 i0 (.string ByteArray.empty) 1 16 Try.underlying33 hi hz0 hz1 hz2 rfl (by decide) _ _ _ rfl (hown.alloc _) ⟨wr.heap.size, 0, none⟩ 1 1 [.string (s.extract m k)] rfl rfl ?c1 ?c2 ?c3 ?c4 ?c5 ?_)
          case c1 =>
            intro j u hj
            match j, hj with
            | 0, hj => simp at hj; subst hj; simp [Addr.add]
          case c2 => intro u hu; simp at hu; subst hu; rfl
          case c3 => unfold maxLen; omega
          case c4 => omega
          case c5 => have := hbel.size; simp; omega
          intro v' w1 hown' hgrow _
          have R := own_step HSv.out hown hbel hown' hgrow
          have HN := HNN
          clear hown' hgrow hown hbel HI
          go_wp2
          go_roundw
          case rel => exact ⟨k + 1, k + 1, ys ++ [(s.data.toList.drop m).take (k - m)], by omega, by go_num, by go_num, Nat.le_refl _, HN, by simp; omega, R.1, R.2⟩
          case measure => simp [RowKit.intOf]; omega
        · have hc' : ((s[k].toNat : Int) == 47) = false := by simpa using hc
          have hkn : ((k : Int) == (s.size : Int)) = false := by simp; omega
          have HN := hid (sp_on HI.out (by rw [← Hsz.out]; exact hlt) (by rw [byte_at s k hlt]; intro e; apply hc; rw [Option.some.inj e]; rfl))
          clear hc HI
          go_wp2
          go_roundw
          case rel => exact ⟨k + 1, m, ys, by omega, by go_num, rfl, by omega, HN, by omega, hown, hbel⟩
          case measure => simp [RowKit.intOf]; omega
      · have hkn : ((k : Int) == (s.size : Int)) = true := by simp; omega
        have hke : k = s.data.toList.length := by rw [← Hsz.out]; omega
        have HNN : Hid (SpInv s.data.toList (k + 1) (k + 1) (ys ++ [(s.data.toList.drop m).take (k - m)])) := by
          have h1 := HI.out
          rw [hke] at h1 ⊢
          exact sp_end h1
        clear hke
        go_wp2_with (at_builtin; refine wpList_append_own _ rfl _ _ 33 rfl w.heap.size 9 i0 (.string ByteArray.empty) 1 16 Try.underlying33 hi hz0 hz1 hz2 rfl (by decide) _ _ _ rfl (hown.alloc _) ⟨wr.heap.size, 0, none⟩ 1 1 [.string (s.extract m k)] rfl rfl ?c1 ?c2 ?c3 ?c4 ?c5 ?_)
        case c1 =>
          intro j u hj
          match j, hj with
          | 0, hj => simp at hj; subst hj; simp [Addr.add]
        case c2 => intro u hu; simp at hu; subst hu; rfl
        case c3 => unfold maxLen; omega
        case c4 => omega
        case c5 => have := hbel.size; simp; omega
        intro v' w1 hown' hgrow _
        have R := own_step HSv.out hown hbel hown' hgrow
        have HN := HNN
        clear hown' hgrow hown hbel HI
        go_wp2
        go_roundw
        case rel => exact ⟨k + 1, k + 1, ys ++ [(s.data.toList.drop m).take (k - m)], by omega, by go_num, by go_num, Nat.le_refl _, HN, by simp; omega, R.1, R.2⟩
        case measure => simp [RowKit.intOf]; omega
    · have hke : k = s.data.toList.length + 1 := by rw [← Hsz.out]; omega
      have HE := hid (HI.out.2.1 hke)
      have HSg : Segs wr u3 (Lib.Pa.els s.data.toList) := by
        have e := HE.out
        rw [e]
        exact segs_of (by rw [← e]; exact els_ne _) hown
      clear hke
      obtain ⟨g, cap, rfl, hs1, hs2, hs3⟩ := HSg
      have HS3 := hid hs3
      clear hs3
      go_wp2_with fail
      go_ret
      exact ⟨_, rfl, ⟨g, cap, rfl, hs1, hs2, HS3.out⟩, hbel⟩
end Go.Proofs.Qxb6603623a.Wa
