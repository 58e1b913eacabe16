import Derived.Test.Qxb6603623aWc
import Derived.Lib.CleanLen
import Derived.Deep.Light
namespace Go.Proofs.Qxb6603623a.Wi
open Go.RowKit Pl Wa Wb Wc

theorem clean_any (s : ByteArray) (hs : s.size ≤ 65536) (cb : ByteArray) (hcb : cb = ⟨(Lib.Pa.cleanEls s.data.toList).toArray⟩) (w : World) :
    Calls Try.prog 30 #[.string s] w fun e w' => e = .returned (.string cb) ∧ Below w.heap.size w w' := by
  subst hcb; exact Try.path_Clean_rules s w (by omega)

theorem cb_size {s cb : ByteArray} (hs : s.size ≤ 65536) (hcb : cb = ⟨(Lib.Pa.cleanEls s.data.toList).toArray⟩) : cb.size ≤ 65537 := by
  have := Lib.Pa.clean_length_le_succ s.data.toList
  rw [Lib.Pa.clean_eq_cleanEls, ← Lib.size_eq] at this
  rw [Lib.size_eq, seg_eq hcb]; omega

set_option maxHeartbeats 1000000 in
theorem resolve_any (s : ByteArray) (hs : s.size ≤ 65536) (w : World) :
    Calls Try.prog 25 #[.string s] w fun e w' => ∃ rb : ByteArray, e = .returned (.string rb) ∧ rb.data.toList = resolveL s.data.toList ∧ Below w.heap.size w w' := by
  obtain ⟨cb, hcb⟩ : ∃ cb : ByteArray, cb = ⟨(Lib.Pa.cleanEls s.data.toList).toArray⟩ := ⟨_, rfl⟩
  have hcz := cb_size hs hcb
  have Hcl := hid (fun w => clean_any s hs cb hcb w)
  have Hcb := hid hcb
  have Hsf := hid (fun w => Try.strings_HasSuffix s ⟨#[47]⟩ w (by omega))
  clear hcb
  by_cases h1 : Lib.hasSuffix s.data.toList [47] = true
  · rw [show Lib.hasSuffix s.data.toList (⟨#[47]⟩ : ByteArray).data.toList = true from h1] at Hsf
    by_cases h2 : (cb.toList == [47]) = true
    · have e : cb.data.toList = resolveL s.data.toList := by
        rw [resolveL, if_neg, seg_eq Hcb.out]
        rintro ⟨_, h⟩
        apply h; rw [← seg_eq Hcb.out, ← Lib.toList_data]; simpa using h2
      have He := hid e
      clear e h1
      go_enter Try.func25, Try.ntmps25
      go_wp2_with (first
        | (go_at_call 30; refine (Hcl.out _).mono ?_; rintro e w1 ⟨rfl, hb⟩)
        | (go_at_call 27; refine (Hsf.out _).mono ?_; rintro e w' ⟨rfl, rfl⟩))
      go_ret
      exact ⟨_, rfl, He.out, hb⟩
    · have e : (cb ++ (⟨#[47]⟩ : ByteArray)).data.toList = resolveL s.data.toList := by
        have hx : Lib.Pa.cleanEls s.data.toList ≠ [47] := by
          intro h; apply h2; rw [← seg_eq Hcb.out, ← Lib.toList_data] at h; simpa using h
        rw [resolveL, if_pos ⟨h1, hx⟩, ← seg_eq Hcb.out]
        simp
      have He := hid e
      have h2' : (cb.toList == [47]) = false := by simpa using h2
      clear e h1 h2
      go_enter Try.func25, Try.ntmps25
      go_wp2_with (first
        | (go_at_call 30; refine (Hcl.out _).mono ?_; rintro e w1 ⟨rfl, hb⟩)
        | (go_at_call 27; refine (Hsf.out _).mono ?_; rintro e w' ⟨rfl, rfl⟩))
      go_ret
      exact ⟨_, rfl, He.out, hb⟩
  · have h1' : Lib.hasSuffix s.data.toList [47] = false := by simpa using h1
    rw [show Lib.hasSuffix s.data.toList (⟨#[47]⟩ : ByteArray).data.toList = false from h1'] at Hsf
    have e : cb.data.toList = resolveL s.data.toList := by
      rw [resolveL, if_neg (fun h => h1 h.1), seg_eq Hcb.out]
    have He := hid e
    clear e h1 h1'
    go_enter Try.func25, Try.ntmps25
    go_wp2_with (first
      | (go_at_call 30; refine (Hcl.out _).mono ?_; rintro e w1 ⟨rfl, hb⟩)
      | (go_at_call 27; refine (Hsf.out _).mono ?_; rintro e w' ⟨rfl, rfl⟩))
    go_ret
    exact ⟨_, rfl, He.out, hb⟩

set_option maxHeartbeats 2000000 in
theorem open_any (s : ByteArray) (hs : s.size ≤ 65536) (w : World) :
    Calls Try.prog 17 #[.string s] w fun e w' => e = .returned (.bool (openL s.data.toList)) ∧ Below w.heap.size w w' := by
  have Hr := hid (fun w => resolve_any s hs w)
  have Hsf := hid (fun (t : ByteArray) w => Try.strings_HasSuffix s t w (by omega))
  by_cases hr : resolveL s.data.toList = s.data.toList
  · have e : openL s.data.toList = ((s.toList == 47 :: robots) || ((s.toList == 47 :: favicon) || (Lib.hasPrefix s.data.toList (47 :: (wellk ++ [47])) || (Lib.hasSuffix s.data.toList rss || (Lib.hasSuffix s.data.toList xml || Lib.hasSuffix s.data.toList atom))))) := by
      rw [openL, if_pos hr, Lib.toList_data]
    rw [e]
    have Hrr := hid hr
    clear hr e
    go_enter Try.func17, Try.ntmps17
    go_wp2_with (first
      | (go_at_call 25; refine (Hr.out _).mono ?_; rintro e w1 ⟨rb, rfl, hrb, hb⟩; have hrb2 : (rb.toList == s.toList) = true := (by rw [Lib.toList_data, Lib.toList_data, hrb, Hrr.out]; simp); clear hrb)
      | (go_at_call 26; refine (Try.strings_HasPrefix _ _ _).mono ?_; rintro e w' ⟨rfl, rfl⟩)
      | (go_at_call 27; refine (Hsf.out _ _).mono ?_; rintro e w' ⟨rfl, rfl⟩))
    all_goals
      go_ret
      refine ⟨ret_bool ?_, hb⟩
      go_light
      clear Hr Hsf Hrr
      simp_all [robots, favicon, wellk, rss, xml, atom]
  · have e : openL s.data.toList = false := by rw [openL, if_neg hr]
    rw [e]
    have Hrr := hid hr
    clear hr e
    go_enter Try.func17, Try.ntmps17
    go_wp2_with (first
      | (go_at_call 25; refine (Hr.out _).mono ?_; rintro e w1 ⟨rb, rfl, hrb, hb⟩; have hrb2 : (rb.toList == s.toList) = false := (by rw [Lib.toList_data, Lib.toList_data, hrb, beq_eq_false_iff_ne]; exact Hrr.out); clear hrb))
    go_ret
    exact ⟨rfl, hb⟩
end Go.Proofs.Qxb6603623a.Wi
