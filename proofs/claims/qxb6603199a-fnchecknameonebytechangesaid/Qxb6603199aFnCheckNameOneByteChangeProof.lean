/-
  THE PROOF OF 'Rows.FnCheckNameOneByteChangeSaid': the frame by the kit's skeleton tool for this statement; the walk typed by hand.
-/
import Derived.Test.Qxb6603199aRows
import Derived.Test.Qxb6603199aCheckName
import Derived.Test.Qxb6603199aChange
import Derived.WalkKit
import Derived.ProofKit
import Derived.OpenShut
import Derived.ShutString
import Derived.WalkSpells
import Derived.Deep.LoopGhost
import Derived.WalkLawsBesides
namespace Go.Proofs.Qxb6603199a.fnCheckNameOneByteChange
open Go.ChangeShapes Go.WideShapes Go.ChangeAt Go.RowKit
open Go.ChangeMaps (open_string shut_string)
set_option linter.unusedVariables false      -- a walk need not use every 'w<i>' (that an integer argument fits its kind)

theorem own : ownKnob Try.prog.godebug = none := by kernel_rfl

/-! ### STEP 1: THE WALK: the Go text returns true. -/
theorem info5 : (Try.prog.info? 5).map (fun i => (i.zero, i.size, i.bytes)) = some (some (.int .u8 0), 1, 1) := by kernel_rfl

theorem zz_no (s : ByteArray) (i c : Int) (w0 : s.size ≤ maxLen) (w : World) (h : 1048576 < s.size) :
    Calls Try.prog 13 #[.string s, .int .i64 i, .int .u8 c] w fun e w' => e = .returned (.bool false) ∧ w' = w := by
  unfold maxLen at w0
  go_enter Try.func13, Try.ntmps13
  go_wp2
  go_ret
  exact ⟨rfl, rfl⟩
theorem zz_yes (s : ByteArray) (i c : Int) (w : World) (h : s.size ≤ 1048576) :
    Calls Try.prog 13 #[.string s, .int .i64 i, .int .u8 c] w fun e w' => e = .returned (.bool true) ∧ w' = w := by
  go_enter Try.func13, Try.ntmps13
  go_wp2
  go_ret
  exact ⟨rfl, rfl⟩

theorem walk_out (s : ByteArray) (i c : Int) (w0 : s.size ≤ maxLen) (w : World) (h : 1048576 < s.size) :
    Calls Try.prog 5 #[.string s, .int .i64 i, .int .u8 c] w fun e w' => e = .returned (.bool true) ∧ Grown w w' := by
  go_enter Try.func5, Try.ntmps5
  go_wp2_with fail
  refine (zz_no s i c w0 _ h).mono ?_
  rintro e w' ⟨rfl, rfl⟩
  go_wp2_with fail
  go_ret
  exact ⟨rfl, Grown.refl _⟩

theorem walk_idx (s : ByteArray) (i c : Int) (w : World) (h : s.size ≤ 1048576) (h2 : i < 0 ∨ (s.size : Int) ≤ i) :
    Calls Try.prog 5 #[.string s, .int .i64 i, .int .u8 c] w fun e w' => e = .returned (.bool true) ∧ Grown w w' := by
  rcases h2 with h2 | h2
  all_goals
    go_enter Try.func5, Try.ntmps5
    go_wp2_with fail
    refine (zz_yes s i c _ h).mono ?_
    rintro e w' ⟨rfl, rfl⟩
    go_wp2_with fail
    go_ret
    exact ⟨rfl, Grown.refl _⟩

theorem walk_bad (s : ByteArray) (i c : Int) (w : World) (h : s.size ≤ 1048576) (h2 : 0 ≤ i) (h3 : i < (s.size : Int)) (hg : ¬ Good s) :
    Calls Try.prog 5 #[.string s, .int .i64 i, .int .u8 c] w fun e w' => e = .returned (.bool true) ∧ Grown w w' := by
  have hm := msg_ne
  go_enter Try.func5, Try.ntmps5
  go_wp2_with fail
  refine (zz_yes s i c _ h).mono ?_
  rintro e w' ⟨rfl, rfl⟩
  go_wp2_with fail
  refine (chk_no s _ (by unfold maxLen; omega) hg).mono ?_
  rintro e w' ⟨rfl, rfl⟩
  go_wp2_with fail
  go_ret
  exact ⟨rfl, Grown.refl _⟩

set_option maxHeartbeats 1000000 in
theorem walk_main (s : ByteArray) (i c : Nat) (w : World) (h3 : i < s.size) (hc : c < 256) (hg : Good s) :
    Calls Try.prog 5 #[.string s, .int .i64 i, .int .u8 c] w fun e w' => e = .returned (.bool true) ∧ Grown w w' := by
  have h63 := hg.2.1
  have hm := msg_ne
  have hmk := fun w => run_make_row' (P := Try.prog) 27 5 (.int .u8 0) 1 Try.underlying27 info5 rfl .i64 .i64 s.size (by omega) (by omega) w
  go_enter Try.func5, Try.ntmps5
  go_wp2_with fail
  refine (zz_yes s i c _ (by omega)).mono ?_
  rintro e w1 ⟨rfl, hw⟩
  have hw := hw.symm
  subst hw
  go_wp2_with fail
  refine (chk_yes s _ hg).mono ?_
  rintro e w1 ⟨rfl, hw⟩
  have hw := hw.symm
  subst hw
  go_wp2_with fail
  clear hmk
  go_loopg [8] s.size (fun g k wr => ∃ k' : Nat, g = s.size - k' ∧ k = .int .i64 k' ∧ k' ≤ s.size ∧ wr.rowIs w.heap.size 5 s.size (cop s k') ∧ Grown w wr)
  case atStart => exact ⟨0, rfl, rfl, by omega, row_start _ _, (Grown.refl _).alloc _ _⟩
  case round =>
    obtain ⟨k, hgk, rfl, hk, hrow, hgr⟩ := hrel
    have HG := hide hgk
    clear hgk
    by_cases hlt : k < s.size
    · have HB := hide (bt_eq s k hlt)
      have hcell := hrow.cell hlt
      have hfz := hrow.frozen k
      go_wp2
      go_roundg (s.size - (k + 1))
      case rel =>
        rw [HB.out]
        exact ⟨k + 1, rfl, by go_num, by omega, row_step hrow, hgr.setCell (Nat.le_refl _) _⟩
      case measure => have := HG.out; omega
    · have ek : k = s.size := by omega
      rw [ek] at hrow
      have hcell := hrow.cell h3
      have hfz := hrow.frozen i
      have hcv := conv_chg (P := Try.prog) 27 9 Try.underlying27 Try.underlying5 Try.underlying9 hrow h3 hc
      have hgc := good_chg hg h3 hc
      have hsz : (chgB s i c).size ≤ maxLen := by rw [chgB_size]; unfold maxLen; omega
      have HS := hide hsz
      have HG2 := hide hgc
      have hgr2 : Grown w (wr.setCell ⟨w.heap.size, i, none⟩ (.int .u8 c)) := hgr.setCell (Nat.le_refl _) _
      clear hsz hgc ek
      go_wp2_with fail
      by_cases ho : okN c
      · have HO : Hid ((97 ≤ (c : Int) ∧ (c : Int) ≤ 122) ∨ (48 ≤ (c : Int) ∧ (c : Int) ≤ 57)) := hide (by unfold okN at ho; omega)
        refine (chk_yes _ _ (HG2.out.2 (.inl ho))).mono ?_
        rintro e w1 ⟨rfl, hw⟩
        have hw := hw.symm
        subst hw
        go_wp2_with fail
        refine (low_yes _ _ HO.out).mono ?_
        rintro e w1 ⟨rfl, hw⟩
        have hw := hw.symm
        subst hw
        go_wp2_with fail
        go_ret
        exact ⟨rfl, hgr2⟩
      · have HO : Hid (¬ ((97 ≤ (c : Int) ∧ (c : Int) ≤ 122) ∨ (48 ≤ (c : Int) ∧ (c : Int) ≤ 57))) := hide (by unfold okN at ho; omega)
        by_cases h45 : c = 45 ∧ 0 < i ∧ i < s.size - 1
        · have hgd : Good (chgB s i c) := HG2.out.2 (.inr h45)
          obtain ⟨h45, hi0, hi1⟩ := h45
          have hb45 : ((c : Int) == 45) = true := by simp; omega
          have hi2 : (i : Int) < (s.size : Int) - 1 := by omega
          have H45 := hide h45
          clear h45
          refine (chk_yes _ _ hgd).mono ?_
          rintro e w1 ⟨rfl, hw⟩
          have hw := hw.symm
          subst hw
          go_wp2_with fail
          refine (low_no _ _ HO.out).mono ?_
          rintro e w1 ⟨rfl, hw⟩
          have hw := hw.symm
          subst hw
          go_wp2_with fail
          go_ret
          exact ⟨rfl, hgr2⟩
        · have hbd : ¬ Good (chgB s i c) := fun h => by
            rcases HG2.out.1 h with h | h
            · exact ho h
            · exact h45 h
          have hcs : ((c : Int) == 45) = false ∨ (((c : Int) == 45) = true ∧ i = 0) ∨ (((c : Int) == 45) = true ∧ 0 < i ∧ (s.size : Int) - 1 ≤ (i : Int)) := by
            by_cases e : c = 45
            · right
              by_cases e2 : i = 0
              · left; exact ⟨by simp; omega, e2⟩
              · right; exact ⟨by simp; omega, by omega, by omega⟩
            · left; simp; omega
          clear h45
          refine (chk_no _ _ HS.out hbd).mono ?_
          rintro e w1 ⟨rfl, hw⟩
          have hw := hw.symm
          subst hw
          go_wp2_with fail
          refine (low_no _ _ HO.out).mono ?_
          rintro e w1 ⟨rfl, hw⟩
          have hw := hw.symm
          subst hw
          rcases hcs with hcs | ⟨hcs, hi0⟩ | ⟨hcs, hi0, hi1⟩
          · go_wp2_with fail
            refine (chk_empty _).mono ?_
            rintro e w1 ⟨rfl, hw⟩
            have hw := hw.symm
            subst hw
            go_wp2_with fail
            go_ret
            exact ⟨by simp, hgr2⟩
          · have hi0' : (i : Int) ≤ 0 := by omega
            have HI := hide hi0
            clear hi0
            go_wp2_with fail
            refine (chk_empty _).mono ?_
            rintro e w1 ⟨rfl, hw⟩
            have hw := hw.symm
            subst hw
            go_wp2_with fail
            go_ret
            exact ⟨by simp, hgr2⟩
          · go_wp2_with fail
            refine (chk_empty _).mono ?_
            rintro e w1 ⟨rfl, hw⟩
            have hw := hw.symm
            subst hw
            go_wp2_with fail
            go_ret
            exact ⟨by simp, hgr2⟩

theorem walk (a0 : ByteArray) (a1 : Int) (a2 : Int) (w0 : a0.size ≤ maxLen) (w1 : (Lit.int .i64 a1).wf = true) (w2 : (Lit.int .u8 a2).wf = true) (w : World) :
    Calls Try.prog 5 #[.string a0, .int .i64 a1, .int .u8 a2] w fun e w' => e = .returned (.bool true) ∧ Grown w w' := by
  by_cases h : 1048576 < a0.size
  · exact walk_out a0 a1 a2 w0 w h
  · by_cases h2 : a1 < 0 ∨ (a0.size : Int) ≤ a1
    · exact walk_idx a0 a1 a2 w (by omega) h2
    · by_cases hg : Good a0
      · have hb := bounds_u8 w2
        obtain ⟨i, rfl⟩ := Int.eq_ofNat_of_zero_le (show 0 ≤ a1 by omega)
        obtain ⟨c, rfl⟩ := Int.eq_ofNat_of_zero_le (show 0 ≤ a2 by omega)
        exact walk_main a0 i c w (by omega) (by omega) hg
      · exact walk_bad a0 a1 a2 w (by omega) (by omega) (by omega) hg

/-! ### THE ROW's STEP: WRITTEN OUT: LEAVE IT -/
set_option maxRecDepth 100000 in
theorem lifted (os : Os) (started : os.Started) (H : Type) (enc : TypeId × Value → H) :
    ReturnsInHanded {} Try.checked os 5 .any (Rows.fnCheckNameOneByteChangeSpec.pre6 enc Try.prog Try.f5 Rows.fnCheckNameOneByteChangeRow.domain false) (Rows.fnCheckNameOneByteChangeSpec.post enc Try.prog Try.f5 false true false false) := by
  refine returnsInHanded_of_change (C := Try.checked) own started (by kernel_rfl) Try.func5
    (ChangeSpec.witness6 (enc := enc) (C := Try.checked) false ⟨#[], #[.string ByteArray.empty, .int .i64 0, .int .u8 0], []⟩ 8 (by kernel_rfl) (by kernel_rfl) (by kernel_rfl) (by kernel_rfl)) ?_
  intro W base args ds gs before hval0 hW hcnd _
  have hval : ∀ (j : Nat) t v, Try.f5.params[j]? = some t → args[j]? = some v → Value.okWide Try.prog W .any base t v := hval0
  have hW' := hW
  obtain ⟨p, q, hA0, hV, rfl, hfz, hnd⟩ := hW
  have hA : DataW.TrodAll enc Try.prog W 0 (fun _ => true) true Try.f5.params.toList args.toList ds p := hA0
  rw [Try.params5] at hA hval
  obtain ⟨v0, vs0, d0, ds0, p0, q0, hargs, rfl, rfl, h0, r0⟩ := trodAll_cons hA
  obtain ⟨v1, vs1, d1, ds1, p1, q1, rfl, rfl, rfl, h1, r1⟩ := trodAll_cons r0
  obtain ⟨v2, vs2, d2, ds2, p2, q2, rfl, rfl, rfl, h2, r2⟩ := trodAll_cons r1
  obtain ⟨rfl, rfl, rfl⟩ := trodAll_nil r2
  obtain rfl : args = #[v0, v1, v2] := by cases args; simp_all
  obtain ⟨rfl, rfl⟩ := trodVars_none hV
  obtain ⟨a0, rfl, rfl, rfl, w0⟩ := open_string Try.underlying9 (hval 0 9 v0 rfl rfl) h0
  obtain ⟨a1, rfl, rfl, rfl, w1⟩ := open_int Try.underlying3 (hval 1 3 v1 rfl rfl) h1
  obtain ⟨a2, rfl, rfl, rfl, w2⟩ := open_int Try.underlying5 (hval 2 5 v2 rfl rfl) h2
  clear hA0 hval0
  simp only [List.append_nil] at hW'
  refine (walk a0 a1 a2 w0 w1 w2 W).mono fun e W' ⟨he, hg⟩ => ?_
  subst he
  exact ⟨_, rfl, post_of_same (pa := []) (pv := []) hW' (fun _ _ _ => (trodAll_cons_mk (shut_bool Try.underlying4 _) trodAll_mk0)) (fun sp _ => (trodAll_cons_mk (shut_string Try.underlying9 w0) (trodAll_cons_mk (shut_int Try.underlying3 w1) (trodAll_cons_mk (shut_int Try.underlying5 w2) trodAll_mk0)))) (fun _ _ => rfl) rfl
    (hg.frame _) hg.2.1 (ok_one (by kernel_rfl) rfl (okWide_bool_mk Try.underlying4 _))⟩

theorem over : Rows.fnCheckNameOneByteChangeRow.holds Try.pinned (OpenSpec.ofChange Rows.fnCheckNameOneByteChangeSpec) :=
  OpenClaim.holds_of_wide 5 Try.f5 rfl rfl rfl rfl rfl rfl rfl ⟨rfl, rfl, rfl, rfl, rfl⟩ rfl rfl rfl rfl rfl (by kernel_rfl) Try.func5 (by kernel_rfl)
    (of_decide_eq_true (by kernel_rfl)) (by unfold Func.isWrapper; first | (rw [if_pos (by decide +kernel)]; kernel_rfl) | (rw [if_neg (by decide +kernel)]; exact ⟨rfl, rfl⟩))
    (fun os started H enc _ => lifted os started H enc)

/-- ████ THE STATEMENT ████ -/
theorem proved : Rows.FnCheckNameOneByteChangeSaid :=
  over
#print axioms proved
end Go.Proofs.Qxb6603199a.fnCheckNameOneByteChange
