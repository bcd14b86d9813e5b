/-
  THE PROOF OF 'Rows.FnCheckNameExactByHyphenPiecesSaid': the frame by the kit's skeleton tool for this statement; the walk typed by hand.
-/
import Derived.Test.Qxb6603199aRows
import Derived.Test.Qxb6603199aCheckName
import Derived.Test.Qxb6603199aPieces
import Derived.WalkKit
import Derived.ProofKit
import Derived.OpenShut
import Derived.ShutString
import Derived.WalkSpells
import Derived.Deep.LoopGhost
import Derived.WalkLawsBesides
namespace Go.Proofs.Qxb6603199a.fnCheckNameExactByHyphenPieces
open Go.ChangeShapes Go.WideShapes Go.ChangeAt Go.RowKit
open Go.ChangeMaps (open_string shut_string)
set_option linter.unusedVariables false      -- a walk need not use every 'w<i>' (that an integer argument fits its kind)

theorem own : ownKnob Try.prog.godebug = none := by kernel_rfl

/-! ### STEP 1: THE WALK: the Go text returns true. -/
theorem zz_no (a0 : ByteArray) (w0 : a0.size ≤ maxLen) (w : World) (h : 1048576 < a0.size) :
    Calls Try.prog 9 #[.string a0] w fun e w' => e = .returned (.bool false) ∧ w' = w := by
  unfold maxLen at w0
  go_enter Try.func9, Try.ntmps9
  go_wp2
  go_ret
  exact ⟨rfl, rfl⟩
theorem zz_yes (a0 : ByteArray) (w : World) (h : a0.size ≤ 1048576) :
    Calls Try.prog 9 #[.string a0] w fun e w' => e = .returned (.bool true) ∧ w' = w := by
  go_enter Try.func9, Try.ntmps9
  go_wp2
  go_ret
  exact ⟨rfl, rfl⟩

theorem walk_out (a0 : ByteArray) (w0 : a0.size ≤ maxLen) (w : World) (h : 1048576 < a0.size) :
    Calls Try.prog 3 #[.string a0] w fun e w' => e = .returned (.bool true) ∧ w' = w := by
  go_enter Try.func3, Try.ntmps3
  go_wp2_with fail
  refine (zz_no a0 w0 _ h).mono ?_
  rintro e w' ⟨rfl, rfl⟩
  go_wp2_with fail
  go_ret
  exact ⟨rfl, rfl⟩

theorem walk_size (a0 : ByteArray) (w : World) (h : a0.size ≤ 1048576) (h2 : a0.size < 1 ∨ 63 < a0.size) :
    Calls Try.prog 3 #[.string a0] w fun e w' => e = .returned (.bool true) ∧ w' = w := by
  have hm := msg_ne
  have hg : ¬ Good a0 := fun g => by have := g.1; have := g.2.1; omega
  rcases h2 with h2 | h2
  all_goals
    go_enter Try.func3, Try.ntmps3
    go_wp2_with fail
    refine (zz_yes a0 _ h).mono ?_
    rintro e w' ⟨rfl, rfl⟩
    go_wp2_with fail
    refine (chk_empty _).mono ?_
    rintro e w' ⟨rfl, rfl⟩
    go_wp2_with fail
    refine (chk_no a0 _ (by unfold maxLen; omega) hg).mono ?_
    rintro e w' ⟨rfl, rfl⟩
    go_wp2_with fail
    go_ret
    exact ⟨by simp, rfl⟩

set_option maxHeartbeats 4000000 in
theorem walk_main (s : ByteArray) (w : World) (h1 : 1 ≤ s.size) (h63 : s.size ≤ 63) :
    Calls Try.prog 3 #[.string s] w fun e w' => e = .returned (.bool true) ∧ w = w' := by
  have hm := msg_ne
  have d63 : decide ((s.size : Int) ≤ 63) = true := by simp; omega
  go_enter Try.func3, Try.ntmps3
  go_wp2_with fail
  refine (zz_yes s _ (by omega)).mono ?_
  rintro e w1 ⟨rfl, hw⟩
  have hw := hw.symm
  subst hw
  go_wp2_with fail
  refine (chk_empty _).mono ?_
  rintro e w1 ⟨rfl, hw⟩
  have hw := hw.symm
  subst hw
  go_wp2_with fail
  go_loopg [4, 5, 6, 7, 8, 9] (s.size + 1) (fun g v st pn fe le i wr => w = wr ∧ ∃ (i' st' pn' : Nat) (v' fe' le' : Bool), g = s.size + 1 - i' ∧ v = .bool v' ∧ st = .int .i64 st' ∧ pn = .int .i64 pn' ∧ fe = .bool fe' ∧ le = .bool le' ∧ i = .int .i64 i' ∧ Inv s i' st' pn' v' fe' le')
  case atStart => exact ⟨rfl, 0, 0, 0, true, false, false, rfl, rfl, rfl, rfl, rfl, rfl, rfl, inv_start s⟩
  case round =>
    obtain ⟨hwr, i, st, pn, v, fe, le, hgk, rfl, rfl, rfl, rfl, rfl, rfl, hinv⟩ := hrel
    subst hwr
    have HG := hide hgk
    clear hgk
    have hi1 := hinv.1
    have hi2 := hinv.2.1
    have hi3 := hinv.2.2.1
    by_cases hlt : i < s.size
    · have HB : Hid (s[i].toNat = bt s i) := bt_eq s i hlt
      have di : decide (i ≤ s.size) = true := by simp; omega
      have hq : ((i : Int) == (s.size : Int)) = false := by simp; omega
      by_cases hb : (s[i].toNat : Int) = 45
      · have hb' : ((s[i].toNat : Int) == 45) = true := by simpa using hb
        have hyph : i < s.size → bt s i = 45 := fun _ => by have := HB.out; omega
        have HY := hide hyph
        clear hb hyph
        by_cases hp : pn = 0
        · have hp' : ((pn : Int) == 0) = true := by simp; omega
          have HP := hide hp
          clear hp
          go_wp2
          go_loopg [4, 11] (i - st) (fun g v2 j wr => w = wr ∧ ∃ (j' : Nat) (v' : Bool), g = i - j' ∧ v2 = .bool v' ∧ j = .int .i64 j' ∧ st ≤ j' ∧ j' ≤ i ∧ Inn s v st j' v')
          case atStart => exact ⟨rfl, st, v, rfl, rfl, rfl, Nat.le_refl _, hi2, inn_start s v st⟩
          case round =>
            obtain ⟨hwr, j, v2, hgk2, rfl, rfl, hj1, hj2, hinn⟩ := hrel
            subst hwr
            have HG2 := hide hgk2
            clear hgk2
            by_cases hj : j < i
            · have hjs : j < s.size := by omega
              have hbj := bt_eq s j hjs
              by_cases ho : okN (bt s j)
              · have HO : Hid ((97 ≤ (s[j].toNat : Int) ∧ (s[j].toNat : Int) ≤ 122) ∨ (48 ≤ (s[j].toNat : Int) ∧ (s[j].toNat : Int) ≤ 57)) := hide (by unfold okN at ho; omega)
                clear hbj
                go_wp2_with fail
                refine (low_yes _ _ HO.out).mono ?_
                rintro e w' ⟨rfl, rfl⟩
                go_wp2_with fail
                go_roundg (i - (j + 1))
                case rel => exact ⟨rfl, j + 1, v2, rfl, rfl, by go_num, by omega, by omega, inn_yes hinn ho⟩
                case measure => have := HG2.out; omega
              · have HO : Hid (¬ ((97 ≤ (s[j].toNat : Int) ∧ (s[j].toNat : Int) ≤ 122) ∨ (48 ≤ (s[j].toNat : Int) ∧ (s[j].toNat : Int) ≤ 57))) := hide (by unfold okN at ho; omega)
                clear hbj
                go_wp2_with fail
                refine (low_no _ _ HO.out).mono ?_
                rintro e w' ⟨rfl, rfl⟩
                go_wp2_with fail
                go_roundg (i - (j + 1))
                case rel => exact ⟨rfl, j + 1, false, rfl, rfl, by go_num, by omega, by omega, inn_no hj1 ho⟩
                case measure => have := HG2.out; omega
            · have hinn' : Inn s v st i v2 := by
                have e : j = i := by omega
                rw [← e]; exact hinn
              clear hinn
              go_wp2_with fail
              go_roundg (s.size + 1 - (i + 1))
              case rel =>
                exact ⟨rfl, i + 1, i + 1, pn + 1, v2, _, _, rfl, rfl, by go_num, by go_num, rfl, rfl, by go_num, inv_cut h1 hinv (by omega) HY.out hinn' (by simp; omega) (by intro _; simp; omega) (by intro h; exact absurd (HP.out) h)⟩
              case measure => have := HG.out; omega
        · have hp' : ((pn : Int) == 0) = false := by simp; omega
          have HP := hide hp
          clear hp
          go_wp2
          go_loopg [4, 11] (i - st) (fun g v2 j wr => w = wr ∧ ∃ (j' : Nat) (v' : Bool), g = i - j' ∧ v2 = .bool v' ∧ j = .int .i64 j' ∧ st ≤ j' ∧ j' ≤ i ∧ Inn s v st j' v')
          case atStart => exact ⟨rfl, st, v, rfl, rfl, rfl, Nat.le_refl _, hi2, inn_start s v st⟩
          case round =>
            obtain ⟨hwr, j, v2, hgk2, rfl, rfl, hj1, hj2, hinn⟩ := hrel
            subst hwr
            have HG2 := hide hgk2
            clear hgk2
            by_cases hj : j < i
            · have hjs : j < s.size := by omega
              have hbj := bt_eq s j hjs
              by_cases ho : okN (bt s j)
              · have HO : Hid ((97 ≤ (s[j].toNat : Int) ∧ (s[j].toNat : Int) ≤ 122) ∨ (48 ≤ (s[j].toNat : Int) ∧ (s[j].toNat : Int) ≤ 57)) := hide (by unfold okN at ho; omega)
                clear hbj
                go_wp2_with fail
                refine (low_yes _ _ HO.out).mono ?_
                rintro e w' ⟨rfl, rfl⟩
                go_wp2_with fail
                go_roundg (i - (j + 1))
                case rel => exact ⟨rfl, j + 1, v2, rfl, rfl, by go_num, by omega, by omega, inn_yes hinn ho⟩
                case measure => have := HG2.out; omega
              · have HO : Hid (¬ ((97 ≤ (s[j].toNat : Int) ∧ (s[j].toNat : Int) ≤ 122) ∨ (48 ≤ (s[j].toNat : Int) ∧ (s[j].toNat : Int) ≤ 57))) := hide (by unfold okN at ho; omega)
                clear hbj
                go_wp2_with fail
                refine (low_no _ _ HO.out).mono ?_
                rintro e w' ⟨rfl, rfl⟩
                go_wp2_with fail
                go_roundg (i - (j + 1))
                case rel => exact ⟨rfl, j + 1, false, rfl, rfl, by go_num, by omega, by omega, inn_no hj1 ho⟩
                case measure => have := HG2.out; omega
            · have hinn' : Inn s v st i v2 := by
                have e : j = i := by omega
                rw [← e]; exact hinn
              clear hinn
              go_wp2_with fail
              go_roundg (s.size + 1 - (i + 1))
              case rel =>
                exact ⟨rfl, i + 1, i + 1, pn + 1, v2, _, _, rfl, rfl, by go_num, by go_num, rfl, rfl, by go_num, inv_cut h1 hinv (by omega) HY.out hinn' (by simp; omega) (by intro h; exact absurd h HP.out) (by intro _; rfl)⟩
              case measure => have := HG.out; omega
      · have hb' : ((s[i].toNat : Int) == 45) = false := by simpa using hb
        clear hb
        go_wp2
        go_roundg (s.size + 1 - (i + 1))
        case rel =>
          refine ⟨rfl, i + 1, st, pn, v, fe, le, rfl, rfl, rfl, rfl, rfl, rfl, by go_num, inv_pass hinv hlt ?_⟩
          have hb := HB.out
          simp at hb'
          omega
        case measure => have := HG.out; omega
    · by_cases hle : i ≤ s.size
      · have hq : ((i : Int) == (s.size : Int)) = true := by simp; omega
        have di : decide (i ≤ s.size) = true := by simp; omega
        by_cases hp : pn = 0
        · have hp' : ((pn : Int) == 0) = true := by simp; omega
          have HP := hide hp
          clear hp
          go_wp2
          go_loopg [4, 11] (i - st) (fun g v2 j wr => w = wr ∧ ∃ (j' : Nat) (v' : Bool), g = i - j' ∧ v2 = .bool v' ∧ j = .int .i64 j' ∧ st ≤ j' ∧ j' ≤ i ∧ Inn s v st j' v')
          case atStart => exact ⟨rfl, st, v, rfl, rfl, rfl, Nat.le_refl _, hi2, inn_start s v st⟩
          case round =>
            obtain ⟨hwr, j, v2, hgk2, rfl, rfl, hj1, hj2, hinn⟩ := hrel
            subst hwr
            have HG2 := hide hgk2
            clear hgk2
            by_cases hj : j < i
            · have hjs : j < s.size := by omega
              have hbj := bt_eq s j hjs
              by_cases ho : okN (bt s j)
              · have HO : Hid ((97 ≤ (s[j].toNat : Int) ∧ (s[j].toNat : Int) ≤ 122) ∨ (48 ≤ (s[j].toNat : Int) ∧ (s[j].toNat : Int) ≤ 57)) := hide (by unfold okN at ho; omega)
                clear hbj
                go_wp2_with fail
                refine (low_yes _ _ HO.out).mono ?_
                rintro e w' ⟨rfl, rfl⟩
                go_wp2_with fail
                go_roundg (i - (j + 1))
                case rel => exact ⟨rfl, j + 1, v2, rfl, rfl, by go_num, by omega, by omega, inn_yes hinn ho⟩
                case measure => have := HG2.out; omega
              · have HO : Hid (¬ ((97 ≤ (s[j].toNat : Int) ∧ (s[j].toNat : Int) ≤ 122) ∨ (48 ≤ (s[j].toNat : Int) ∧ (s[j].toNat : Int) ≤ 57))) := hide (by unfold okN at ho; omega)
                clear hbj
                go_wp2_with fail
                refine (low_no _ _ HO.out).mono ?_
                rintro e w' ⟨rfl, rfl⟩
                go_wp2_with fail
                go_roundg (i - (j + 1))
                case rel => exact ⟨rfl, j + 1, false, rfl, rfl, by go_num, by omega, by omega, inn_no hj1 ho⟩
                case measure => have := HG2.out; omega
            · have hinn' : Inn s v st i v2 := by
                have e : j = i := by omega
                rw [← e]; exact hinn
              clear hinn
              go_wp2_with fail
              go_roundg (s.size + 1 - (i + 1))
              case rel =>
                exact ⟨rfl, i + 1, i + 1, pn + 1, v2, _, _, rfl, rfl, by go_num, by go_num, rfl, rfl, by go_num, inv_cut h1 hinv (by omega) (fun h => absurd h hlt) hinn' (by simp; omega) (by intro _; simp; omega) (by intro h; exact absurd (HP.out) h)⟩
              case measure => have := HG.out; omega
        · have hp' : ((pn : Int) == 0) = false := by simp; omega
          have HP := hide hp
          clear hp
          go_wp2
          go_loopg [4, 11] (i - st) (fun g v2 j wr => w = wr ∧ ∃ (j' : Nat) (v' : Bool), g = i - j' ∧ v2 = .bool v' ∧ j = .int .i64 j' ∧ st ≤ j' ∧ j' ≤ i ∧ Inn s v st j' v')
          case atStart => exact ⟨rfl, st, v, rfl, rfl, rfl, Nat.le_refl _, hi2, inn_start s v st⟩
          case round =>
            obtain ⟨hwr, j, v2, hgk2, rfl, rfl, hj1, hj2, hinn⟩ := hrel
            subst hwr
            have HG2 := hide hgk2
            clear hgk2
            by_cases hj : j < i
            · have hjs : j < s.size := by omega
              have hbj := bt_eq s j hjs
              by_cases ho : okN (bt s j)
              · have HO : Hid ((97 ≤ (s[j].toNat : Int) ∧ (s[j].toNat : Int) ≤ 122) ∨ (48 ≤ (s[j].toNat : Int) ∧ (s[j].toNat : Int) ≤ 57)) := hide (by unfold okN at ho; omega)
                clear hbj
                go_wp2_with fail
                refine (low_yes _ _ HO.out).mono ?_
                rintro e w' ⟨rfl, rfl⟩
                go_wp2_with fail
                go_roundg (i - (j + 1))
                case rel => exact ⟨rfl, j + 1, v2, rfl, rfl, by go_num, by omega, by omega, inn_yes hinn ho⟩
                case measure => have := HG2.out; omega
              · have HO : Hid (¬ ((97 ≤ (s[j].toNat : Int) ∧ (s[j].toNat : Int) ≤ 122) ∨ (48 ≤ (s[j].toNat : Int) ∧ (s[j].toNat : Int) ≤ 57))) := hide (by unfold okN at ho; omega)
                clear hbj
                go_wp2_with fail
                refine (low_no _ _ HO.out).mono ?_
                rintro e w' ⟨rfl, rfl⟩
                go_wp2_with fail
                go_roundg (i - (j + 1))
                case rel => exact ⟨rfl, j + 1, false, rfl, rfl, by go_num, by omega, by omega, inn_no hj1 ho⟩
                case measure => have := HG2.out; omega
            · have hinn' : Inn s v st i v2 := by
                have e : j = i := by omega
                rw [← e]; exact hinn
              clear hinn
              go_wp2_with fail
              go_roundg (s.size + 1 - (i + 1))
              case rel =>
                exact ⟨rfl, i + 1, i + 1, pn + 1, v2, _, _, rfl, rfl, by go_num, by go_num, rfl, rfl, by go_num, inv_cut h1 hinv (by omega) (fun h => absurd h hlt) hinn' (by simp; omega) (by intro h; exact absurd h HP.out) (by intro _; rfl)⟩
              case measure => have := HG.out; omega
      · have hend := inv_end h1 h63 hinv hle
        clear hinv
        by_cases hg : Good s
        · obtain ⟨rfl, rfl, rfl⟩ := hend.1 hg
          clear hend
          go_wp2_with fail
          refine (chk_yes s _ hg).mono ?_
          rintro e w' ⟨rfl, rfl⟩
          go_wp2_with fail
          go_ret
          exact ⟨rfl, rfl⟩
        · have hc := bad_cases hend hg
          clear hend
          rcases hc with rfl | ⟨rfl, rfl⟩ | ⟨rfl, rfl, rfl⟩
          all_goals
            go_wp2_with fail
            refine (chk_no s _ (by unfold maxLen; omega) hg).mono ?_
            rintro e w' ⟨rfl, rfl⟩
            go_wp2_with fail
            go_ret
            exact ⟨by simp, rfl⟩

theorem walk (a0 : ByteArray) (w0 : a0.size ≤ maxLen) (w : World) :
    Calls Try.prog 3 #[.string a0] w fun e w' => e = .returned (.bool true) ∧ Grown w w' := by
  have fin : Calls Try.prog 3 #[.string a0] w fun e w' => e = .returned (.bool true) ∧ w' = w := by
    by_cases h : 1048576 < a0.size
    · exact walk_out a0 w0 w h
    · by_cases h2 : a0.size < 1 ∨ 63 < a0.size
      · exact walk_size a0 w (by omega) h2
      · exact (walk_main a0 w (by omega) (by omega)).mono fun e w' h => ⟨h.1, h.2.symm⟩
  refine fin.mono ?_
  rintro e w' ⟨rfl, rfl⟩
  exact ⟨rfl, Grown.refl _⟩

/-! ### THE ROW's STEP: WRITTEN OUT: LEAVE IT -/
set_option maxRecDepth 100000 in
theorem lifted (os : Os) (started : os.Started) (H : Type) (enc : TypeId × Value → H) :
    ReturnsInHanded {} Try.checked os 3 .any (Rows.fnCheckNameExactByHyphenPiecesSpec.pre6 enc Try.prog Try.f3 Rows.fnCheckNameExactByHyphenPiecesRow.domain false) (Rows.fnCheckNameExactByHyphenPiecesSpec.post enc Try.prog Try.f3 false true false false) := by
  refine returnsInHanded_of_change (C := Try.checked) own started (by kernel_rfl) Try.func3
    (ChangeSpec.witness6 (enc := enc) (C := Try.checked) false ⟨#[], #[.string ByteArray.empty], []⟩ 8 (by kernel_rfl) (by kernel_rfl) (by kernel_rfl) (by kernel_rfl)) ?_
  intro W base args ds gs before hval0 hW hcnd _
  have hval : ∀ (j : Nat) t v, Try.f3.params[j]? = some t → args[j]? = some v → Value.okWide Try.prog W .any base t v := hval0
  have hW' := hW
  obtain ⟨p, q, hA0, hV, rfl, hfz, hnd⟩ := hW
  have hA : DataW.TrodAll enc Try.prog W 0 (fun _ => true) true Try.f3.params.toList args.toList ds p := hA0
  rw [Try.params3] at hA hval
  obtain ⟨v0, vs0, d0, ds0, p0, q0, hargs, rfl, rfl, h0, r0⟩ := trodAll_cons hA
  obtain ⟨rfl, rfl, rfl⟩ := trodAll_nil r0
  obtain rfl : args = #[v0] := by cases args; simp_all
  obtain ⟨rfl, rfl⟩ := trodVars_none hV
  obtain ⟨a0, rfl, rfl, rfl, w0⟩ := open_string Try.underlying9 (hval 0 9 v0 rfl rfl) h0
  clear hA0 hval0
  simp only [List.append_nil] at hW'
  refine (walk a0 w0 W).mono fun e W' ⟨he, hg⟩ => ?_
  subst he
  exact ⟨_, rfl, post_of_same (pa := []) (pv := []) hW' (fun _ _ _ => (trodAll_cons_mk (shut_bool Try.underlying4 _) trodAll_mk0)) (fun sp _ => (trodAll_cons_mk (shut_string Try.underlying9 w0) trodAll_mk0)) (fun _ _ => rfl) rfl
    (hg.frame _) hg.2.1 (ok_one (by kernel_rfl) rfl (okWide_bool_mk Try.underlying4 _))⟩

theorem over : Rows.fnCheckNameExactByHyphenPiecesRow.holds Try.pinned (OpenSpec.ofChange Rows.fnCheckNameExactByHyphenPiecesSpec) :=
  OpenClaim.holds_of_wide 3 Try.f3 rfl rfl rfl rfl rfl rfl rfl ⟨rfl, rfl, rfl, rfl, rfl⟩ rfl rfl rfl rfl rfl (by kernel_rfl) Try.func3 (by kernel_rfl)
    (of_decide_eq_true (by kernel_rfl)) (by unfold Func.isWrapper; first | (rw [if_pos (by decide +kernel)]; kernel_rfl) | (rw [if_neg (by decide +kernel)]; exact ⟨rfl, rfl⟩))
    (fun os started H enc _ => lifted os started H enc)

/-- ████ THE STATEMENT ████ -/
theorem proved : Rows.FnCheckNameExactByHyphenPiecesSaid :=
  over
#print axioms proved
end Go.Proofs.Qxb6603199a.fnCheckNameExactByHyphenPieces
