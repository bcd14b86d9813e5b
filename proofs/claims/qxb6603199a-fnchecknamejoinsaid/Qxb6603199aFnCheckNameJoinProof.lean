/-
  THE PROOF OF 'Rows.FnCheckNameJoinSaid': the frame by the kit's skeleton tool for this statement; the walk typed by hand.
-/
import Derived.Test.Qxb6603199aRows
import Derived.Test.Qxb6603199aCheckName
import Derived.WalkKit
import Derived.ProofKit
import Derived.OpenShut
import Derived.ShutString
import Derived.WalkSpells
import Derived.WalkLawsBesides
namespace Go.Proofs.Qxb6603199a.fnCheckNameJoin
open Go.ChangeShapes Go.WideShapes Go.ChangeAt Go.RowKit
open Go.ChangeMaps (open_string shut_string)
set_option linter.unusedVariables false      -- a walk need not use every 'w<i>' (that an integer argument fits its kind)

theorem own : ownKnob Try.prog.godebug = none := by kernel_rfl

/-! ### STEP 1: THE WALK: the Go text returns true. -/
theorem zz_no1 (a0 a1 : ByteArray) (w0 : a0.size ≤ maxLen) (w1 : a1.size ≤ maxLen) (w : World) (h : 1048576 < a0.size) :
    Calls Try.prog 12 #[.string a0, .string a1] w fun e w' => e = .returned (.bool false) ∧ w' = w := by
  unfold maxLen at w0 w1
  go_enter Try.func12, Try.ntmps12
  go_wp2
  go_ret
  exact ⟨rfl, rfl⟩
theorem zz_no2 (a0 a1 : ByteArray) (w0 : a0.size ≤ maxLen) (w1 : a1.size ≤ maxLen) (w : World) (h : a0.size ≤ 1048576) (h2 : 1048576 < a1.size) :
    Calls Try.prog 12 #[.string a0, .string a1] w fun e w' => e = .returned (.bool false) ∧ w' = w := by
  unfold maxLen at w0 w1
  go_enter Try.func12, Try.ntmps12
  go_wp2
  go_ret
  exact ⟨rfl, rfl⟩
theorem zz_no3 (a0 a1 : ByteArray) (w : World) (h : a0.size ≤ 1048576) (h2 : a1.size ≤ 1048576) (h3 : 1048576 < a0.size + a1.size) :
    Calls Try.prog 12 #[.string a0, .string a1] w fun e w' => e = .returned (.bool false) ∧ w' = w := by
  go_enter Try.func12, Try.ntmps12
  go_wp2
  go_ret
  exact ⟨rfl, rfl⟩
theorem zz_yes (a0 a1 : ByteArray) (w : World) (h : a0.size + a1.size ≤ 1048576) :
    Calls Try.prog 12 #[.string a0, .string a1] w fun e w' => e = .returned (.bool true) ∧ w' = w := by
  go_enter Try.func12, Try.ntmps12
  go_wp2
  go_ret
  exact ⟨rfl, rfl⟩
theorem zz_no (a0 a1 : ByteArray) (w0 : a0.size ≤ maxLen) (w1 : a1.size ≤ maxLen) (w : World) (h : ¬ a0.size + a1.size ≤ 1048576) :
    Calls Try.prog 12 #[.string a0, .string a1] w fun e w' => e = .returned (.bool false) ∧ w' = w := by
  by_cases h1 : a0.size ≤ 1048576
  · by_cases h2 : a1.size ≤ 1048576
    · exact zz_no3 a0 a1 w h1 h2 (by omega)
    · exact zz_no2 a0 a1 w0 w1 w h1 (by omega)
  · exact zz_no1 a0 a1 w0 w1 w (by omega)

theorem walk_out (a0 : ByteArray) (a1 : ByteArray) (w0 : a0.size ≤ maxLen) (w1 : a1.size ≤ maxLen) (w : World) (h : ¬ a0.size + a1.size ≤ 1048576) :
    Calls Try.prog 4 #[.string a0, .string a1] w fun e w' => e = .returned (.bool true) ∧ w' = w := by
  go_enter Try.func4, Try.ntmps4
  go_wp2_with fail
  refine (zz_no a0 a1 w0 w1 _ h).mono ?_
  rintro e w' ⟨rfl, rfl⟩
  go_wp2_with fail
  go_ret
  exact ⟨rfl, rfl⟩

theorem walk_bad1 (a0 : ByteArray) (a1 : ByteArray) (w : World) (h : a0.size + a1.size ≤ 1048576) (hb : ¬ Good a0) :
    Calls Try.prog 4 #[.string a0, .string a1] w fun e w' => e = .returned (.bool true) ∧ w' = w := by
  have hm := msg_ne
  go_enter Try.func4, Try.ntmps4
  go_wp2_with fail
  refine (zz_yes a0 a1 _ h).mono ?_
  rintro e w' ⟨rfl, rfl⟩
  go_wp2_with fail
  refine (chk_no a0 _ (by unfold maxLen; omega) hb).mono ?_
  rintro e w' ⟨rfl, rfl⟩
  go_wp2_with fail
  go_ret
  exact ⟨rfl, rfl⟩

theorem walk_bad2 (a0 : ByteArray) (a1 : ByteArray) (w : World) (h : a0.size + a1.size ≤ 1048576) (ha : Good a0) (hb : ¬ Good a1) :
    Calls Try.prog 4 #[.string a0, .string a1] w fun e w' => e = .returned (.bool true) ∧ w' = w := by
  have hm := msg_ne
  go_enter Try.func4, Try.ntmps4
  go_wp2_with fail
  refine (zz_yes a0 a1 _ h).mono ?_
  rintro e w' ⟨rfl, rfl⟩
  go_wp2_with fail
  refine (chk_yes a0 _ ha).mono ?_
  rintro e w' ⟨rfl, rfl⟩
  go_wp2_with fail
  refine (chk_no a1 _ (by unfold maxLen; omega) hb).mono ?_
  rintro e w' ⟨rfl, rfl⟩
  go_wp2_with fail
  go_ret
  exact ⟨rfl, rfl⟩

theorem size_hyphen (a b : ByteArray) (h : a.size + b.size ≤ 1048576) : (a ++ ⟨#[45]⟩ ++ b).size ≤ maxLen := by
  have e1 : (⟨#[45]⟩ : ByteArray).size = 1 := rfl
  rw [ByteArray.size_append, ByteArray.size_append, e1]; unfold maxLen; omega
theorem size_join (a b : ByteArray) (h : a.size + b.size ≤ 1048576) : (a ++ b).size ≤ maxLen := by
  rw [ByteArray.size_append]; unfold maxLen; omega
theorem bad_hyphen (a b : ByteArray) (h : 63 < a.size + 1 + b.size) : ¬ Good (a ++ ⟨#[45]⟩ ++ b) := by
  intro hg
  have e1 : (⟨#[45]⟩ : ByteArray).size = 1 := rfl
  have h2 := hg.2.1
  rw [ByteArray.size_append, ByteArray.size_append, e1] at h2; omega
theorem bad_join (a b : ByteArray) (h : 63 < a.size + b.size) : ¬ Good (a ++ b) := by
  intro hg
  have h2 := hg.2.1
  rw [ByteArray.size_append] at h2; omega

theorem walk_good1 (a0 : ByteArray) (a1 : ByteArray) (w : World) (h : a0.size + a1.size ≤ 62) (ha : Good a0) (hb : Good a1) :
    Calls Try.prog 4 #[.string a0, .string a1] w fun e w' => e = .returned (.bool true) ∧ w' = w := by
  have hm := msg_ne
  have d1 : decide ((a0.size : Int) + 1 + a1.size ≤ 63) = true := by simp; omega
  have d2 : decide ((a0.size : Int) + a1.size ≤ 63) = true := by simp; omega
  go_enter Try.func4, Try.ntmps4
  go_wp2_with fail
  refine (zz_yes a0 a1 _ (by omega)).mono ?_
  rintro e w' ⟨rfl, rfl⟩
  go_wp2_with fail
  refine (chk_yes a0 _ ha).mono ?_
  rintro e w' ⟨rfl, rfl⟩
  go_wp2_with fail
  refine (chk_yes a1 _ hb).mono ?_
  rintro e w' ⟨rfl, rfl⟩
  go_wp2_with fail
  refine (chk_yes _ _ (good_hyphen ha hb (by omega))).mono ?_
  rintro e w' ⟨rfl, rfl⟩
  go_wp2_with fail
  refine (chk_yes _ _ (good_join ha hb (by omega))).mono ?_
  rintro e w' ⟨rfl, rfl⟩
  go_wp2_with fail
  go_ret
  exact ⟨rfl, rfl⟩

theorem walk_good2 (a0 : ByteArray) (a1 : ByteArray) (w : World) (h : 63 ≤ a0.size + a1.size) (h' : a0.size + a1.size ≤ 63) (ha : Good a0) (hb : Good a1) :
    Calls Try.prog 4 #[.string a0, .string a1] w fun e w' => e = .returned (.bool true) ∧ w' = w := by
  have hm := msg_ne
  have d1 : decide ((a0.size : Int) + 1 + a1.size ≤ 63) = false := by simp; omega
  have d2 : decide ((a0.size : Int) + a1.size ≤ 63) = true := by simp; omega
  go_enter Try.func4, Try.ntmps4
  go_wp2_with fail
  refine (zz_yes a0 a1 _ (by omega)).mono ?_
  rintro e w' ⟨rfl, rfl⟩
  go_wp2_with fail
  refine (chk_yes a0 _ ha).mono ?_
  rintro e w' ⟨rfl, rfl⟩
  go_wp2_with fail
  refine (chk_yes a1 _ hb).mono ?_
  rintro e w' ⟨rfl, rfl⟩
  go_wp2_with fail
  refine (chk_no _ _ (size_hyphen a0 a1 (by omega)) (fun hg => bad_hyphen a0 a1 (by omega) hg)).mono ?_
  rintro e w' ⟨rfl, rfl⟩
  go_wp2_with fail
  refine (chk_yes _ _ (good_join ha hb (by omega))).mono ?_
  rintro e w' ⟨rfl, rfl⟩
  go_wp2_with fail
  go_ret
  exact ⟨rfl, rfl⟩

theorem walk_good3 (a0 : ByteArray) (a1 : ByteArray) (w : World) (h : 64 ≤ a0.size + a1.size) (h' : a0.size + a1.size ≤ 1048576) (ha : Good a0) (hb : Good a1) :
    Calls Try.prog 4 #[.string a0, .string a1] w fun e w' => e = .returned (.bool true) ∧ w' = w := by
  have hm := msg_ne
  have d1 : decide ((a0.size : Int) + 1 + a1.size ≤ 63) = false := by simp; omega
  have d2 : decide ((a0.size : Int) + a1.size ≤ 63) = false := by simp; omega
  go_enter Try.func4, Try.ntmps4
  go_wp2_with fail
  refine (zz_yes a0 a1 _ (by omega)).mono ?_
  rintro e w' ⟨rfl, rfl⟩
  go_wp2_with fail
  refine (chk_yes a0 _ ha).mono ?_
  rintro e w' ⟨rfl, rfl⟩
  go_wp2_with fail
  refine (chk_yes a1 _ hb).mono ?_
  rintro e w' ⟨rfl, rfl⟩
  go_wp2_with fail
  refine (chk_no _ _ (size_hyphen a0 a1 (by omega)) (fun hg => bad_hyphen a0 a1 (by omega) hg)).mono ?_
  rintro e w' ⟨rfl, rfl⟩
  go_wp2_with fail
  refine (chk_no _ _ (size_join a0 a1 (by omega)) (fun hg => bad_join a0 a1 (by omega) hg)).mono ?_
  rintro e w' ⟨rfl, rfl⟩
  go_wp2_with fail
  go_ret
  exact ⟨rfl, rfl⟩

theorem walk (a0 : ByteArray) (a1 : ByteArray) (w0 : a0.size ≤ maxLen) (w1 : a1.size ≤ maxLen) (w : World) :
    Calls Try.prog 4 #[.string a0, .string a1] w fun e w' => e = .returned (.bool true) ∧ Grown w w' := by
  by_cases h : a0.size + a1.size ≤ 1048576
  · by_cases ha : Good a0
    · by_cases hb : Good a1
      · by_cases c1 : a0.size + a1.size ≤ 62
        · refine (walk_good1 a0 a1 w c1 ha hb).mono ?_
          rintro e w' ⟨rfl, rfl⟩
          exact ⟨rfl, Grown.refl _⟩
        · by_cases c2 : a0.size + a1.size ≤ 63
          · refine (walk_good2 a0 a1 w (by omega) c2 ha hb).mono ?_
            rintro e w' ⟨rfl, rfl⟩
            exact ⟨rfl, Grown.refl _⟩
          · refine (walk_good3 a0 a1 w (by omega) h ha hb).mono ?_
            rintro e w' ⟨rfl, rfl⟩
            exact ⟨rfl, Grown.refl _⟩
      · refine (walk_bad2 a0 a1 w h ha hb).mono ?_
        rintro e w' ⟨rfl, rfl⟩
        exact ⟨rfl, Grown.refl _⟩
    · refine (walk_bad1 a0 a1 w h ha).mono ?_
      rintro e w' ⟨rfl, rfl⟩
      exact ⟨rfl, Grown.refl _⟩
  · refine (walk_out a0 a1 w0 w1 w h).mono ?_
    rintro e w' ⟨rfl, rfl⟩
    exact ⟨rfl, Grown.refl _⟩

/-! ### THE ROW's STEP: WRITTEN OUT: LEAVE IT -/
set_option maxRecDepth 100000 in
theorem lifted (os : Os) (started : os.Started) (H : Type) (enc : TypeId × Value → H) :
    ReturnsInHanded {} Try.checked os 4 .any (Rows.fnCheckNameJoinSpec.pre6 enc Try.prog Try.f4 Rows.fnCheckNameJoinRow.domain false) (Rows.fnCheckNameJoinSpec.post enc Try.prog Try.f4 false true false false) := by
  refine returnsInHanded_of_change (C := Try.checked) own started (by kernel_rfl) Try.func4
    (ChangeSpec.witness6 (enc := enc) (C := Try.checked) false ⟨#[], #[.string ByteArray.empty, .string ByteArray.empty], []⟩ 8 (by kernel_rfl) (by kernel_rfl) (by kernel_rfl) (by kernel_rfl)) ?_
  intro W base args ds gs before hval0 hW hcnd _
  have hval : ∀ (j : Nat) t v, Try.f4.params[j]? = some t → args[j]? = some v → Value.okWide Try.prog W .any base t v := hval0
  have hW' := hW
  obtain ⟨p, q, hA0, hV, rfl, hfz, hnd⟩ := hW
  have hA : DataW.TrodAll enc Try.prog W 0 (fun _ => true) true Try.f4.params.toList args.toList ds p := hA0
  rw [Try.params4] at hA hval
  obtain ⟨v0, vs0, d0, ds0, p0, q0, hargs, rfl, rfl, h0, r0⟩ := trodAll_cons hA
  obtain ⟨v1, vs1, d1, ds1, p1, q1, rfl, rfl, rfl, h1, r1⟩ := trodAll_cons r0
  obtain ⟨rfl, rfl, rfl⟩ := trodAll_nil r1
  obtain rfl : args = #[v0, v1] := by cases args; simp_all
  obtain ⟨rfl, rfl⟩ := trodVars_none hV
  obtain ⟨a0, rfl, rfl, rfl, w0⟩ := open_string Try.underlying9 (hval 0 9 v0 rfl rfl) h0
  obtain ⟨a1, rfl, rfl, rfl, w1⟩ := open_string Try.underlying9 (hval 1 9 v1 rfl rfl) h1
  clear hA0 hval0
  simp only [List.append_nil] at hW'
  refine (walk a0 a1 w0 w1 W).mono fun e W' ⟨he, hg⟩ => ?_
  subst he
  exact ⟨_, rfl, post_of_same (pa := []) (pv := []) hW' (fun _ _ _ => (trodAll_cons_mk (shut_bool Try.underlying4 _) trodAll_mk0)) (fun sp _ => (trodAll_cons_mk (shut_string Try.underlying9 w0) (trodAll_cons_mk (shut_string Try.underlying9 w1) trodAll_mk0))) (fun _ _ => rfl) rfl
    (hg.frame _) hg.2.1 (ok_one (by kernel_rfl) rfl (okWide_bool_mk Try.underlying4 _))⟩

theorem over : Rows.fnCheckNameJoinRow.holds Try.pinned (OpenSpec.ofChange Rows.fnCheckNameJoinSpec) :=
  OpenClaim.holds_of_wide 4 Try.f4 rfl rfl rfl rfl rfl rfl rfl ⟨rfl, rfl, rfl, rfl, rfl⟩ rfl rfl rfl rfl rfl (by kernel_rfl) Try.func4 (by kernel_rfl)
    (of_decide_eq_true (by kernel_rfl)) (by unfold Func.isWrapper; first | (rw [if_pos (by decide +kernel)]; kernel_rfl) | (rw [if_neg (by decide +kernel)]; exact ⟨rfl, rfl⟩))
    (fun os started H enc _ => lifted os started H enc)

/-- ████ THE STATEMENT ████ -/
theorem proved : Rows.FnCheckNameJoinSaid :=
  over
#print axioms proved
end Go.Proofs.Qxb6603199a.fnCheckNameJoin
