/-
  THE PROOF OF 'Rows.FnStopsInMarksExactlyFromFirstStopSaid': the frame by the kit's skeleton tool for this statement; the walk typed by hand.
-/
import Derived.Test.Qxb6603201aRows
import Derived.Test.Qxb6603201aStops
import Derived.WalkKit
import Derived.ProofKit
import Derived.OpenShut
import Derived.ShutString
import Derived.WalkSpells
import Derived.Deep.LoopGhost
import Derived.WalkLawsBesides
namespace Go.Proofs.Qxb6603201a.fnStopsInMarksExactlyFromFirstStop
open Go.ChangeShapes Go.WideShapes Go.ChangeAt Go.RowKit
open Go.ChangeMaps (open_string shut_string)
set_option linter.unusedVariables false      -- a walk need not use every 'w<i>' (that an integer argument fits its kind)

theorem own : ownKnob Try.prog.godebug = none := by kernel_rfl

/-! ### STEP 1: THE WALK: the Go text returns true. -/
set_option maxHeartbeats 400000 in
theorem stops_any (x : Nat) (w : World) (h1 : x < 18446744073709551616) :
    Calls Try.prog 16 #[.int .u64 x] w fun e w' => e = .returned (.int .u64 (stopsN x)) ∧ w = w' := by
  have HB := hide (bits_stops x h1)
  go_enter Try.func16, Try.ntmps16
  go_wp2
  go_ret
  exact ⟨congrArg (fun n => Ending.returned (.int .u64 n)) HB.out, rfl⟩

theorem zzstops_any (x : Nat) (w : World) (h1 : x < 18446744073709551616) :
    Calls Try.prog 8 #[.int .u64 x] w fun e w' => e = .returned (.int .u64 (stopsN x)) ∧ w = w' := by
  go_enter Try.func8, Try.ntmps8
  go_wp2_with fail
  refine (stops_any x _ h1).mono ?_
  rintro e w1 ⟨rfl, rfl⟩
  go_wp2_with fail
  go_ret
  exact ⟨rfl, rfl⟩

theorem js_yes (b : Nat) (w : World) (h : stopB b) : Calls Try.prog 9 #[.int .u8 b] w fun e w' => e = .returned (.bool true) ∧ w = w' := by
  rcases h with h | h | h
  · subst h
    go_enter Try.func9, Try.ntmps9
    go_wp2
    go_ret
    exact ⟨rfl, rfl⟩
  · subst h
    go_enter Try.func9, Try.ntmps9
    go_wp2
    go_ret
    exact ⟨rfl, rfl⟩
  · have h34 : ((b : Int) == 34) = false := by simp; omega
    have h92 : ((b : Int) == 92) = false := by simp; omega
    go_enter Try.func9, Try.ntmps9
    go_wp2
    go_ret
    exact ⟨by simp; omega, rfl⟩
theorem js_no (b : Nat) (w : World) (h : ¬ stopB b) : Calls Try.prog 9 #[.int .u8 b] w fun e w' => e = .returned (.bool false) ∧ w = w' := by
  unfold stopB at h
  have h34 : ((b : Int) == 34) = false := by simp; omega
  have h92 : ((b : Int) == 92) = false := by simp; omega
  have h32 : 32 ≤ b := by omega
  clear h
  go_enter Try.func9, Try.ntmps9
  go_wp2
  go_ret
  exact ⟨by simp; omega, rfl⟩

set_option maxRecDepth 100000 in
set_option maxHeartbeats 1000000 in
theorem walk_main (x : Nat) (w : World) (h1 : x < 18446744073709551616) :
    Calls Try.prog 3 #[.int .u64 x] w fun e w' => e = .returned (.bool true) ∧ w = w' := by
  have F := hide (fun k (hk : k < 8) => mark_facts x k h1 hk)
  have BM := hide (fun k => bits_mark (stopsN x) k (stopsN_lt x))
  have BX := hide (int_byt x)
  have hx : x ≤ 18446744073709551615 := by omega
  have hy : stopsN x ≤ 18446744073709551615 := by have := stopsN_lt x; omega
  have H1 := hide h1
  clear h1
  go_enter Try.func3, Try.ntmps3
  go_wp2_with fail
  refine (zzstops_any x _ H1.out).mono ?_
  rintro e w1 ⟨rfl, rfl⟩
  clear H1
  generalize stopsN x = y at *
  go_wp2_with fail
  go_loopg [4, 5] 8 (fun g sn k wr => w = wr ∧ ∃ (k' : Nat) (sn' : Bool), g = 8 - k' ∧ k = .int .i64 k' ∧ k' ≤ 8 ∧ sn = .bool sn' ∧ (sn' = false → ∀ i, i < k' → ¬ stopB (byt x i)))
  case atStart => exact ⟨rfl, 0, false, rfl, rfl, by omega, rfl, fun _ i hi => by omega⟩
  case round =>
    obtain ⟨hwr, k, sn, hgk, rfl, hk, rfl, hsn⟩ := hrel
    subst hwr
    have HG := hide hgk
    have HS := hide hsn
    clear hgk hsn
    by_cases hlt : k < 8
    · obtain ⟨f1, f2, f3, f4⟩ := F.out k hlt
      have hm := BM.out k
      have hb := BX.out k
      have hbl := byt_lt x k
      have HB := hide (rfl : byt x k = byt x k)
      clear BM BX F
      by_cases hst : stopB (byt x k)
      · have hmk := f2 hst
        rw [hmk] at hm
        clear f1 f2 f3 f4 hmk
        go_wp2_with fail
        refine (js_yes _ _ hst).mono ?_
        rintro e w1 ⟨rfl, rfl⟩
        go_wp2_with fail
        go_roundg (8 - (k + 1))
        case rel => exact ⟨rfl, k + 1, true, rfl, by go_num, by omega, rfl, fun h => by simp at h⟩
        case measure => have := HG.out; omega
      · by_cases hz : sn = false ∨ 128 ≤ byt x k
        · have hmk : byt y k = 0 := by
            rcases hz with hz | hz
            · exact f4 (HS.out hz) hst
            · exact f3 hz
          rw [hmk] at hm
          clear f1 f2 f3 f4 hmk
          have hnext : sn = false → ∀ i, i < k + 1 → ¬ stopB (byt x i) := by
            intro h i hi
            by_cases e : i = k
            · rw [e]; exact hst
            · exact HS.out h i (by omega)
          have HN := hide hnext
          clear hnext
          have HZ := hide hz
          clear hz
          cases sn
          · go_wp2_with fail
            refine (js_no _ _ hst).mono ?_
            rintro e w1 ⟨rfl, rfl⟩
            go_wp2_with fail
            go_roundg (8 - (k + 1))
            case rel => exact ⟨rfl, k + 1, false, rfl, by go_num, by omega, rfl, fun _ => HN.out trivial⟩
            case measure => have := HG.out; omega
          · have hge : 128 ≤ byt x k := by
              rcases HZ.out with h | h
              · simp at h
              · exact h
            go_wp2_with fail
            refine (js_no _ _ hst).mono ?_
            rintro e w1 ⟨rfl, rfl⟩
            go_wp2_with fail
            go_roundg (8 - (k + 1))
            case rel => exact ⟨rfl, k + 1, true, rfl, by go_num, by omega, rfl, fun h => by simp at h⟩
            case measure => have := HG.out; omega
        · have hsn : sn = true := by cases sn <;> simp_all
          have hb128 : byt x k < 128 := by omega
          subst hsn
          clear hz f2 f3 f4
          rcases f1 with f1 | f1
          all_goals
            rw [f1] at hm
            clear f1
            go_wp2_with fail
            refine (js_no _ _ hst).mono ?_
            rintro e w1 ⟨rfl, rfl⟩
            go_wp2_with fail
            go_roundg (8 - (k + 1))
            case rel => exact ⟨rfl, k + 1, true, rfl, by go_num, by omega, rfl, fun h => by simp at h⟩
            case measure => have := HG.out; omega
    · go_wp2_with fail
      go_ret
      exact ⟨rfl, rfl⟩

theorem walk (a0 : Int) (w0 : (Lit.int .u64 a0).wf = true) (w : World) :
    Calls Try.prog 3 #[.int .u64 a0] w fun e w' => e = .returned (.bool true) ∧ Grown w w' := by
  have hb := bounds_u64 w0
  obtain ⟨x, rfl⟩ := Int.eq_ofNat_of_zero_le (show 0 ≤ a0 by omega)
  refine (walk_main x w (by omega)).mono ?_
  rintro e w' ⟨rfl, rfl⟩
  exact ⟨rfl, Grown.refl _⟩

/-! ### THE ROW's STEP: WRITTEN OUT: LEAVE IT -/
set_option maxRecDepth 100000 in
theorem lifted (os : Os) (started : os.Started) (H : Type) (enc : TypeId × Value → H) :
    ReturnsInHanded {} Try.checked os 3 .any (Rows.fnStopsInMarksExactlyFromFirstStopSpec.pre6 enc Try.prog Try.f3 Rows.fnStopsInMarksExactlyFromFirstStopRow.domain false) (Rows.fnStopsInMarksExactlyFromFirstStopSpec.post enc Try.prog Try.f3 false true false false) := by
  refine returnsInHanded_of_change (C := Try.checked) own started (by kernel_rfl) Try.func3
    (ChangeSpec.witness6 (enc := enc) (C := Try.checked) false ⟨#[], #[.int .u64 0], []⟩ 8 (by kernel_rfl) (by kernel_rfl) (by kernel_rfl) (by kernel_rfl)) ?_
  intro W base args ds gs before hval0 hW hcnd _
  have hval : ∀ (j : Nat) t v, Try.f3.params[j]? = some t → args[j]? = some v → Value.okWide Try.prog W .any base t v := hval0
  have hW' := hW
  obtain ⟨p, q, hA0, hV, rfl, hfz, hnd⟩ := hW
  have hA : DataW.TrodAll enc Try.prog W 0 (fun _ => true) true Try.f3.params.toList args.toList ds p := hA0
  rw [Try.params3] at hA hval
  obtain ⟨v0, vs0, d0, ds0, p0, q0, hargs, rfl, rfl, h0, r0⟩ := trodAll_cons hA
  obtain ⟨rfl, rfl, rfl⟩ := trodAll_nil r0
  obtain rfl : args = #[v0] := by cases args; simp_all
  obtain ⟨rfl, rfl⟩ := trodVars_none hV
  obtain ⟨a0, rfl, rfl, rfl, w0⟩ := open_int Try.underlying22 (hval 0 22 v0 rfl rfl) h0
  clear hA0 hval0
  simp only [List.append_nil] at hW'
  refine (walk a0 w0 W).mono fun e W' ⟨he, hg⟩ => ?_
  subst he
  exact ⟨_, rfl, post_of_same (pa := []) (pv := []) hW' (fun _ _ _ => (trodAll_cons_mk (shut_bool Try.underlying4 _) trodAll_mk0)) (fun sp _ => (trodAll_cons_mk (shut_int Try.underlying22 w0) trodAll_mk0)) (fun _ _ => rfl) rfl
    (hg.frame _) hg.2.1 (ok_one (by kernel_rfl) rfl (okWide_bool_mk Try.underlying4 _))⟩

theorem over : Rows.fnStopsInMarksExactlyFromFirstStopRow.holds Try.pinned (OpenSpec.ofChange Rows.fnStopsInMarksExactlyFromFirstStopSpec) :=
  OpenClaim.holds_of_wide 3 Try.f3 rfl rfl rfl rfl rfl rfl rfl ⟨rfl, rfl, rfl, rfl, rfl⟩ rfl rfl rfl rfl rfl (by kernel_rfl) Try.func3 (by kernel_rfl)
    (of_decide_eq_true (by kernel_rfl)) (by unfold Func.isWrapper; first | (rw [if_pos (by decide +kernel)]; kernel_rfl) | (rw [if_neg (by decide +kernel)]; exact ⟨rfl, rfl⟩))
    (fun os started H enc _ => lifted os started H enc)

/-- ████ THE STATEMENT ████ -/
theorem proved : Rows.FnStopsInMarksExactlyFromFirstStopSaid :=
  over
#print axioms proved
end Go.Proofs.Qxb6603201a.fnStopsInMarksExactlyFromFirstStop
