/-
  THE PROOF OF 'Rows.FnSkipNumberMatchesNumberAutomatonSaid': the frame by the kit's skeleton tool for this statement; the walk typed by hand.
-/
import Derived.Test.Qxb6603201aRows
import Derived.Test.Qxb6603201aCopy
import Derived.WalkKit
import Derived.ProofKit
import Derived.OpenShut
import Derived.ShutString
import Derived.WalkSpells
import Derived.Deep.LoopGhost
import Derived.WalkLawsBesides
import Derived.ChangeOld
import Derived.Below
namespace Go.Proofs.Qxb6603201a.fnSkipNumberMatchesNumberAutomaton
open Go.ChangeShapes Go.WideShapes Go.ChangeAt Go.RowKit
open Go.ChangeMaps (open_string shut_string)
open Go.Proofs.Qxb6603201a.Num
set_option linter.unusedVariables false

theorem own : ownKnob Try.prog.godebug = none := by kernel_rfl
theorem laidOut : laidOutB Try.prog = true := by kernel_rfl

/-- WHAT THE WALK IS TOLD OF A SLICE OF INTEGERS THAT CAME IN: it is nil; or it leads to a row of 'cap' cells, the numbers 'zs' (the first 'len' are its elements, the rest its spare room), each fitting its kind. -/
def IsRow (k : IntKind) (w : World) (a : Option Addr) (len cap : Nat) (zs : List Int) : Prop :=
  (a = none ∧ len = 0 ∧ cap = 0 ∧ zs = []) ∨
  ∃ x, a = some x ∧ len ≤ cap ∧ cap ≤ maxLen ∧ zs.length = cap ∧ (∀ i, i < zs.length → w.cell? (x.add i) = some (.int k (zs.getD i 0))) ∧ ∀ n ∈ zs, (Lit.int k n).wf = true

/-! ### STEP 1: THE WALK: the Go text returns true, and writes nothing that was there. -/
theorem zz_no (a : Option Addr) (n c : Nat) (i : Int) (w : World) (hn : n ≤ maxLen) (h : 1048576 < n) :
    Calls Try.prog 12 #[.slice a n c, .int .i64 i] w fun e w' => e = .returned (.bool false) ∧ w = w' := by
  unfold maxLen at hn
  go_enter Try.func12, Try.ntmps12
  go_wp2
  go_ret
  exact ⟨rfl, rfl⟩
theorem zz_yes (a : Option Addr) (n c : Nat) (i : Int) (w : World) (h : n ≤ 1048576) :
    Calls Try.prog 12 #[.slice a n c, .int .i64 i] w fun e w' => e = .returned (.bool true) ∧ w = w' := by
  go_enter Try.func12, Try.ntmps12
  go_wp2
  go_ret
  exact ⟨rfl, rfl⟩

theorem walk_out (a : Option Addr) (n c : Nat) (i : Int) (w : World) (hn : n ≤ maxLen) (h : 1048576 < n) :
    Calls Try.prog 6 #[.slice a n c, .int .i64 i] w fun e w' => e = .returned (.bool true) ∧ Below w.heap.size w w' := by
  go_enter Try.func6, Try.ntmps6
  go_wp2_with fail
  refine (zz_no a n c i _ hn h).mono ?_
  rintro e w1 ⟨rfl, rfl⟩
  go_wp2_with fail
  go_ret
  exact ⟨rfl, Below.refl _ _⟩

theorem walk_neg (a : Option Addr) (n c : Nat) (i : Int) (w : World) (h : n ≤ 1048576) (hi : i < 0) :
    Calls Try.prog 6 #[.slice a n c, .int .i64 i] w fun e w' => e = .returned (.bool true) ∧ Below w.heap.size w w' := by
  go_enter Try.func6, Try.ntmps6
  go_wp2_with fail
  refine (zz_yes a n c i _ h).mono ?_
  rintro e w1 ⟨rfl, rfl⟩
  go_wp2_with fail
  go_ret
  exact ⟨rfl, Below.refl _ _⟩

theorem walk_nil (i : Nat) (w : World) (hi : i ≤ 9223372036854775807) :
    Calls Try.prog 6 #[.slice none 0 0, .int .i64 i] w fun e w' => e = .returned (.bool true) ∧ Below w.heap.size w w' := by
  have hr : ∀ w, Row1 w none 0 (fun _ => 0) := fun w k hk => absurd hk (Nat.not_lt_zero _)
  have HR := hide hr
  clear hr
  have hq : ∀ (w : World), (binOp .neq 28 (.slice none 0 0) (.slice none 0 0)).run Try.prog w = .ok (.bool false) w := fun w => run_neq_slice_nil_any w 28 5 none 0 0 0 0 Try.underlying28
  go_enter Try.func6, Try.ntmps6
  go_wp2_with fail
  refine (zz_yes none 0 0 i _ (by omega)).mono ?_
  rintro e w1 ⟨rfl, rfl⟩
  go_wp2_with fail
  clear hq
  refine (zzskip_any none 0 0 i (fun _ => 0) _ (HR.out _) (by omega) hi).mono ?_
  rintro e w1 ⟨⟨j1, s1, rfl, t1, k1⟩, rfl⟩
  have T1 := hide t1
  have K1 := hide k1
  clear t1 k1
  go_wp2_with fail
  refine (model_any none 0 0 i (fun _ => 0) _ (HR.out _) (by omega) hi).mono ?_
  rintro e w1 ⟨⟨j2, s2, rfl, t2, k2⟩, rfl⟩
  obtain ⟨ej, es⟩ := T1.out.unique K1.out t2 k2
  subst ej
  subst es
  clear T1 K1 t2 k2
  go_wp2_with fail
  go_ret
  exact ⟨by simp, Below.refl _ _⟩

theorem walk_some (x : Addr) (n c i : Nat) (zs : List Int) (w : World) (h : n ≤ 1048576) (hi : i ≤ 9223372036854775807) (hcell : ∀ k, k < zs.length → w.cell? (x.add k) = some (.int .u8 (zs.getD k 0))) (hlen : n ≤ zs.length) (hwf : ∀ z ∈ zs, (Lit.int .u8 z).wf = true) :
    Calls Try.prog 6 #[.slice (some x) n c, .int .i64 i] w fun e w' => e = .returned (.bool true) ∧ Below w.heap.size w w' := by
  obtain ⟨W2, hcp, hrow, hbel⟩ := copy_fact w x n c zs hcell hlen hwf
  have HR := hide hrow
  have HB := hide hbel
  clear hcell hlen hwf hrow hbel
  have hq : ∀ (w : World), (binOp .neq 28 (.slice (some x) n c) (.slice none 0 0)).run Try.prog w = .ok (.bool true) w := fun w => run_neq_slice_nil_any w 28 5 (some x) n c 0 0 Try.underlying28
  have hmk := fun w => run_make_row' (P := Try.prog) 28 5 (.int .u8 0) 1 Try.underlying28 info5 rfl .i64 .i64 n (by omega) (by omega) w
  go_enter Try.func6, Try.ntmps6
  go_wp2_with fail
  refine (zz_yes (some x) n c i _ h).mono ?_
  rintro e w1 ⟨rfl, rfl⟩
  go_wp2_with fail
  clear hq hmk hcp
  refine (zzskip_any _ n n i (tx zs) _ HR.out h hi).mono ?_
  rintro e w1 ⟨⟨j1, s1, rfl, t1, k1⟩, rfl⟩
  have T1 := hide t1
  have K1 := hide k1
  clear t1 k1
  go_wp2_with fail
  refine (model_any _ n n i (tx zs) _ HR.out h hi).mono ?_
  rintro e w1 ⟨⟨j2, s2, rfl, t2, k2⟩, rfl⟩
  obtain ⟨ej, es⟩ := T1.out.unique K1.out t2 k2
  subst ej
  subst es
  clear T1 K1 t2 k2
  go_wp2_with fail
  go_ret
  exact ⟨by simp, HB.out⟩

theorem walk (a0 : Option Addr) (len0 cap0 : Nat) (z0 : List Int) (a1 : Int) (w : World) (w0 : IsRow .u8 w a0 len0 cap0 z0) (w1 : (Lit.int .i64 a1).wf = true) :
    Calls Try.prog 6 #[.slice a0 len0 cap0, .int .i64 a1] w fun e w' => e = .returned (.bool true) ∧ Below w.heap.size w w' := by
  have hb := bounds_i64 w1
  rcases w0 with ⟨rfl, rfl, rfl, rfl⟩ | ⟨x, rfl, hl, hm, hz, hcell, hwf⟩
  · by_cases hi : a1 < 0
    · exact walk_neg none 0 0 a1 w (by omega) hi
    · obtain ⟨i, rfl⟩ := Int.eq_ofNat_of_zero_le (show 0 ≤ a1 by omega)
      exact walk_nil i w (by omega)
  · by_cases hn : 1048576 < len0
    · exact walk_out _ len0 cap0 a1 w (by omega) hn
    · by_cases hi : a1 < 0
      · exact walk_neg _ len0 cap0 a1 w (by omega) hi
      · obtain ⟨i, rfl⟩ := Int.eq_ofNat_of_zero_le (show 0 ≤ a1 by omega)
        exact walk_some x len0 cap0 i z0 w (by omega) (by omega) hcell (by omega) hwf

/-! ### THE ROW's STEP: WRITTEN OUT: LEAVE IT -/
set_option maxRecDepth 100000 in
theorem lifted (os : Os) (started : os.Started) (H : Type) (enc : TypeId × Value → H) :
    ReturnsInHanded {} Try.checked os 6 .any (Rows.fnSkipNumberMatchesNumberAutomatonSpec.pre6 enc Try.prog Try.f6 Rows.fnSkipNumberMatchesNumberAutomatonRow.domain false) (Rows.fnSkipNumberMatchesNumberAutomatonSpec.post enc Try.prog Try.f6 false true false false) := by
  refine returnsInHanded_of_change (C := Try.checked) own started (by kernel_rfl) Try.func6
    (ChangeSpec.witness6 (enc := enc) (C := Try.checked) false ⟨#[], #[.slice none 0 0, .int .i64 0], []⟩ 8 (by kernel_rfl) (by kernel_rfl) (by kernel_rfl) (by kernel_rfl)) ?_
  intro W base args ds gs before hval0 hW hcnd _
  have hval : ∀ (j : Nat) t v, Try.f6.params[j]? = some t → args[j]? = some v → Value.okWide Try.prog W .any base t v := hval0
  have hW' := hW
  obtain ⟨p, q, hA0, hV, rfl, hfz, hnd⟩ := hW
  have hA : DataW.TrodAll enc Try.prog W 0 (fun _ => true) true Try.f6.params.toList args.toList ds p := hA0
  rw [Try.params6] at hA hval
  obtain ⟨v0, vs0, d0, ds0, p0, q0, hargs, rfl, rfl, h0, r0⟩ := trodAll_cons hA
  obtain ⟨v1, vs1, d1, ds1, p1, q1, rfl, rfl, rfl, h1, r1⟩ := trodAll_cons r0
  obtain ⟨rfl, rfl, rfl⟩ := trodAll_nil r1
  obtain rfl : args = #[v0, v1] := by cases args; simp_all
  obtain ⟨rfl, rfl⟩ := trodVars_none hV
  obtain ⟨a0, len0, cap0, rfl⟩ := okWide_slice Try.underlying28 (hval 0 28 v0 rfl rfl)
  have k0 := h0
  have lt0 : ∀ x ∈ p0, x.block < W.heap.size := by obtain ⟨m, hm⟩ := k0; exact DataW.trod_lt m _ _ _ hm
  obtain ⟨z0, w0⟩ : ∃ zs, IsRow .u8 W a0 len0 cap0 zs := by
    obtain ⟨fuel, hf⟩ := h0
    rcases open_ints Try.underlying28 Try.underlying5 (by kernel_rfl) hf with ⟨hcs, _⟩ | ⟨x, l, c, zs, hcs, _, hl, hm, hz, _, hcell, hwz⟩
    · simp [Value.cells] at hcs
      obtain ⟨rfl, rfl, rfl⟩ := hcs
      exact ⟨[], .inl ⟨rfl, rfl, rfl, rfl⟩⟩
    · simp [Value.cells] at hcs
      obtain ⟨rfl, rfl, rfl⟩ := hcs
      exact ⟨zs, .inr ⟨_, rfl, hl, hm, by simpa using hz, hcell, hwz⟩⟩
  obtain ⟨a1, rfl, rfl, rfl, w1⟩ := open_int Try.underlying3 (hval 1 3 v1 rfl rfl) h1
  clear hA0 hval0
  refine (walk a0 len0 cap0 z0 a1 W w0 w1).mono fun e W' ⟨he, bel⟩ => ?_
  subst he
  exact ⟨_, rfl, _, _, _, [], _, [], hW', trodAll_mk1 (shut_bool Try.underlying4 _), (trodAll_cons_mk (Below.trod laidOut (by kernel_rfl) (of_decide_eq_true (by kernel_rfl)) k0 bel lt0) (trodAll_cons_mk (shut_int Try.underlying3 w1) trodAll_mk0)), rfl, bel.frame _, fun h => by cases h⟩

theorem over : Rows.fnSkipNumberMatchesNumberAutomatonRow.holds Try.pinned (OpenSpec.ofChange Rows.fnSkipNumberMatchesNumberAutomatonSpec) :=
  OpenClaim.holds_of_wide 6 Try.f6 rfl rfl rfl rfl rfl rfl rfl ⟨rfl, rfl, rfl, rfl, rfl⟩ rfl rfl rfl rfl rfl (by kernel_rfl) Try.func6 (by kernel_rfl)
    (of_decide_eq_true (by kernel_rfl)) (by unfold Func.isWrapper; first | (rw [if_pos (by decide +kernel)]; kernel_rfl) | (rw [if_neg (by decide +kernel)]; exact ⟨rfl, rfl⟩))
    (fun os started H enc _ => lifted os started H enc)

/-- ████ THE STATEMENT ████ -/
theorem proved : Rows.FnSkipNumberMatchesNumberAutomatonSaid := over
#print axioms proved
end Go.Proofs.Qxb6603201a.fnSkipNumberMatchesNumberAutomaton
