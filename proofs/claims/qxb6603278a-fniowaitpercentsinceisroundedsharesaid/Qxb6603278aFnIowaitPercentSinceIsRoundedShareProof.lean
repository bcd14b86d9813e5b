/-
  THE PROOF OF 'Rows.FnIowaitPercentSinceIsRoundedShareSaid': the frame after the kit's skeleton, turned by hand to two arrays of eight uint64 by value and a float; the walk: Qxb6603278aDelta.
-/
import Derived.Test.Qxb6603278aRows
import Derived.Test.Qxb6603278aDelta
import Derived.WalkKit
import Derived.ProofKit
import Derived.OpenShut
import Derived.ShutString
import Derived.ChangeOld
import Derived.Below
import Derived.Laws.Cover2
namespace Go.Proofs.Qxb6603278a.fnIowaitPercentSinceIsRoundedShare
open Go.ChangeShapes Go.WideShapes Go.ChangeAt Go.RowKit
set_option linter.unusedVariables false

theorem own : ownKnob Try.prog.godebug = none := by kernel_rfl
theorem laidOut : laidOutB Try.prog = true := by kernel_rfl
theorem cells23 : Try.prog.cellsOf 23 = 8 := by kernel_rfl
theorem cells22 : Try.prog.cellsOf 22 = 1 := by kernel_rfl

theorem list8 {α : Type} (l : List α) (h : l.length = 8) : ∃ a b c d e f g i, l = [a, b, c, d, e, f, g, i] := by
  match l, h with
  | [a, b, c, d, e, f, g, i], _ => exact ⟨a, b, c, d, e, f, g, i, rfl⟩

theorem nat_of {H : Type} {enc : TypeId × Value → H} {W : World} {fuel : Nat} {c : Value} {y : Option (DataW H × List MemPlace)} (hs : y.isSome = true)
    (h : DataW.trod enc Try.prog W 0 (fun _ => true) true fuel 22 [c] = y) : ∃ n : Nat, c = .int .u64 n ∧ n < 18446744073709551616 := by
  obtain ⟨z, hz⟩ := Option.isSome_iff_exists.1 hs
  rw [hz] at h
  obtain ⟨x, e, _, wx⟩ := DataW.trod_int Try.underlying22 h
  simp at e
  have hb := bounds_u64 wx
  obtain ⟨n, rfl⟩ := Int.eq_ofNat_of_zero_le (show 0 ≤ x by omega)
  exact ⟨n, e, by omega⟩

theorem arr_of {H : Type} {enc : TypeId × Value → H} {W : World} {base : Nat} {v : Value} {d : DataW H} {p : List MemPlace}
    (hv : Value.okWide Try.prog W .any base 23 v) (h : DataW.Trod enc Try.prog W 0 (fun _ => true) true 23 v d p) :
    ∃ X : Nat → Nat, v = .agg #[.int .u64 (X 0), .int .u64 (X 1), .int .u64 (X 2), .int .u64 (X 3), .int .u64 (X 4), .int .u64 (X 5), .int .u64 (X 6), .int .u64 (X 7)] ∧ ∀ k, X k < 18446744073709551616 := by
  obtain ⟨cs, rfl, hsz, _⟩ : ∃ cs, v = .agg cs ∧ cs.size = Try.prog.cellsOf 23 ∧ Row.okWide Try.prog W .any base 23 cs := by
    simpa [Value.okWide, Try.underlying23] using hv
  rw [cells23] at hsz
  obtain ⟨l⟩ := cs
  obtain ⟨c0, c1, c2, c3, c4, c5, c6, c7, rfl⟩ := list8 l hsz
  obtain ⟨fuel, hf⟩ := h
  obtain ⟨xs, m, _, _, _, hl, hel⟩ := DataW.trod_array Try.underlying23 hf
  rw [cells22] at hel
  have hsome : ∀ i, i < 8 → (xs[i]?).isSome = true := fun i hi => by simp; omega
  obtain ⟨n0, rfl, b0⟩ := nat_of (hsome 0 (by omega)) (hel 0 (by omega))
  obtain ⟨n1, rfl, b1⟩ := nat_of (hsome 1 (by omega)) (hel 1 (by omega))
  obtain ⟨n2, rfl, b2⟩ := nat_of (hsome 2 (by omega)) (hel 2 (by omega))
  obtain ⟨n3, rfl, b3⟩ := nat_of (hsome 3 (by omega)) (hel 3 (by omega))
  obtain ⟨n4, rfl, b4⟩ := nat_of (hsome 4 (by omega)) (hel 4 (by omega))
  obtain ⟨n5, rfl, b5⟩ := nat_of (hsome 5 (by omega)) (hel 5 (by omega))
  obtain ⟨n6, rfl, b6⟩ := nat_of (hsome 6 (by omega)) (hel 6 (by omega))
  obtain ⟨n7, rfl, b7⟩ := nat_of (hsome 7 (by omega)) (hel 7 (by omega))
  refine ⟨fun k => [n0, n1, n2, n3, n4, n5, n6, n7].getD k 0, rfl, fun k => ?_⟩
  by_cases hk : k < 8
  · rcases eight hk with rfl | rfl | rfl | rfl | rfl | rfl | rfl | rfl <;> simp <;> assumption
  · show [n0, n1, n2, n3, n4, n5, n6, n7].getD k 0 < _
    rw [List.getD_eq_getElem?_getD, List.getElem?_eq_none (by simp; omega)]
    decide

set_option maxRecDepth 100000 in
theorem lifted (os : Os) (started : os.Started) (H : Type) (enc : TypeId × Value → H) :
    ReturnsInHanded {} Try.checked os 3 .any (Rows.fnIowaitPercentSinceIsRoundedShareSpec.pre6 enc Try.prog Try.f3 Rows.fnIowaitPercentSinceIsRoundedShareRow.domain false) (Rows.fnIowaitPercentSinceIsRoundedShareSpec.post enc Try.prog Try.f3 false true false false) := by
  refine returnsInHanded_of_change (C := Try.checked) own started (by kernel_rfl) Try.func3
    (ChangeSpec.witness6 (enc := enc) (C := Try.checked) false ⟨#[], #[.agg #[.int .u64 0, .int .u64 0, .int .u64 0, .int .u64 0, .int .u64 0, .int .u64 0, .int .u64 0, .int .u64 0], .agg #[.int .u64 0, .int .u64 0, .int .u64 0, .int .u64 0, .int .u64 0, .int .u64 0, .int .u64 0, .int .u64 0], .float .f64 0], []⟩ 8 (by kernel_rfl) (by kernel_rfl) (by kernel_rfl) (by kernel_rfl)) ?_
  intro W base args ds gs before hval0 hW hcnd _
  have hval : ∀ (j : Nat) t v, Try.f3.params[j]? = some t → args[j]? = some v → Value.okWide Try.prog W .any base t v := hval0
  have hW' := hW
  obtain ⟨p, q, hA0, hV, rfl, hfz, hnd⟩ := hW
  have hA : DataW.TrodAll enc Try.prog W 0 (fun _ => true) true Try.f3.params.toList args.toList ds p := hA0
  rw [Try.params3] at hA hval
  obtain ⟨v0, vs0, d0, ds0, p0, q0, hargs, rfl, rfl, h0, r0⟩ := trodAll_cons hA
  obtain ⟨v1, vs1, d1, ds1, p1, q1, rfl, rfl, rfl, h1, r1⟩ := trodAll_cons r0
  obtain ⟨v2, vs2, d2, ds2, p2, q2, rfl, rfl, rfl, h2, r2⟩ := trodAll_cons r1
  obtain ⟨rfl, rfl, rfl⟩ := trodAll_nil r2
  obtain rfl : args = #[v0, v1, v2] := by cases args; simp_all
  obtain ⟨rfl, rfl⟩ := trodVars_none hV
  have k0 := h0
  have k1 := h1
  have lt0 : ∀ x ∈ p0, x.block < W.heap.size := by obtain ⟨m, hm⟩ := k0; exact DataW.trod_lt m _ _ _ hm
  have lt1 : ∀ x ∈ p1, x.block < W.heap.size := by obtain ⟨m, hm⟩ := k1; exact DataW.trod_lt m _ _ _ hm
  obtain ⟨X, rfl, hX⟩ := arr_of (hval 0 23 v0 rfl rfl) h0
  obtain ⟨Y, rfl, hY⟩ := arr_of (hval 1 23 v1 rfl rfl) h1
  obtain ⟨b, rfl, rfl, rfl, wb⟩ := open_float Try.underlying24 (hval 2 24 v2 rfl rfl) h2
  have hb : b < 18446744073709551616 := by simpa [Lit.wf] using wb
  clear hA0 hval0
  refine (law_any X Y b W hX hY hb).mono fun e W' ⟨he, bel⟩ => ?_
  subst he
  exact ⟨_, rfl, _, _, _, [], _, [], hW', trodAll_mk1 (shut_bool Try.underlying4 _), (trodAll_cons_mk (Below.trod laidOut (by kernel_rfl) (of_decide_eq_true (by kernel_rfl)) k0 bel lt0) (trodAll_cons_mk (Below.trod laidOut (by kernel_rfl) (of_decide_eq_true (by kernel_rfl)) k1 bel lt1) (trodAll_cons_mk (shut_float Try.underlying24 wb) trodAll_mk0))), rfl, bel.frame _, fun h => by cases h⟩

theorem over : Rows.fnIowaitPercentSinceIsRoundedShareRow.holds Try.pinned (OpenSpec.ofChange Rows.fnIowaitPercentSinceIsRoundedShareSpec) :=
  OpenClaim.holds_of_wide 3 Try.f3 rfl rfl rfl rfl rfl rfl rfl ⟨rfl, rfl, rfl, rfl, rfl⟩ rfl rfl rfl rfl rfl (by kernel_rfl) Try.func3 (by kernel_rfl)
    (of_decide_eq_true (by kernel_rfl)) (by unfold Func.isWrapper; first | (rw [if_pos (by decide +kernel)]; kernel_rfl) | (rw [if_neg (by decide +kernel)]; exact ⟨rfl, rfl⟩))
    (fun os started H enc _ => lifted os started H enc)

/-- ████ THE STATEMENT ████ -/
theorem proved : Rows.FnIowaitPercentSinceIsRoundedShareSaid := over
#print axioms proved
end Go.Proofs.Qxb6603278a.fnIowaitPercentSinceIsRoundedShare
