/-
  THE PROOF OF 'Rows.FnOutsideExactSaid': the frame after the kit's skeleton for slices, turned by hand to slices of pairs of strings; the walk: Qxb6603199aWant.
-/
import Derived.Test.Qxb6603199aRows
import Derived.Test.Qxb6603199aWant
import Derived.WalkKit
import Derived.ProofKit
import Derived.OpenShut
import Derived.ShutString
import Derived.ChangeOld
import Derived.Below
import Derived.Deep.SlicePairs
namespace Go.Proofs.Qxb6603199a.fnOutsideExact
open Go.ChangeShapes Go.WideShapes Go.ChangeAt Go.RowKit
open Go.Deep
set_option linter.unusedVariables false

theorem own : ownKnob Try.prog.godebug = none := by kernel_rfl
theorem laidOut : laidOutB Try.prog = true := by kernel_rfl
theorem cells35 : Try.prog.cellsOf 35 = 2 := by kernel_rfl
theorem cells9 : Try.prog.cellsOf 9 = 1 := by kernel_rfl

theorem lt_of_cell {w : World} {b o : Nat} {v : Value} (h : w.cell? ⟨b, o, none⟩ = some v) : b < w.heap.size := by
  by_cases hb : b < w.heap.size
  · exact hb
  · have e : w.heap[b]? = none := by simp; omega
    simp [World.cell?, e] at h

/-- A slice of pairs of strings that came in, as the walk is told of it. -/
theorem row_of {H : Type} {enc : TypeId × Value → H} {W : World} {a : Option Addr} {len cap : Nat} {x : DataW H × List MemPlace}
    (h : ∃ fuel, DataW.trod enc Try.prog W 0 (fun _ => true) true fuel 28 [.slice a len cap] = some x) : ∃ p m, Row2 W a len p m ∧ len ≤ maxLen := by
  obtain ⟨fuel, hf⟩ := h
  rcases open_slice_pairs Try.underlying28 Try.underlying35 cells35 rfl rfl cells9 cells9 hf with ⟨hcs, _⟩ | ⟨a', len', cap', m, n, V0, V1, D0, D1, P0, P1, hcs, hb, hl, hm, hmm, hx, hall⟩
  · simp at hcs
    obtain ⟨rfl, rfl, rfl⟩ := hcs
    exact ⟨emp, emp, fun i hi => absurd hi (Nat.not_lt_zero _), Nat.zero_le _⟩
  · simp at hcs
    obtain ⟨rfl, rfl, rfl⟩ := hcs
    have hmc : m = cap := by simpa using hmm
    subst hmc
    have each : ∀ i, i < m → ∃ s : ByteArray × ByteArray, V0 i = .string s.1 ∧ V1 i = .string s.2 ∧ s.1.size ≤ maxLen ∧ s.2.size ≤ maxLen := by
      intro i hi
      obtain ⟨_, _, t0, t1⟩ := hall i hi
      obtain ⟨s0, e0, _, z0⟩ := DataW.trod_string Try.underlying9 t0
      obtain ⟨s1, e1, _, z1⟩ := DataW.trod_string Try.underlying9 t1
      simp at e0 e1
      exact ⟨(s0, s1), e0, e1, z0, z1⟩
    obtain ⟨q, hq⟩ := choose_lt (α := ByteArray × ByteArray) each
    refine ⟨fun i => (q i).1, fun i => (q i).2, fun i hi => ?_, by omega⟩
    have him : i < m := by omega
    obtain ⟨c0, c1, _, _⟩ := hall i him
    obtain ⟨e0, e1, z0, z1⟩ := hq i him
    obtain ⟨b, off, spot⟩ := a'
    have hspot : spot = none := by
      have hz := (hall 0 (by omega)).1
      simpa [Addr.add] using World.cell?_spot hz
    subst hspot
    rw [add_plain] at c0 c1
    rw [e0] at c0
    rw [e1] at c1
    exact ⟨b, off, rfl, lt_of_cell c0, c0, c1, z0, z1⟩

set_option maxRecDepth 100000 in
theorem lifted (os : Os) (started : os.Started) (H : Type) (enc : TypeId × Value → H) :
    ReturnsInHanded {} Try.checked os 6 .any (Rows.fnOutsideExactSpec.pre6 enc Try.prog Try.f6 Rows.fnOutsideExactRow.domain false) (Rows.fnOutsideExactSpec.post enc Try.prog Try.f6 false true false false) := by
  refine returnsInHanded_of_change (C := Try.checked) own started (by kernel_rfl) Try.func6
    (ChangeSpec.witness6 (enc := enc) (C := Try.checked) false ⟨#[], #[.slice none 0 0, .slice none 0 0], []⟩ 8 (by kernel_rfl) (by kernel_rfl) (by kernel_rfl) (by kernel_rfl)) ?_
  intro W base args ds gs before hval0 hW hcnd _
  have hval : ∀ (j : Nat) t v, Try.f6.params[j]? = some t → args[j]? = some v → Value.okWide Try.prog W .any base t v := hval0
  have hW' := hW
  obtain ⟨p, q, hA0, hV, rfl, hfz, hnd⟩ := hW
  have hA : DataW.TrodAll enc Try.prog W 0 (fun _ => true) true Try.f6.params.toList args.toList ds p := hA0
  rw [Try.params6] at hA hval
  obtain ⟨v0, vs0, d0, ds0, p0, q0, hargs, rfl, rfl, h0, r0⟩ := trodAll_cons hA
  obtain ⟨v1, vs1, d1, ds1, p1, q1, rfl, rfl, rfl, h1, r1⟩ := trodAll_cons r0
  obtain ⟨rfl, rfl, rfl⟩ := trodAll_nil r1
  obtain rfl : args = #[v0, v1] := by cases args; simp_all
  obtain ⟨rfl, rfl⟩ := trodVars_none hV
  obtain ⟨a0, len0, cap0, rfl⟩ := okWide_slice Try.underlying28 (hval 0 28 v0 rfl rfl)
  obtain ⟨a1, len1, cap1, rfl⟩ := okWide_slice Try.underlying28 (hval 1 28 v1 rfl rfl)
  have k0 := h0
  have k1 := h1
  have lt0 : ∀ x ∈ p0, x.block < W.heap.size := by obtain ⟨m, hm⟩ := k0; exact DataW.trod_lt m _ _ _ hm
  have lt1 : ∀ x ∈ p1, x.block < W.heap.size := by obtain ⟨m, hm⟩ := k1; exact DataW.trod_lt m _ _ _ hm
  obtain ⟨pp0, mm0, w0, n0⟩ := row_of h0
  obtain ⟨pp1, mm1, w1, n1⟩ := row_of h1
  clear hA0 hval0
  refine (want_any a0 a1 len0 cap0 len1 cap1 pp0 mm0 pp1 mm1 W w0 w1 n0 n1).mono fun e W' ⟨he, bel⟩ => ?_
  subst he
  exact ⟨_, rfl, _, _, _, [], _, [], hW', trodAll_mk1 (shut_bool Try.underlying4 _), (trodAll_cons_mk (Below.trod laidOut (by kernel_rfl) (of_decide_eq_true (by kernel_rfl)) k0 bel lt0) (trodAll_cons_mk (Below.trod laidOut (by kernel_rfl) (of_decide_eq_true (by kernel_rfl)) k1 bel lt1) trodAll_mk0)), rfl, bel.frame _, fun h => by cases h⟩

theorem over : Rows.fnOutsideExactRow.holds Try.pinned (OpenSpec.ofChange Rows.fnOutsideExactSpec) :=
  OpenClaim.holds_of_wide 6 Try.f6 rfl rfl rfl rfl rfl rfl rfl ⟨rfl, rfl, rfl, rfl, rfl⟩ rfl rfl rfl rfl rfl (by kernel_rfl) Try.func6 (by kernel_rfl)
    (of_decide_eq_true (by kernel_rfl)) (by unfold Func.isWrapper; first | (rw [if_pos (by decide +kernel)]; kernel_rfl) | (rw [if_neg (by decide +kernel)]; exact ⟨rfl, rfl⟩))
    (fun os started H enc _ => lifted os started H enc)

/-- ████ THE STATEMENT ████ -/
theorem proved : Rows.FnOutsideExactSaid := over
#print axioms proved
end Go.Proofs.Qxb6603199a.fnOutsideExact
