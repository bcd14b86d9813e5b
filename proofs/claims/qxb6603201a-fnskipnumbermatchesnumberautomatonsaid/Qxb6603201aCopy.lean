/-
  THE COPY THAT THE LAWS MAKE OF THE TEXT: 'zzc := make([]byte, len(text)); copy(zzc, text)'.
-/
import Derived.Test.Qxb6603201aSkip
import Derived.Test.Qxb6603201aModel
import Derived.Laws.CopyRow
import Derived.Laws.CopyOwn
import Derived.Deep.OwnRows
import Derived.Deep.Heap
import Derived.OpenShut
namespace Go.Proofs.Qxb6603201a.Num
open Go.RowKit
open Go.Deep
set_option linter.unusedVariables false

theorem info5 : (Try.prog.info? 5).map (fun i => (i.zero, i.size, i.bytes)) = some (some (.int .u8 0), 1, 1) := by kernel_rfl
theorem info5s : (Try.prog.info? 5).map (·.size) = some 1 := by kernel_rfl

/-- The text as numbers. -/
def tx (zs : List Int) (i : Nat) : Nat := (zs.getD i 0).toNat

theorem lt_of_cell {w : World} {a : Addr} {v : Value} (h : w.cell? a = some v) : a.block < w.heap.size := by
  by_cases hb : a.block < w.heap.size
  · exact hb
  · have e : w.heap[a.block]? = none := by simp; omega
    simp [World.cell?, e] at h

theorem u8_of_wf {z : Int} (h : (Lit.int .u8 z).wf = true) : 0 ≤ z ∧ z < 256 := by
  have := bounds_u8 h
  omega

theorem copy_fact (w : World) (x : Addr) (n cap : Nat) (zs : List Int) (hcell : ∀ i, i < zs.length → w.cell? (x.add i) = some (.int .u8 (zs.getD i 0))) (hlen : n ≤ zs.length) (hwf : ∀ z ∈ zs, (Lit.int .u8 z).wf = true) :
    ∃ W2, (∀ ty, (Builtin.copy_ #[28, 28] ty #[.slice (some ⟨w.heap.size, 0, none⟩) n n, .slice (some x) n cap]).run Try.prog (w.alloc (.cells (madeCells #[.int .u8 0] n) 5)) = .ok (goInt n) W2) ∧
      Row1 W2 (some ⟨w.heap.size, 0, none⟩) n (tx zs) ∧ Below w.heap.size w W2 := by
  have hl : ((zs.take n).map (Value.int .u8)).length = n := by simp; omega
  have hg : (w.alloc (.cells (madeCells #[.int .u8 0] n) 5)).heap[w.heap.size]? = some (.cells (madeCells #[.int .u8 0] n) 5 (0, 0)) := blk_alloc_new _ _
  have hsz : (madeCells #[Value.int .u8 0] n).size = n := size_madeCells _ _
  have hat : ∀ j v, ((zs.take n).map (Value.int .u8))[j]? = some v → j < n ∧ v = .int .u8 (zs.getD j 0) := by
    intro j v hv
    have hj : j < ((zs.take n).map (Value.int .u8)).length := (List.getElem?_eq_some_iff.1 hv).1
    rw [hl] at hj
    refine ⟨hj, ?_⟩
    rw [List.getElem?_map, List.getElem?_take_of_lt hj] at hv
    rw [List.getD_eq_getElem?_getD]
    cases hz : zs[j]? with
    | none => rw [hz] at hv; simp at hv
    | some z => rw [hz] at hv; simp at hv; rw [← hv]; rfl
  have hrun := fun ty => run_copy_row Try.prog (w.alloc (.cells (madeCells #[.int .u8 0] n) 5)) 28 28 ty 5 w.heap.size 0 n n x n cap _ 5 ((zs.take n).map (Value.int .u8)) Try.underlying28 info5s hg (by rw [hl]; exact (Nat.min_self n).symm)
    (fun j v hv => by
      obtain ⟨hj, rfl⟩ := hat j v hv
      have hc := hcell j (by omega)
      have hlt := lt_of_cell hc
      rw [World.cell?_of_block (w := w) (Below.heap_alloc w _ _ hlt)]
      exact hc) (by rw [hl, hsz]; omega) (fun v hv => by
      simp only [List.mem_map] at hv
      obtain ⟨z, _, rfl⟩ := hv
      rfl)
  rw [hl] at hrun
  refine ⟨_, hrun, ?_, below_setRow ((Below.refl _ _).alloc (Nat.le_refl _) _) (Nat.le_refl _) _⟩
  intro i hi
  have hzi : zs.getD i 0 ∈ zs := by
    rw [List.getD_eq_getElem?_getD, List.getElem?_eq_getElem (show i < zs.length by omega)]
    exact List.getElem_mem _
  have hb := u8_of_wf (hwf _ hzi)
  refine ⟨w.heap.size, 0, rfl, by simp, ?_, by unfold tx; omega⟩
  rw [cell_setRow_same _ _ _ _ _ _ _ hg]
  have e : ((madeCells #[Value.int .u8 0] n).toList.take 0 ++ (zs.take n).map (Value.int .u8) ++ (madeCells #[Value.int .u8 0] n).toList.drop (0 + n)) = (zs.take n).map (Value.int .u8) := by
    rw [List.drop_of_length_le (by simp [hsz])]
    simp
  rw [e, Nat.zero_add]
  simp only [List.getElem?_toArray, List.getElem?_map]
  rw [List.getElem?_take_of_lt hi, List.getElem?_eq_getElem (show i < zs.length by omega)]
  unfold tx at *
  rw [List.getD_eq_getElem?_getD, List.getElem?_eq_getElem (show i < zs.length by omega)] at *
  simp at hb ⊢
  omega
end Go.Proofs.Qxb6603201a.Num
