/-
  WHICH CHECKS ARE KEPT: plain lists. And what an owned row of pairs is good for.
-/
import Derived.Test.Qxb6603199aTo
import Derived.Test.Qxb6603199aWithin
namespace Go.Proofs.Qxb6603199a
open Go.RowKit
open Go.Deep
set_option linter.unusedVariables false

/-- Is path c at or inside one of the first n decoded paths? -/
def knownB (p2 : Nat → ByteArray) (n : Nat) (c : ByteArray) : Bool := (List.range n).any fun j => wiB c (p2 j)
theorem knownB_zero (p2 : Nat → ByteArray) (c : ByteArray) : knownB p2 0 c = false := rfl
theorem knownB_succ (p2 : Nat → ByteArray) (n : Nat) (c : ByteArray) : knownB p2 (n + 1) c = (knownB p2 n c || wiB c (p2 n)) := by
  simp [knownB, List.range_succ]

/-- The places among the first k checks that are kept. -/
def keptL (p1 p2 : Nat → ByteArray) (n2 k : Nat) : List Nat := (List.range k).filter fun i => !knownB p2 n2 (p1 i)
theorem keptL_yes {p1 p2 : Nat → ByteArray} {n2 k : Nat} (h : knownB p2 n2 (p1 k) = false) : keptL p1 p2 n2 (k + 1) = keptL p1 p2 n2 k ++ [k] := by
  simp [keptL, List.range_succ, h]
theorem keptL_no {p1 p2 : Nat → ByteArray} {n2 k : Nat} (h : knownB p2 n2 (p1 k) = true) : keptL p1 p2 n2 (k + 1) = keptL p1 p2 n2 k := by
  simp [keptL, List.range_succ, h]
theorem keptL_le (p1 p2 : Nat → ByteArray) (n2 k : Nat) : (keptL p1 p2 n2 k).length ≤ k := by
  have := List.length_filter_le (fun i => !knownB p2 n2 (p1 i)) (List.range k)
  simpa [keptL] using this
theorem keptL_mem {p1 p2 : Nat → ByteArray} {n2 k j : Nat} (h : j < (keptL p1 p2 n2 k).length) : (keptL p1 p2 n2 k).getD j 0 < k := by
  have hm : (keptL p1 p2 n2 k).getD j 0 ∈ keptL p1 p2 n2 k := by
    rw [List.getD_eq_getElem?_getD, List.getElem?_eq_getElem h]
    exact List.getElem_mem h
  have := (List.mem_filter.1 hm).1
  exact List.mem_range.1 this

/-- The kept pairs, cell by cell. -/
def cellsK (p m : Nat → ByteArray) (l : List Nat) : List Value := l.flatMap fun i => [.string (p i), .string (m i)]
theorem cellsK_snoc (p m : Nat → ByteArray) (l : List Nat) (k : Nat) : cellsK p m (l ++ [k]) = cellsK p m l ++ [.string (p k), .string (m k)] := by
  simp [cellsK]
theorem cellsK_len (p m : Nat → ByteArray) : ∀ l : List Nat, (cellsK p m l).length = l.length * 2
  | [] => rfl
  | a :: l => by
    have := cellsK_len p m l
    simp only [cellsK, List.flatMap_cons, List.length_append, List.length_cons, List.length_nil] at this ⊢
    omega
theorem cellsK_even (p m : Nat → ByteArray) : ∀ (l : List Nat) (j : Nat), j < l.length → (cellsK p m l)[j * 2]? = some (.string (p (l.getD j 0)))
  | [], j, h => absurd h (Nat.not_lt_zero _)
  | a :: l, 0, h => rfl
  | a :: l, j + 1, h => by
    have := cellsK_even p m l j (by simpa using h)
    have e : (j + 1) * 2 = j * 2 + 2 := by omega
    rw [e]
    show (cellsK p m l)[j * 2]? = _
    rw [this]
    rfl
theorem cellsK_odd (p m : Nat → ByteArray) : ∀ (l : List Nat) (j : Nat), j < l.length → (cellsK p m l)[j * 2 + 1]? = some (.string (m (l.getD j 0)))
  | [], j, h => absurd h (Nat.not_lt_zero _)
  | a :: l, 0, h => rfl
  | a :: l, j + 1, h => by
    have := cellsK_odd p m l j (by simpa using h)
    have e : (j + 1) * 2 + 1 = j * 2 + 1 + 2 := by omega
    rw [e]
    show (cellsK p m l)[j * 2 + 1]? = _
    rw [this]
    rfl

/-- 'Below', as the laws on owned rows want it. -/
theorem grown_of_below {w w' : World} (h : Below w.heap.size w w') : w.grownBy w' none :=
  ⟨h.os, h.tape, h.output, h.size, fun k hk _ => h.block k hk⟩
theorem owns_below {w w' : World} {base e size n : Nat} {v : Value} {xs : List Value} (h : w.ownsRow base e size v n xs) (hb : Below w.heap.size w w') : w'.ownsRow base e size v n xs :=
  h.kept (grown_of_below hb) (by cases hv : v.ownBlock with
    | none => exact .inl rfl
    | some k => exact .inr (by simp))
end Go.Proofs.Qxb6603199a
