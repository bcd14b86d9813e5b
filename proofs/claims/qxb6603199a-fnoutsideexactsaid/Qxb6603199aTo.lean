/-
  toProblems (function 16): a new row of the same pairs. And what a row of pairs of the call's own is good for.
-/
import Derived.Test.Qxb6603199aRows2
import Derived.RegionTactic
import Derived.ChangeAlike
import Derived.Deep.OwnRows
import Derived.Deep.Heap
namespace Go.Proofs.Qxb6603199a
open Go.RowKit
open Go.Deep
set_option linter.unusedVariables false
theorem info37 : (Try.prog.info? 37).map (fun i => (i.zero, i.size, i.bytes)) = some (some (.agg #[.string ⟨#[]⟩, .string ⟨#[]⟩]), 2, 32) := by kernel_rfl
theorem info35 : (Try.prog.info? 35).map (fun i => (i.zero, i.size, i.bytes)) = some (some (.agg #[.string ⟨#[]⟩, .string ⟨#[]⟩]), 2, 32) := by kernel_rfl

theorem make_pairs {P : Program} (t e : TypeId) (ht : P.underlying t = some (.slice e)) (hinfo : (P.info? e).map (fun i => (i.zero, i.size, i.bytes)) = some (some (.agg #[.string ⟨#[]⟩, .string ⟨#[]⟩]), 2, 32))
    (n : Nat) (hn : n ≤ 4096) (w : World) :
    (Instr.makeSlice t (.int .i64 (n : Int)) (.int .i64 (n : Int))).run P w = .ok (.slice (some ⟨w.heap.size, 0, none⟩) n n) (w.alloc (.cells (madeCells #[.string ⟨#[]⟩, .string ⟨#[]⟩] (n * 2)) e)) := by
  obtain ⟨i, hi, hzz⟩ := Option.map_eq_some_iff.1 hinfo
  simp only [Prod.mk.injEq] at hzz
  obtain ⟨hz, hs, hb⟩ := hzz
  have hr := run_make (P := P) w t e i _ ht hi hz .i64 .i64 n n (by omega) (Int.le_refl _) (by rw [hb]; omega) (by omega)
  simp only [Int.toNat_natCast, hs] at hr
  exact hr

/-- Pairs of strings, cell by cell. -/
def cellP (p m : Nat → ByteArray) (i : Nat) : Value := .string (if i % 2 = 0 then p (i / 2) else m (i / 2))
def emp : Nat → ByteArray := fun _ => ⟨#[]⟩
/-- The function p, at k: x. -/
def put (p : Nat → ByteArray) (k : Nat) (x : ByteArray) (i : Nat) : ByteArray := if i = k then x else p i
def upto (k : Nat) (p : Nat → ByteArray) (i : Nat) : ByteArray := if i < k then p i else ⟨#[]⟩

theorem cellP_even (p m : Nat → ByteArray) (k : Nat) : cellP p m (k * 2) = .string (p k) := by
  unfold cellP
  rw [if_pos (by omega), show k * 2 / 2 = k by omega]
theorem cellP_odd (p m : Nat → ByteArray) (k : Nat) : cellP p m (k * 2 + 1) = .string (m k) := by
  unfold cellP
  rw [if_neg (by omega), show (k * 2 + 1) / 2 = k by omega]

theorem cellP_congr {p m p' m' : Nat → ByteArray} {n : Nat} (hp : ∀ i, i < n → p i = p' i) (hm : ∀ i, i < n → m i = m' i) : ∀ i, i < n * 2 → cellP p m i = cellP p' m' i := by
  intro i hi
  unfold cellP
  by_cases h : i % 2 = 0
  · rw [if_pos h, if_pos h, hp _ (by omega)]
  · rw [if_neg h, if_neg h, hm _ (by omega)]

theorem made_row (w : World) (n : Nat) (t : TypeId) : (w.alloc (.cells (madeCells #[.string ⟨#[]⟩, .string ⟨#[]⟩] (n * 2)) t)).rowIs w.heap.size t (n * 2) (cellP emp emp) := by
  refine ⟨_, blk_alloc_new _ _, size_madeCells _ _, fun i hi => ?_⟩
  have : i % 2 = 0 ∨ i % 2 = 1 := by omega
  rcases this with h | h <;> simp [madeCells, hi, cellP, emp, h]

/-- A pair stored. -/
theorem row_put {w : World} {b t n : Nat} {p m : Nat → ByteArray} (h : w.rowIs b t (n * 2) (cellP p m)) (k : Nat) (x y : ByteArray) :
    ((w.setCell ⟨b, k * 2, none⟩ (.string x)).setCell ⟨b, k * 2 + 1, none⟩ (.string y)).rowIs b t (n * 2) (cellP (put p k x) (put m k y)) := by
  refine ((h.set (k * 2) (.string x)).set (k * 2 + 1) (.string y)).congr fun i _ => ?_
  by_cases h1 : i = k * 2 + 1
  · subst h1
    rw [if_pos rfl, cellP_odd]
    simp [put]
  · rw [if_neg h1]
    by_cases h0 : i = k * 2
    · subst h0
      rw [if_pos rfl, cellP_even]
      simp [put]
    · rw [if_neg h0]
      unfold cellP
      by_cases he : i % 2 = 0
      · rw [if_pos he, if_pos he]
        unfold put
        rw [if_neg (by omega)]
      · rw [if_neg he, if_neg he]
        unfold put
        rw [if_neg (by omega)]

theorem row_upto {w : World} {b t n k : Nat} {p m : Nat → ByteArray} (h : w.rowIs b t (n * 2) (cellP (upto k p) (upto k m))) :
    ((w.setCell ⟨b, k * 2, none⟩ (.string (p k))).setCell ⟨b, k * 2 + 1, none⟩ (.string (m k))).rowIs b t (n * 2) (cellP (upto (k + 1) p) (upto (k + 1) m)) := by
  have e : ∀ q : Nat → ByteArray, ∀ i, i < n → put (upto k q) k (q k) i = upto (k + 1) q i := by
    intro q i _
    unfold put upto
    by_cases h1 : i = k
    · rw [if_pos h1, if_pos (by omega), h1]
    · rw [if_neg h1]
      by_cases h2 : i < k
      · rw [if_pos h2, if_pos (by omega)]
      · rw [if_neg h2, if_neg (by omega)]
  exact (row_put h k (p k) (m k)).congr (cellP_congr (e p) (e m))

theorem row_full {w : World} {b t n k : Nat} {p m : Nat → ByteArray} (h : w.rowIs b t (n * 2) (cellP (upto k p) (upto k m))) (hk : n ≤ k) : w.rowIs b t (n * 2) (cellP p m) :=
  h.congr (cellP_congr (fun i hi => by unfold upto; rw [if_pos (by omega)]) (fun i hi => by unfold upto; rw [if_pos (by omega)]))

/-- A row of the call's own, read as a slice. -/
theorem row_row2 {w : World} {b t n : Nat} {p m : Nat → ByteArray} (h : w.rowIs b t (n * 2) (cellP p m)) (hp : Small n p m) : Row2 w (some ⟨b, 0, none⟩) n p m := by
  intro i hi
  have hs := hp i hi
  refine ⟨b, 0, rfl, h.lt, ?_, ?_, by unfold maxLen; omega, by unfold maxLen; omega⟩
  · have := h.cell (i := i * 2) (by omega)
    rw [cellP_even] at this
    rw [Nat.zero_add]; exact this
  · have := h.cell (i := i * 2 + 1) (by omega)
    rw [cellP_odd] at this
    rw [Nat.zero_add]; exact this

set_option maxHeartbeats 1000000 in
theorem to_some (a : Addr) (n c : Nat) (p m : Nat → ByteArray) (w : World) (h : Row2 w (some a) n p m) (hn : n ≤ 4096) :
    Calls Try.prog 16 #[.slice (some a) n c] w fun e w' => e = .returned (.slice (some ⟨w.heap.size, 0, none⟩) n n) ∧ w'.rowIs w.heap.size 37 (n * 2) (cellP p m) ∧ Below w.heap.size w w' ∧ w'.heap.size = w.heap.size + 1 := by
  have hmk := fun w => make_pairs (P := Try.prog) 32 37 Try.underlying32 info37 n hn w
  have hnil : ∀ w, (binOp .eql 28 (.slice (some a) n c) (.slice none 0 0)).run Try.prog w = .ok (.bool false) w := fun w => Lib.run_eql_slice_nil w 28 35 (some a) n c 0 0 Try.underlying28
  go_enter Try.func16, Try.ntmps16
  go_wp2
  clear hmk hnil
  go_loopg [4] n (fun g k wr => ∃ k' : Nat, g = n - k' ∧ k = .int .i64 k' ∧ k' ≤ n ∧ wr.rowIs w.heap.size 37 (n * 2) (cellP (upto k' p) (upto k' m)) ∧ Below w.heap.size w wr ∧ wr.heap.size = w.heap.size + 1)
  case atStart => exact ⟨0, rfl, rfl, by omega, made_row w n 37, (Below.refl _ _).alloc (Nat.le_refl _) _, by simp⟩
  case round =>
    obtain ⟨k, hgk, rfl, hk, hrow, hbel, hsz⟩ := hrel
    have HG := hide hgk
    have HS := hide hsz
    clear hgk hsz
    by_cases hlt : k < n
    · obtain ⟨b, off, ha, hb, hc0, hc1, _, _⟩ := h k hlt
      cases ha
      have g0 := (hbel.cell (p := ⟨b, off + k * 2, none⟩) hb).trans hc0
      have g1 := (hbel.cell (p := ⟨b, off + k * 2 + 1, none⟩) hb).trans hc1
      have e0 := hrow.cell (i := k * 2) (by omega)
      have e1 := hrow.cell (i := k * 2 + 1) (by omega)
      have f0 := hrow.frozen (k * 2)
      have f1 := hrow.frozen (k * 2 + 1)
      clear hc0 hc1 h
      go_wp2
      go_region
      go_wp2
      go_roundg (n - (k + 1))
      case rel => exact ⟨k + 1, rfl, by go_num, by omega, (row_upto hrow).drew, ((hbel.setCell (Nat.le_refl _) _).setCell (Nat.le_refl _) _).drew, by have := HS.out; simpa [World.setCell] using this⟩
      case measure => have := HG.out; omega
    · have hfull := row_full hrow (by omega)
      clear hrow
      go_wp2
      go_ret
      exact ⟨rfl, hfull, hbel, HS.out⟩

theorem to_nil (c : Nat) (n : Nat) (w : World) :
    Calls Try.prog 16 #[.slice none n c] w fun e w' => e = .returned (.slice none 0 0) ∧ w' = w := by
  have hnil : ∀ w, (binOp .eql 28 (.slice none n c) (.slice none 0 0)).run Try.prog w = .ok (.bool true) w := fun w => Lib.run_eql_slice_nil w 28 35 none n c 0 0 Try.underlying28
  go_enter Try.func16, Try.ntmps16
  go_wp2
  go_ret
  exact ⟨rfl, rfl⟩

/-- toProblems: a slice of the same pairs; nothing that was there has turned. -/
theorem to_any (a : Option Addr) (n c : Nat) (p m : Nat → ByteArray) (w : World) (h : Row2 w a n p m) (hs : Small n p m) (hn : n ≤ 4096) :
    Calls Try.prog 16 #[.slice a n c] w fun e w' => ∃ a' c', e = .returned (.slice a' n c') ∧ Row2 w' a' n p m ∧ Below w.heap.size w w' := by
  cases a with
  | none =>
    have h0 : n = 0 := by
      by_cases e : n = 0
      · exact e
      · obtain ⟨b, off, ha, _⟩ := h 0 (by omega)
        cases ha
    subst h0
    refine (to_nil c 0 w).mono ?_
    rintro e w' ⟨rfl, rfl⟩
    exact ⟨none, 0, rfl, fun i hi => by omega, Below.refl _ _⟩
  | some a =>
    refine (to_some a n c p m w h hn).mono ?_
    rintro e w' ⟨rfl, hr, hb, _⟩
    exact ⟨_, _, rfl, row_row2 hr hs, hb⟩
end Go.Proofs.Qxb6603199a
