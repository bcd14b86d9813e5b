/-
  byteAt (20), skipDigits (22), numberStep (19), numberModel (14): what they compute, over a slice of bytes.
-/
import Derived.Test.Qxb6603201aRows
import Derived.Test.Qxb6603201aNum
import Derived.WalkKit
import Derived.WalkSpells
import Derived.WalkLawsBesides
import Derived.Deep.LoopGhost
import Derived.Deep.Light
namespace Go.Proofs.Qxb6603201a.Num
open Go.RowKit
set_option linter.unusedVariables false
set_option linter.unusedSimpArgs false

/-- WHAT A WALK IS TOLD OF A SLICE OF BYTES: element i's cell. -/
def Row1 (w : World) (a : Option Addr) (n : Nat) (t : Nat → Nat) : Prop :=
  ∀ i, i < n → ∃ b off, a = some ⟨b, off, none⟩ ∧ b < w.heap.size ∧ w.cell? ⟨b, off + i, none⟩ = some (.int .u8 (t i)) ∧ t i < 256

theorem ba_in {t : Nat → Nat} {n i : Nat} (h : i < n) : ba t n i = t i := by unfold ba; rw [if_pos h]
theorem ba_out {t : Nat → Nat} {n i : Nat} (h : ¬ i < n) : ba t n i = 0 := by unfold ba; rw [if_neg h]

theorem byteAt_any (a : Option Addr) (n c i : Nat) (t : Nat → Nat) (w : World) (h : Row1 w a n t) (hn : n ≤ 1048576) (hi : i ≤ 9223372036854775807) :
    Calls Try.prog 20 #[.slice a n c, .int .i64 i] w fun e w' => e = .returned (.int .u8 (ba t n i)) ∧ w = w' := by
  by_cases hlt : i < n
  · obtain ⟨b, off, rfl, hb, hc, _⟩ := h i hlt
    have HB := hide (ba_in (t := t) hlt)
    go_enter Try.func20, Try.ntmps20
    go_wp2
    go_ret
    exact ⟨by rw [HB.out]; rfl, rfl⟩
  · have HB := hide (ba_out (t := t) hlt)
    go_enter Try.func20, Try.ntmps20
    go_wp2
    go_ret
    exact ⟨by rw [HB.out]; rfl, rfl⟩

set_option maxHeartbeats 400000 in
theorem skipDigits_any (a : Option Addr) (n c i : Nat) (t : Nat → Nat) (w : World) (h : Row1 w a n t) (hn : n ≤ 1048576) (hi : i ≤ 9223372036854775807) :
    Calls Try.prog 22 #[.slice a n c, .int .i64 i] w fun e w' => (∃ j : Nat, e = .returned (.int .i64 j) ∧ SD t n i j) ∧ w = w' := by
  go_enter Try.func22, Try.ntmps22
  go_wp2
  go_loopg [1] (n - i) (fun g k wr => w = wr ∧ ∃ j : Nat, g = n - j ∧ k = .int .i64 j ∧ j ≤ 9223372036854775807 ∧ i ≤ j ∧ ∀ k, i ≤ k → k < j → k < n ∧ dig (t k))
  case atStart => exact ⟨rfl, i, rfl, rfl, hi, SD.start⟩
  case round =>
    obtain ⟨hwr, j, hgk, rfl, hj, hij, hall⟩ := hrel
    subst hwr
    have HG := hide hgk
    have HA := hide hall
    clear hgk hall
    by_cases hlt : j < n
    · obtain ⟨b, off, rfl, hb, hc, ht⟩ := h j hlt
      by_cases hd : dig (t j)
      · obtain ⟨d1, d2⟩ := hd
        go_wp2
        go_roundg (n - (j + 1))
        case rel =>
          refine ⟨rfl, j + 1, rfl, by go_num, by omega, by omega, fun k k1 k2 => ?_⟩
          by_cases e : k = j
          · rw [e]; exact ⟨hlt, d1, d2⟩
          · exact HA.out k k1 (by omega)
        case measure => have := HG.out; omega
      · have hd' : t j < 48 ∨ 57 < t j := by unfold dig at hd; omega
        have HD := hide hd
        clear hd
        rcases hd' with hd' | hd'
        all_goals
          go_wp2
          go_ret
          exact ⟨⟨j, rfl, hij, HA.out, fun h => HD.out h.2⟩, rfl⟩
    · go_wp2
      go_ret
      exact ⟨⟨j, rfl, hij, HA.out, fun h => hlt h.1⟩, rfl⟩

/-- The state as Go's int: -1 for none. -/
def st (s : Nat) : Int := if s = 9 then -1 else s

theorem ret_int {k : IntKind} {a b : Int} (h : b = a) : Ending.returned (.int k a) = .returned (.int k b) := by rw [h]

set_option maxHeartbeats 1000000 in
theorem step_0 (c : Nat) (w : World) (hc : c < 256) : Calls Try.prog 19 #[.int .i64 0, .int .u8 c] w fun e w' => e = .returned (.int .i64 (st (stp 0 c))) ∧ w = w' := by
  go_enter Try.func19, Try.ntmps19
  go_wp2
  all_goals
    go_ret
    refine ⟨ret_int ?_, rfl⟩
    go_light
    try simp only [beq_iff_eq, beq_eq_false_iff_ne] at *
    simp [st, stp] <;> first | omega | (repeat' split) <;> omega

set_option maxHeartbeats 1000000 in
theorem step_1 (c : Nat) (w : World) (hc : c < 256) : Calls Try.prog 19 #[.int .i64 1, .int .u8 c] w fun e w' => e = .returned (.int .i64 (st (stp 1 c))) ∧ w = w' := by
  go_enter Try.func19, Try.ntmps19
  go_wp2
  all_goals
    go_ret
    refine ⟨ret_int ?_, rfl⟩
    go_light
    try simp only [beq_iff_eq, beq_eq_false_iff_ne] at *
    simp [st, stp] <;> first | omega | (repeat' split) <;> omega

set_option maxHeartbeats 1000000 in
theorem step_2 (c : Nat) (w : World) (hc : c < 256) : Calls Try.prog 19 #[.int .i64 2, .int .u8 c] w fun e w' => e = .returned (.int .i64 (st (stp 2 c))) ∧ w = w' := by
  go_enter Try.func19, Try.ntmps19
  go_wp2
  all_goals
    go_ret
    refine ⟨ret_int ?_, rfl⟩
    go_light
    try simp only [beq_iff_eq, beq_eq_false_iff_ne] at *
    simp [st, stp] <;> first | omega | (repeat' split) <;> omega

set_option maxHeartbeats 1000000 in
theorem step_3 (c : Nat) (w : World) (hc : c < 256) : Calls Try.prog 19 #[.int .i64 3, .int .u8 c] w fun e w' => e = .returned (.int .i64 (st (stp 3 c))) ∧ w = w' := by
  go_enter Try.func19, Try.ntmps19
  go_wp2
  all_goals
    go_ret
    refine ⟨ret_int ?_, rfl⟩
    go_light
    try simp only [beq_iff_eq, beq_eq_false_iff_ne] at *
    simp [st, stp] <;> first | omega | (repeat' split) <;> omega

set_option maxHeartbeats 1000000 in
theorem step_4 (c : Nat) (w : World) (hc : c < 256) : Calls Try.prog 19 #[.int .i64 4, .int .u8 c] w fun e w' => e = .returned (.int .i64 (st (stp 4 c))) ∧ w = w' := by
  go_enter Try.func19, Try.ntmps19
  go_wp2
  all_goals
    go_ret
    refine ⟨ret_int ?_, rfl⟩
    go_light
    try simp only [beq_iff_eq, beq_eq_false_iff_ne] at *
    simp [st, stp] <;> first | omega | (repeat' split) <;> omega

set_option maxHeartbeats 1000000 in
theorem step_5 (c : Nat) (w : World) (hc : c < 256) : Calls Try.prog 19 #[.int .i64 5, .int .u8 c] w fun e w' => e = .returned (.int .i64 (st (stp 5 c))) ∧ w = w' := by
  go_enter Try.func19, Try.ntmps19
  go_wp2
  all_goals
    go_ret
    refine ⟨ret_int ?_, rfl⟩
    go_light
    try simp only [beq_iff_eq, beq_eq_false_iff_ne] at *
    simp [st, stp] <;> first | omega | (repeat' split) <;> omega

set_option maxHeartbeats 1000000 in
theorem step_6 (c : Nat) (w : World) (hc : c < 256) : Calls Try.prog 19 #[.int .i64 6, .int .u8 c] w fun e w' => e = .returned (.int .i64 (st (stp 6 c))) ∧ w = w' := by
  go_enter Try.func19, Try.ntmps19
  go_wp2
  all_goals
    go_ret
    refine ⟨ret_int ?_, rfl⟩
    go_light
    try simp only [beq_iff_eq, beq_eq_false_iff_ne] at *
    simp [st, stp] <;> first | omega | (repeat' split) <;> omega

set_option maxHeartbeats 1000000 in
theorem step_7 (c : Nat) (w : World) (hc : c < 256) : Calls Try.prog 19 #[.int .i64 7, .int .u8 c] w fun e w' => e = .returned (.int .i64 (st (stp 7 c))) ∧ w = w' := by
  go_enter Try.func19, Try.ntmps19
  go_wp2
  all_goals
    go_ret
    refine ⟨ret_int ?_, rfl⟩
    go_light
    try simp only [beq_iff_eq, beq_eq_false_iff_ne] at *
    simp [st, stp] <;> first | omega | (repeat' split) <;> omega

set_option maxHeartbeats 1000000 in
theorem step_8 (c : Nat) (w : World) (hc : c < 256) : Calls Try.prog 19 #[.int .i64 8, .int .u8 c] w fun e w' => e = .returned (.int .i64 (st (stp 8 c))) ∧ w = w' := by
  go_enter Try.func19, Try.ntmps19
  go_wp2
  all_goals
    go_ret
    refine ⟨ret_int ?_, rfl⟩
    go_light
    try simp only [beq_iff_eq, beq_eq_false_iff_ne] at *
    simp [st, stp] <;> first | omega | (repeat' split) <;> omega

end Go.Proofs.Qxb6603201a.Num
