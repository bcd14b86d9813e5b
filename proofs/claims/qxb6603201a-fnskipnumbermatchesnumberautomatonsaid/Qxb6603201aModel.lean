/-
  numberModel (14): where the automaton halts.
-/
import Derived.Test.Qxb6603201aLeaf
namespace Go.Proofs.Qxb6603201a.Num
open Go.RowKit
set_option linter.unusedVariables false

theorem nine {s : Nat} (h : s ≤ 8) : s = 0 ∨ s = 1 ∨ s = 2 ∨ s = 3 ∨ s = 4 ∨ s = 5 ∨ s = 6 ∨ s = 7 ∨ s = 8 := by omega

theorem step_any (s c : Nat) (w : World) (hs : s ≤ 8) (hc : c < 256) : Calls Try.prog 19 #[.int .i64 s, .int .u8 c] w fun e w' => e = .returned (.int .i64 (st (stp s c))) ∧ w = w' := by
  rcases nine hs with rfl | rfl | rfl | rfl | rfl | rfl | rfl | rfl | rfl
  · exact step_0 c w hc
  · exact step_1 c w hc
  · exact step_2 c w hc
  · exact step_3 c w hc
  · exact step_4 c w hc
  · exact step_5 c w hc
  · exact step_6 c w hc
  · exact step_7 c w hc
  · exact step_8 c w hc

theorem stp_le (s c : Nat) (h : stp s c ≠ 9) : stp s c ≤ 8 := by
  have : stp s c ≤ 9 := by
    unfold stp
    (repeat' split) <;> omega
  omega

set_option maxHeartbeats 2000000 in
theorem model_any (a : Option Addr) (n c i : Nat) (t : Nat → Nat) (w : World) (h : Row1 w a n t) (hn : n ≤ 1048576) (hi : i ≤ 9223372036854775807) :
    Calls Try.prog 14 #[.slice a n c, .int .i64 i] w fun e w' => (∃ j s : Nat, e = .returned (.tuple #[.int .i64 j, .bool (acc s)]) ∧ To t n 0 i s j ∧ Stuck t n s j) ∧ w = w' := by
  go_enter Try.func14, Try.ntmps14
  go_wp2_with fail
  go_loopg [6, 7] (n - i) (fun g sv k wr => w = wr ∧ ∃ j s : Nat, g = n - j ∧ sv = .int .i64 s ∧ k = .int .i64 j ∧ j ≤ 9223372036854775807 ∧ s ≤ 8 ∧ To t n 0 i s j)
  case atStart => exact ⟨rfl, i, 0, rfl, rfl, rfl, hi, by omega, To.refl _ _ _ _⟩
  case round =>
    obtain ⟨hwr, j, s, hgk, rfl, rfl, hj, hs, hto⟩ := hrel
    subst hwr
    have HG := hide hgk
    clear hgk
    by_cases hlt : j < n
    · obtain ⟨b, off, rfl, hb, hc, ht⟩ := h j hlt
      by_cases h9 : stp s (t j) = 9
      · have hk : Stuck t n s j := fun hx => hx.2 h9
        have HC : Hid (∀ w, Calls Try.prog 19 #[.int .i64 s, .int .u8 (t j)] w fun e w' => e = .returned (.int .i64 (-1)) ∧ w = w') := hide fun w => by
          have := step_any s (t j) w hs ht
          rw [h9] at this
          exact this
        clear h9
        go_wp2_with fail
        refine (HC.out _).mono ?_
        rintro e w1 ⟨rfl, rfl⟩
        rcases nine hs with rfl | rfl | rfl | rfl | rfl | rfl | rfl | rfl | rfl
        all_goals
          go_wp2_with fail
          go_ret2
          exact ⟨⟨j, _, rfl, hto, hk⟩, rfl⟩
      · have hto2 := hto.snoc hlt rfl h9
        have hle := stp_le s (t j) h9
        have HC : Hid (∀ w, Calls Try.prog 19 #[.int .i64 s, .int .u8 (t j)] w fun e w' => e = .returned (.int .i64 (stp s (t j) : Nat)) ∧ w = w') := hide fun w => by
          have := step_any s (t j) w hs ht
          rw [show st (stp s (t j)) = ((stp s (t j) : Nat) : Int) from by unfold st; rw [if_neg h9]] at this
          exact this
        clear h9 hto
        generalize stp s (t j) = s2 at *
        have hne : ((s2 : Int) == -1) = false := beq_eq_false_iff_ne.2 (by omega)
        go_wp2_with fail
        refine (HC.out _).mono ?_
        rintro e w1 ⟨rfl, rfl⟩
        go_wp2_with fail
        go_roundg (n - (j + 1))
        case rel => exact ⟨rfl, j + 1, s2, rfl, rfl, by go_num, by omega, hle, hto2⟩
        case measure => have := HG.out; omega
    · have hk : Stuck t n s j := fun hx => hlt hx.1
      rcases nine hs with rfl | rfl | rfl | rfl | rfl | rfl | rfl | rfl | rfl
      all_goals
        go_wp2_with fail
        go_ret2
        exact ⟨⟨j, _, rfl, hto, hk⟩, rfl⟩
end Go.Proofs.Qxb6603201a.Num
