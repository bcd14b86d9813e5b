/-
  SLICES OF PAIRS OF STRINGS: what a walk is told of one that came in; zzBytes_FnOutsideExact (14) and pmBytes (15) over them.
-/
import Derived.Test.Qxb6603199aRows
import Derived.Test.Qxb6603199aPlain
import Derived.WalkKit
import Derived.WalkSpells
import Derived.WalkLawsBesides
import Derived.Deep.LoopGhost
import Derived.Deep.QuietTactic
import Derived.BigQuiet
namespace Go.Proofs.Qxb6603199a
open Go.RowKit
set_option linter.unusedVariables false

/-- WHAT A WALK IS TOLD OF A SLICE OF PAIRS OF STRINGS: element i's two cells. -/
def Row2 (w : World) (a : Option Addr) (n : Nat) (p m : Nat → ByteArray) : Prop :=
  ∀ i, i < n → ∃ b off, a = some ⟨b, off, none⟩ ∧ b < w.heap.size ∧ w.cell? ⟨b, off + i * 2, none⟩ = some (.string (p i)) ∧ w.cell? ⟨b, off + i * 2 + 1, none⟩ = some (.string (m i)) ∧ (p i).size ≤ maxLen ∧ (m i).size ≤ maxLen

theorem Row2.below {w w' : World} {a : Option Addr} {n : Nat} {p m : Nat → ByteArray} {B : Nat} (h : Row2 w a n p m) (hb : Below B w w') (hB : w.heap.size ≤ B) : Row2 w' a n p m := by
  intro i hi
  obtain ⟨b, off, ha, hlt, h0, h1, h2⟩ := h i hi
  exact ⟨b, off, ha, Nat.lt_of_lt_of_le hlt hb.size, (hb.cell (p := ⟨b, off + i * 2, none⟩) (show b < B by omega)).trans h0, (hb.cell (p := ⟨b, off + i * 2 + 1, none⟩) (show b < B by omega)).trans h1, h2⟩

/-- The lengths are small. -/
def Small (n : Nat) (p m : Nat → ByteArray) : Prop := ∀ i, i < n → (p i).size ≤ 1048576 ∧ (m i).size ≤ 1048576
theorem Small.start (p m : Nat → ByteArray) : Small 0 p m := fun i hi => by omega
theorem Small.next {n : Nat} {p m : Nat → ByteArray} (h : Small n p m) (h1 : (p n).size ≤ 1048576) (h2 : (m n).size ≤ 1048576) : Small (n + 1) p m := by
  intro i hi
  by_cases e : i = n
  · rw [e]; exact ⟨h1, h2⟩
  · exact h i (by omega)
theorem Small.eq {n k : Nat} {p m : Nat → ByteArray} (h : Small k p m) (hk : n ≤ k) : Small n p m := fun i hi => h i (by omega)

set_option maxHeartbeats 1000000 in
theorem zz_any (a1 a2 : Option Addr) (n1 c1 n2 c2 : Nat) (p1 m1 p2 m2 : Nat → ByteArray) (w : World) (h1 : Row2 w a1 n1 p1 m1) (h2 : Row2 w a2 n2 p2 m2) (hn1 : n1 ≤ maxLen) (hn2 : n2 ≤ maxLen) :
    Calls Try.prog 14 #[.slice a1 n1 c1, .slice a2 n2 c2] w fun e w' => (∃ b : Bool, e = .returned (.bool b) ∧ (b = true → Small n1 p1 m1 ∧ Small n2 p2 m2)) ∧ w' = w := by
  unfold maxLen at hn1 hn2
  go_enter Try.func14, Try.ntmps14
  go_wp2
  all_goals try (go_ret; exact ⟨⟨false, rfl, fun h => by simp at h⟩, rfl⟩)
  go_loopg [5, 6] n1 (fun g z k wr => w = wr ∧ ∃ (k' : Nat) (z' : Int), g = n1 - k' ∧ k = .int .i64 k' ∧ z = .int .i64 z' ∧ 0 ≤ z' ∧ z' ≤ 1048576 ∧ k' ≤ n1 ∧ Small k' p1 m1)
  case atStart => exact ⟨rfl, 0, _, rfl, rfl, rfl, by omega, by omega, by omega, Small.start _ _⟩
  case round =>
    obtain ⟨hwr, k, z, hgk, rfl, rfl, hz0, hz1, hk, hall⟩ := hrel
    subst hwr
    have HG := hide hgk
    clear hgk
    by_cases hlt : k < n1
    · obtain ⟨b, off, ha, hb, hc0, hc1, hs0, hs1⟩ := h1 k hlt
      unfold maxLen at hs0 hs1
      subst ha
      go_wp2
      all_goals try (go_ret; exact ⟨⟨false, rfl, fun h => by simp at h⟩, rfl⟩)
      go_roundg (n1 - (k + 1))
      case rel => exact ⟨rfl, k + 1, _, rfl, by go_num, rfl, by omega, by omega, by omega, hall.next (by omega) (by omega)⟩
      case measure => have := HG.out; omega
    · have hs1 : Small n1 p1 m1 := hall.eq (by omega)
      clear hall
      go_wp2
      all_goals try (go_ret; exact ⟨⟨false, rfl, fun h => by simp at h⟩, rfl⟩)
      go_loopg [5, 7] n2 (fun g z k wr => w = wr ∧ ∃ (k' : Nat) (z' : Int), g = n2 - k' ∧ k = .int .i64 k' ∧ z = .int .i64 z' ∧ 0 ≤ z' ∧ z' ≤ 1048576 ∧ k' ≤ n2 ∧ Small k' p2 m2)
      case atStart => exact ⟨rfl, 0, _, rfl, rfl, rfl, by omega, by omega, by omega, Small.start _ _⟩
      case round =>
        obtain ⟨hwr, k2, z2, hgk, rfl, rfl, hz20, hz21, hk2, hall⟩ := hrel
        subst hwr
        have HG2 := hide hgk
        clear hgk
        by_cases hlt2 : k2 < n2
        · obtain ⟨b, off, ha, hb, hc0, hc1, hs20, hs21⟩ := h2 k2 hlt2
          unfold maxLen at hs20 hs21
          subst ha
          go_wp2
          all_goals try (go_ret; exact ⟨⟨false, rfl, fun h => by simp at h⟩, rfl⟩)
          go_roundg (n2 - (k2 + 1))
          case rel => exact ⟨rfl, k2 + 1, _, rfl, by go_num, rfl, by omega, by omega, by omega, hall.next (by omega) (by omega)⟩
          case measure => have := HG2.out; omega
        · have hs2 : Small n2 p2 m2 := hall.eq (by omega)
          clear hall
          go_wp2
          go_ret
          exact ⟨⟨true, rfl, fun _ => ⟨hs1, hs2⟩⟩, rfl⟩

set_option maxHeartbeats 1000000 in
theorem pm_any (a : Option Addr) (n c : Nat) (p m : Nat → ByteArray) (w : World) (h : Row2 w a n p m) (hs : Small n p m) (hn : n ≤ 4096) :
    Calls Try.prog 15 #[.slice a n c] w fun e w' => (∃ x : Int, e = .returned (.int .i64 x) ∧ 0 ≤ x ∧ x ≤ 2097152) ∧ ∃ q, w' = w.drewN q := by
  go_enter Try.func15, Try.ntmps15
  go_wp2
  go_loopg [3, 4] n (fun g z k wr => (∃ q, wr = w.drewN q) ∧ ∃ (k' : Nat) (z' : Int), g = n - k' ∧ k = .int .i64 k' ∧ z = .int .i64 z' ∧ 0 ≤ z' ∧ z' ≤ 1048576 ∧ k' ≤ n)
  case atStart => exact ⟨⟨0, rfl⟩, 0, _, rfl, rfl, rfl, by omega, by omega, by omega⟩
  case round =>
    obtain ⟨⟨q, hwr⟩, k, z, hgk, rfl, rfl, hz0, hz1, hk⟩ := hrel
    subst hwr
    have HG := hide hgk
    clear hgk
    by_cases hlt : k < n
    · obtain ⟨b, off, ha, hb, hc0, hc1, _, _⟩ := h k hlt
      obtain ⟨hs0, hs1⟩ := hs k hlt
      subst ha
      go_wp2
      go_quiet (fail)
      go_wp2
      · go_ret
        exact ⟨⟨_, rfl, by omega, by omega⟩, _, rfl⟩
      · go_roundg (n - (k + 1))
        case rel => exact ⟨⟨_, rfl⟩, k + 1, _, rfl, by go_num, rfl, by omega, by omega, by omega⟩
        case measure => have := HG.out; omega
    · go_wp2
      go_ret
      exact ⟨⟨_, rfl, by omega, by omega⟩, q, rfl⟩
end Go.Proofs.Qxb6603199a
