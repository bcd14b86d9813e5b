/-
  zzDeltas (8), iowaitPercentSince (12), ZZIowaitPercentSince (9), zzSameFloat (10).
-/
import Derived.Test.Qxb6603278aRows
import Derived.Test.Qxb6603278aFloat
import Derived.WalkKit
import Derived.WalkSpells
import Derived.WalkLawsBesides
import Derived.Deep.LoopGhost
import Derived.Deep.QuietTactic
import Derived.BigQuiet
namespace Go.Proofs.Qxb6603278a
open Go.RowKit
set_option linter.unusedVariables false

theorem hide {p : Prop} (h : p) : Hid p := h

/-- What was counted, and its sum. -/
def D (X Y : Nat → Nat) (k : Nat) : Nat := X k - Y k
def S (X Y : Nat → Nat) : Nat → Nat
  | 0 => 0
  | k + 1 => S X Y k + D X Y k
def I4 (X Y : Nat → Nat) (k : Nat) : Nat := if 4 < k then D X Y 4 else 0

/-- What zzDeltas answers. -/
def DP (X Y : Nat → Nat) (e : Ending) : Prop := ∃ (s i : Nat) (b : Bool), e = .returned (.tuple #[.int .u64 s, .int .u64 i, .bool b]) ∧ (b = true → s = S X Y 8 ∧ i = D X Y 4 ∧ S X Y 8 ≤ 90071992547409)
theorem DP.no (X Y : Nat → Nat) : DP X Y (.returned (.tuple #[.int .u64 0, .int .u64 0, .bool false])) := ⟨0, 0, false, rfl, fun h => by simp at h⟩
theorem int_of {k : IntKind} {a b : Int} (h : a = b) : Value.int k a = Value.int k b := by rw [h]

/-- The two readings, boxed in blocks B and B + 1. -/
def Boxes (w : World) (B : Nat) (X Y : Nat → Nat) : Prop := (∀ k, k < 8 → w.cell? ⟨B, k, none⟩ = some (.int .u64 (X k))) ∧ (∀ k, k < 8 → w.cell? ⟨B + 1, k, none⟩ = some (.int .u64 (Y k)))

theorem eight {k : Nat} (h : k < 8) : k = 0 ∨ k = 1 ∨ k = 2 ∨ k = 3 ∨ k = 4 ∨ k = 5 ∨ k = 6 ∨ k = 7 := by omega

theorem boxes_start (w : World) (X Y : Nat → Nat) (t : TypeId) : Boxes ((w.alloc (.cells #[.int .u64 (X 0), .int .u64 (X 1), .int .u64 (X 2), .int .u64 (X 3), .int .u64 (X 4), .int .u64 (X 5), .int .u64 (X 6), .int .u64 (X 7)] t)).alloc
    (.cells #[.int .u64 (Y 0), .int .u64 (Y 1), .int .u64 (Y 2), .int .u64 (Y 3), .int .u64 (Y 4), .int .u64 (Y 5), .int .u64 (Y 6), .int .u64 (Y 7)] t)) w.heap.size X Y := by
  refine ⟨fun k hk => ?_, fun k hk => ?_⟩
  · rcases eight hk with rfl | rfl | rfl | rfl | rfl | rfl | rfl | rfl <;> simp
  · rcases eight hk with rfl | rfl | rfl | rfl | rfl | rfl | rfl | rfl <;> simp

theorem Boxes.drewN {w : World} {B : Nat} {X Y : Nat → Nat} (h : Boxes w B X Y) (q : Nat) : Boxes (w.drewN q) B X Y := h
theorem drewN_below (w : World) (B q : Nat) : Below B w (w.drewN q) := ⟨rfl, rfl, rfl, Nat.le_refl _, fun _ _ => rfl⟩

theorem I4_step {X Y : Nat → Nat} {k : Nat} (h : k ≠ 4) : I4 X Y (k + 1) = I4 X Y k := by
  unfold I4
  by_cases h2 : 4 < k
  · rw [if_pos h2, if_pos (by omega)]
  · rw [if_neg h2, if_neg (by omega)]

set_option maxHeartbeats 1000000 in
theorem deltas_any (X Y : Nat → Nat) (w : World) (hX : ∀ k, X k < 18446744073709551616) (hY : ∀ k, Y k < 18446744073709551616) :
    Calls Try.prog 8 #[.agg #[.int .u64 (X 0), .int .u64 (X 1), .int .u64 (X 2), .int .u64 (X 3), .int .u64 (X 4), .int .u64 (X 5), .int .u64 (X 6), .int .u64 (X 7)],
      .agg #[.int .u64 (Y 0), .int .u64 (Y 1), .int .u64 (Y 2), .int .u64 (Y 3), .int .u64 (Y 4), .int .u64 (Y 5), .int .u64 (Y 6), .int .u64 (Y 7)]] w
      fun e w' => DP X Y e ∧ Below w.heap.size w w' := by
  have HX := hide hX
  have HY := hide hY
  clear hX hY
  go_enter Try.func8, Try.ntmps8
  go_wp2
  go_loopg [7, 8, 9] 8 (fun g sv iv kv wr => ∃ k : Nat, g = 8 - k ∧ sv = .int .u64 (S X Y k) ∧ iv = .int .u64 (I4 X Y k) ∧ kv = .int .i64 k ∧ k ≤ 8 ∧ S X Y k ≤ 90071992547409 ∧ Boxes wr w.heap.size X Y ∧ Below w.heap.size w wr)
  case atStart => exact ⟨0, rfl, rfl, rfl, rfl, by omega, Nat.zero_le _, boxes_start w X Y 23, ((Below.refl _ _).alloc (Nat.le_refl _) _).alloc (by simp) _⟩
  case round =>
    obtain ⟨k, hgk, rfl, rfl, rfl, hk, hS, hbx, hbel⟩ := hrel
    have HG := hide hgk
    clear hgk
    by_cases hlt : k < 8
    · have x0 := hbx.1 k hlt
      have y0 := hbx.2 k hlt
      have hxk : X k ≤ 18446744073709551615 := by have := HX.out k; omega
      have hyk : Y k ≤ 18446744073709551615 := by have := HY.out k; omega
      by_cases hgt : Y k < X k
      · by_cases hbig : 90071992547409 < X k - Y k
        · have hbig' : (90071992547409 : Int) < (X k : Int) - (Y k : Int) := by omega
          clear hbig
          go_wp2_with fail
          go_quiet (fail)
          go_wp2_with fail
          go_quiet (fail)
          go_wp2_with fail
          go_ret3
          exact ⟨DP.no X Y, hbel.trans (drewN_below _ _ _)⟩
        · have hsm : (X k : Int) - (Y k : Int) ≤ 90071992547409 := by omega
          by_cases hsum : 90071992547409 - (X k - Y k) < S X Y k
          · have hsum' : (90071992547409 : Int) - ((X k : Int) - (Y k : Int)) < (S X Y k : Int) := by omega
            clear hbig hsum
            go_wp2_with fail
            go_quiet (fail)
            go_wp2_with fail
            go_quiet (fail)
            go_wp2_with fail
            go_ret3
            exact ⟨DP.no X Y, hbel.trans (drewN_below _ _ _)⟩
          · have hsum' : (S X Y k : Int) ≤ (90071992547409 : Int) - ((X k : Int) - (Y k : Int)) := by omega
            have hS1 : Hid (((S X Y k : Nat) : Int) + ((X k : Int) - (Y k : Int)) = ((S X Y (k + 1) : Nat) : Int)) := hide (by simp only [S, D]; omega)
            have hS2 : Hid (S X Y (k + 1) ≤ 90071992547409) := hide (by simp only [S, D]; omega)
            clear hbig hsum
            by_cases h4 : k = 4
            · have hq : ((k : Int) == 4) = true := by simp; omega
              have hI : Hid ((X k : Int) - (Y k : Int) = ((I4 X Y (k + 1) : Nat) : Int)) := hide (by subst h4; simp only [I4, D]; rw [if_pos (by omega)]; omega)
              clear h4
              go_wp2_with fail
              go_quiet (fail)
              go_wp2_with fail
              go_quiet (fail)
              go_wp2_with fail
              go_roundg (8 - (k + 1))
              case rel => exact ⟨k + 1, rfl, int_of hS1.out, int_of hI.out, by go_num, by omega, hS2.out, hbx.drewN _, hbel.trans (drewN_below _ _ _)⟩
              case measure => have := HG.out; omega
            · have hq : ((k : Int) == 4) = false := by simp; omega
              have hI := hide (I4_step (X := X) (Y := Y) h4)
              clear h4
              go_wp2_with fail
              go_quiet (fail)
              go_wp2_with fail
              go_quiet (fail)
              go_wp2_with fail
              go_roundg (8 - (k + 1))
              case rel => exact ⟨k + 1, rfl, int_of hS1.out, by rw [hI.out], by go_num, by omega, hS2.out, hbx.drewN _, hbel.trans (drewN_below _ _ _)⟩
              case measure => have := HG.out; omega
      · have hS1 : Hid (S X Y (k + 1) = S X Y k) := hide (by simp only [S, D]; omega)
        by_cases h4 : k = 4
        · have hq : ((k : Int) == 4) = true := by simp; omega
          have hI : Hid (I4 X Y (k + 1) = 0) := hide (by subst h4; simp only [I4, D]; rw [if_pos (by omega)]; omega)
          clear h4
          go_wp2_with fail
          go_quiet (fail)
          go_wp2_with fail
          go_roundg (8 - (k + 1))
          case rel => exact ⟨k + 1, rfl, by rw [hS1.out], by rw [hI.out]; rfl, by go_num, by omega, by rw [hS1.out]; exact hS, hbx.drewN _, hbel.trans (drewN_below _ _ _)⟩
          case measure => have := HG.out; omega
        · have hq : ((k : Int) == 4) = false := by simp; omega
          have hI := hide (I4_step (X := X) (Y := Y) h4)
          clear h4
          go_wp2_with fail
          go_quiet (fail)
          go_wp2_with fail
          go_roundg (8 - (k + 1))
          case rel => exact ⟨k + 1, rfl, by rw [hS1.out], by rw [hI.out], by go_num, by omega, by rw [hS1.out]; exact hS, hbx.drewN _, hbel.trans (drewN_below _ _ _)⟩
          case measure => have := HG.out; omega
    · have h8 : k = 8 := by omega
      have hDP : Hid (DP X Y (.returned (.tuple #[.int .u64 (S X Y k), .int .u64 (I4 X Y k), .bool true]))) := hide ⟨S X Y k, I4 X Y k, true, rfl, fun _ => by subst h8; exact ⟨rfl, rfl, hS⟩⟩
      clear h8
      go_wp2_with fail
      go_ret3
      exact ⟨hDP.out, hbel⟩

theorem S_mono (X Y : Nat → Nat) : ∀ (m k : Nat), S X Y k ≤ S X Y (k + m)
  | 0, k => Nat.le_refl _
  | m + 1, k => Nat.le_trans (S_mono X Y m k) (by rw [show k + (m + 1) = (k + m) + 1 by omega]; simp only [S]; omega)

set_option maxHeartbeats 1000000 in
theorem iowait_any (X Y : Nat → Nat) (p : Nat) (r : Nat) (w : World) (hX : ∀ k, X k < 18446744073709551616) (hY : ∀ k, Y k < 18446744073709551616) (hS8 : S X Y 8 ≤ 90071992547409)
    (hr : (S X Y 8 = 0 ∧ r = p) ∨ (1 ≤ S X Y 8 ∧ floatBits .quo .f64 (Fl.fI (100 * D X Y 4)) (Fl.fI (S X Y 8)) = some r)) :
    Calls Try.prog 12 #[.agg #[.int .u64 (X 0), .int .u64 (X 1), .int .u64 (X 2), .int .u64 (X 3), .int .u64 (X 4), .int .u64 (X 5), .int .u64 (X 6), .int .u64 (X 7)],
      .agg #[.int .u64 (Y 0), .int .u64 (Y 1), .int .u64 (Y 2), .int .u64 (Y 3), .int .u64 (Y 4), .int .u64 (Y 5), .int .u64 (Y 6), .int .u64 (Y 7)], .float .f64 p] w
      fun e w' => e = .returned (.float .f64 r) ∧ Below w.heap.size w w' := by
  have HX := hide hX
  have HY := hide hY
  have HS := hide hS8
  have HRR := hide hr
  clear hX hY hS8 hr
  go_enter Try.func12, Try.ntmps12
  go_wp2
  go_loopg [7, 8, 11] 8 (fun g sv iv kv wr => ∃ k : Nat, g = 8 - k ∧ sv = .int .u64 (S X Y k) ∧ iv = .int .u64 (I4 X Y k) ∧ kv = .int .i64 k ∧ k ≤ 8 ∧ Boxes wr w.heap.size X Y ∧ Below w.heap.size w wr)
  case atStart => exact ⟨0, rfl, rfl, rfl, rfl, by omega, boxes_start w X Y 35, ((Below.refl _ _).alloc (Nat.le_refl _) _).alloc (by simp) _⟩
  case round =>
    obtain ⟨k, hgk, rfl, rfl, rfl, hk, hbx, hbel⟩ := hrel
    have HG := hide hgk
    clear hgk
    by_cases hlt : k < 8
    · have x0 := hbx.1 k hlt
      have y0 := hbx.2 k hlt
      have hxk : X k ≤ 18446744073709551615 := by have := HX.out k; omega
      have hyk : Y k ≤ 18446744073709551615 := by have := HY.out k; omega
      have hk1 : S X Y (k + 1) ≤ 90071992547409 := by
        have := S_mono X Y (7 - k) (k + 1)
        rw [show k + 1 + (7 - k) = 8 by omega] at this
        have := HS.out
        omega
      have hk0 : S X Y k ≤ 90071992547409 := by simp only [S] at hk1; omega
      have HI : Hid (k ≠ 4 → I4 X Y (k + 1) = I4 X Y k) := hide (fun h4 => I4_step h4)
      have HJ : Hid (k = 4 → I4 X Y (k + 1) = X k - Y k) := hide (fun h4 => by subst h4; simp only [I4, D]; rw [if_pos (by omega)])
      have hS1 : Hid (S X Y (k + 1) = S X Y k + (X k - Y k)) := hide (by simp only [S, D])
      have hq : ((k : Int) == 4) = true ∧ k = 4 ∨ ((k : Int) == 4) = false ∧ k ≠ 4 := by
        by_cases h4 : k = 4
        · exact .inl ⟨by simp; omega, h4⟩
        · exact .inr ⟨by simp; omega, h4⟩
      have hsum : S X Y k + (X k - Y k) ≤ 90071992547409 := by have := hS1.out; omega
      by_cases hgt : Y k < X k
      · have hsum' : (S X Y k : Int) + ((X k : Int) - (Y k : Int)) ≤ 90071992547409 := by omega
        clear hsum
        rcases hq with ⟨hq, h4⟩ | ⟨hq, h4⟩
        · have HK := hide h4
          clear h4
          go_wp2_with fail
          go_quiet (fail)
          go_wp2_with fail
          go_roundg (8 - (k + 1))
          case rel => exact ⟨k + 1, rfl, int_of (by rw [hS1.out]; omega), int_of (by rw [HJ.out HK.out]; omega), by go_num, by omega, hbx.drewN _, hbel.trans (drewN_below _ _ _)⟩
          case measure => have := HG.out; omega
        · have HK := hide h4
          clear h4
          go_wp2_with fail
          go_quiet (fail)
          go_wp2_with fail
          go_roundg (8 - (k + 1))
          case rel => exact ⟨k + 1, rfl, int_of (by rw [hS1.out]; omega), by rw [HI.out HK.out], by go_num, by omega, hbx.drewN _, hbel.trans (drewN_below _ _ _)⟩
          case measure => have := HG.out; omega
      · clear hsum
        rcases hq with ⟨hq, h4⟩ | ⟨hq, h4⟩
        · have HK := hide h4
          clear h4
          go_wp2_with fail
          go_quiet (fail)
          go_wp2_with fail
          all_goals
           go_roundg (8 - (k + 1))
           case rel => exact ⟨k + 1, rfl, int_of (by rw [hS1.out]; omega), int_of (by rw [HJ.out HK.out]; omega), by go_num, by omega, hbx.drewN _, hbel.trans (drewN_below _ _ _)⟩
           case measure => have := HG.out; omega
        · have HK := hide h4
          clear h4
          go_wp2_with fail
          go_quiet (fail)
          go_wp2_with fail
          all_goals
           go_roundg (8 - (k + 1))
           case rel => exact ⟨k + 1, rfl, int_of (by rw [hS1.out]; omega), by rw [HI.out HK.out], by go_num, by omega, hbx.drewN _, hbel.trans (drewN_below _ _ _)⟩
           case measure => have := HG.out; omega
    · obtain rfl : k = 8 := by omega
      have e4 : I4 X Y 8 = D X Y 4 := rfl
      have hd : D X Y 4 ≤ S X Y 8 := by
        have := S_mono X Y 3 5
        simp only [S] at this ⊢
        omega
      have hs8 := HS.out
      rw [e4]
      generalize D X Y 4 = a at *
      generalize S X Y 8 = s at *
      rcases HRR.out with ⟨h0, hr⟩ | ⟨h1, hr⟩
      · subst h0
        subst hr
        clear HRR HS e4 hd hs8
        go_wp2_with fail
        go_ret
        exact ⟨rfl, hbel⟩
      · have hz : ((s : Int) == 0) = false := by simp; omega
        have hm : ∀ w, (binOp .mul 24 (.float .f64 4636737291354636288) (.float .f64 (floatOfInt .f64 (a : Int)))).run Try.prog w = .ok (.float .f64 (Fl.fI (100 * a))) w := fun w => run_float_arith w .mul 24 .f64 _ _ _ (Fl.mul_100 a (by omega))
        have hv : ∀ w, (binOp .quo 24 (.float .f64 (Fl.fI (100 * a))) (.float .f64 (floatOfInt .f64 (s : Int)))).run Try.prog w = .ok (.float .f64 r) w := fun w => run_float_arith w .quo 24 .f64 _ _ _ hr
        clear HRR HS e4 hd hs8 hr h1
        go_wp2_with fail
        go_ret
        exact ⟨rfl, hbel⟩

theorem zziowait_any (X Y : Nat → Nat) (p : Nat) (r : Nat) (w : World) (hX : ∀ k, X k < 18446744073709551616) (hY : ∀ k, Y k < 18446744073709551616) (hS8 : S X Y 8 ≤ 90071992547409)
    (hr : (S X Y 8 = 0 ∧ r = p) ∨ (1 ≤ S X Y 8 ∧ floatBits .quo .f64 (Fl.fI (100 * D X Y 4)) (Fl.fI (S X Y 8)) = some r)) :
    Calls Try.prog 9 #[.agg #[.int .u64 (X 0), .int .u64 (X 1), .int .u64 (X 2), .int .u64 (X 3), .int .u64 (X 4), .int .u64 (X 5), .int .u64 (X 6), .int .u64 (X 7)],
      .agg #[.int .u64 (Y 0), .int .u64 (Y 1), .int .u64 (Y 2), .int .u64 (Y 3), .int .u64 (Y 4), .int .u64 (Y 5), .int .u64 (Y 6), .int .u64 (Y 7)], .float .f64 p] w
      fun e w' => e = .returned (.float .f64 r) ∧ Below w.heap.size w w' := by
  have HX := hide hX
  have HY := hide hY
  have HS := hide hS8
  have HRR := hide hr
  clear hX hY hS8 hr
  go_enter Try.func9, Try.ntmps9
  go_wp2_with fail
  refine (iowait_any X Y p r _ HX.out HY.out HS.out HRR.out).mono ?_
  rintro e w1 ⟨rfl, hb⟩
  have hb2 : Below w.heap.size w w1 := (((Below.refl _ _).alloc (Nat.le_refl _) _).alloc (by simp) _).trans (hb.mono (by simp; omega))
  clear hb
  go_wp2_with fail
  go_ret
  exact ⟨rfl, hb2⟩

set_option maxHeartbeats 400000 in
theorem same_any (p : Nat) (w : World) (hp : p < 18446744073709551616) : Calls Try.prog 10 #[.float .f64 p, .float .f64 p] w fun e w' => e = .returned (.bool true) ∧ w = w' := by
  cases h1 : (FloatKind.f64.format.order p p == some .eq)
  · have h1' : (FloatKind.f64.format.order p p != some .eq) = true := by simp [bne, h1]
    have H1 := hide h1
    clear h1
    go_enter Try.func10, Try.ntmps10
    go_wp2
    go_ret
    exact ⟨rfl, rfl⟩
  · have h1' : (FloatKind.f64.format.order p p != some .eq) = false := by simp [bne, h1]
    cases h2 : (FloatKind.f64.format.order p 0 == some .eq)
    · go_enter Try.func10, Try.ntmps10
      go_wp2
      go_ret
      exact ⟨rfl, rfl⟩
    · obtain ⟨r, hr, ho⟩ := Fl.div_zero p hp (beq_iff_eq.1 (show (FloatKind.f64.format.order p 0 == some .eq) = true from h2))
      have hv : ∀ w, (binOp .quo 24 (.float .f64 4607182418800017408) (.float .f64 p)).run Try.prog w = .ok (.float .f64 r) w := fun w => run_float_arith w .quo 24 .f64 _ _ _ hr
      have ho' : (FloatKind.f64.format.order r r == some .eq) = true := by
        show (Ieee.double.order r r == some .eq) = true
        rw [ho]; rfl
      clear hr ho
      go_enter Try.func10, Try.ntmps10
      go_wp2
      go_ret
      exact ⟨rfl, rfl⟩

set_option maxHeartbeats 1000000 in
theorem law_any (X Y : Nat → Nat) (p : Nat) (w : World) (hX : ∀ k, X k < 18446744073709551616) (hY : ∀ k, Y k < 18446744073709551616) (hp : p < 18446744073709551616) :
    Calls Try.prog 3 #[.agg #[.int .u64 (X 0), .int .u64 (X 1), .int .u64 (X 2), .int .u64 (X 3), .int .u64 (X 4), .int .u64 (X 5), .int .u64 (X 6), .int .u64 (X 7)],
      .agg #[.int .u64 (Y 0), .int .u64 (Y 1), .int .u64 (Y 2), .int .u64 (Y 3), .int .u64 (Y 4), .int .u64 (Y 5), .int .u64 (Y 6), .int .u64 (Y 7)], .float .f64 p] w
      fun e w' => e = .returned (.bool true) ∧ Below w.heap.size w w' := by
  have HX := hide hX
  have HY := hide hY
  have HP := hide hp
  clear hX hY hp
  go_enter Try.func3, Try.ntmps3
  go_wp2_with fail
  refine (deltas_any X Y _ HX.out HY.out).mono ?_
  rintro e W1 ⟨⟨s, i, b, rfl, hdp⟩, hb⟩
  have hB1 : Below w.heap.size w W1 := (((Below.refl _ _).alloc (Nat.le_refl _) _).alloc (by simp) _).trans (hb.mono (by simp; omega))
  have hbx : Boxes W1 w.heap.size X Y := by
    have h0 := boxes_start w X Y 23
    refine ⟨fun k hk => ?_, fun k hk => ?_⟩
    · exact (hb.cell (p := ⟨w.heap.size, k, none⟩) (by simp; omega)).trans (h0.1 k hk)
    · exact (hb.cell (p := ⟨w.heap.size + 1, k, none⟩) (by simp)).trans (h0.2 k hk)
  clear hb
  cases b
  · clear hbx
    go_wp2_with fail
    go_ret
    exact ⟨rfl, hB1⟩
  · obtain ⟨es, ei, h8⟩ := hdp rfl
    subst es
    subst ei
    clear hdp
    have H8 := hide h8
    have x0 := hbx.1 0 (by omega); have x1 := hbx.1 1 (by omega); have x2 := hbx.1 2 (by omega); have x3 := hbx.1 3 (by omega); have x4 := hbx.1 4 (by omega); have x5 := hbx.1 5 (by omega); have x6 := hbx.1 6 (by omega); have x7 := hbx.1 7 (by omega)
    have y0 := hbx.2 0 (by omega); have y1 := hbx.2 1 (by omega); have y2 := hbx.2 2 (by omega); have y3 := hbx.2 3 (by omega); have y4 := hbx.2 4 (by omega); have y5 := hbx.2 5 (by omega); have y6 := hbx.2 6 (by omega); have y7 := hbx.2 7 (by omega)
    by_cases hz : S X Y 8 = 0
    · have hq : ((S X Y 8 : Int) == 0) = true := by simp; omega
      have HZ := hide hz
      clear hz hbx h8
      go_wp2_with fail
      refine (zziowait_any X Y p p _ HX.out HY.out H8.out (.inl ⟨HZ.out, rfl⟩)).mono ?_
      rintro e W2 ⟨rfl, hb2⟩
      have hB2 : Below w.heap.size w W2 := hB1.trans (hb2.mono hB1.size)
      clear hb2 x0 x1 x2 x3 x4 x5 x6 x7 y0 y1 y2 y3 y4 y5 y6 y7
      go_wp2_with fail
      refine (same_any p _ HP.out).mono ?_
      rintro e w1 ⟨rfl, rfl⟩
      go_wp2_with fail
      go_ret
      exact ⟨rfl, hB2⟩
    · have hq : ((S X Y 8 : Int) == 0) = false := by simp; omega
      have hd : D X Y 4 ≤ S X Y 8 := by
        have := S_mono X Y 3 5
        simp only [S] at this ⊢
        omega
      obtain ⟨r, hr, hle⟩ := Fl.div_100 (D X Y 4) (S X Y 8) (by omega) h8 hd
      obtain ⟨o1, o2, o3⟩ := Fl.le_100 r hle
      have HR := hide hr
      have hm : ((100 : Int) * (D X Y 4 : Int)) ≤ 18446744073709551615 := by omega
      have hv : ∀ w, (binOp .quo 24 (.float .f64 (floatOfInt .f64 (100 * (D X Y 4 : Int)))) (.float .f64 (floatOfInt .f64 (S X Y 8 : Int)))).run Try.prog w = .ok (.float .f64 r) w := fun w => by
        have e : (100 * (D X Y 4 : Int)) = ((100 * D X Y 4 : Nat) : Int) := by omega
        rw [e]
        exact run_float_arith w .quo 24 .f64 _ _ _ hr
      have p1 : (FloatKind.f64.format.order r r == some .eq) = true := by
        show (Ieee.double.order r r == some .eq) = true
        rw [o1]; rfl
      have p2 : (FloatKind.f64.format.order r 0 == some .gt || FloatKind.f64.format.order r 0 == some .eq) = true := by
        show (Ieee.double.order r 0 == some .gt || Ieee.double.order r 0 == some .eq) = true
        rcases o2 with o | o <;> rw [o] <;> rfl
      have p3 : (FloatKind.f64.format.order r 4636737291354636288 == some .lt || FloatKind.f64.format.order r 4636737291354636288 == some .eq) = true := by
        show (Ieee.double.order r 4636737291354636288 == some .lt || Ieee.double.order r 4636737291354636288 == some .eq) = true
        rcases o3 with o | o <;> rw [o] <;> rfl
      have H1 : Hid (1 ≤ S X Y 8) := hide (by omega)
      clear hr hle o1 o2 o3 hbx h8 hz hd
      go_wp2_with fail
      refine (zziowait_any X Y p r _ HX.out HY.out H8.out (.inr ⟨H1.out, HR.out⟩)).mono ?_
      rintro e W2 ⟨rfl, hb2⟩
      have hB2 : Below w.heap.size w W2 := hB1.trans (hb2.mono hB1.size)
      clear hb2 x0 x1 x2 x3 x4 x5 x6 x7 y0 y1 y2 y3 y4 y5 y6 y7
      go_wp2_with fail
      go_ret
      exact ⟨rfl, hB2⟩
end Go.Proofs.Qxb6603278a
