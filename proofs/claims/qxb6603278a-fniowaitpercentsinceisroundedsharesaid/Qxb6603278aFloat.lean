/-
  FLOATS, PLAINLY: of the whole numbers below 2^53, of a hundred times one, of a quotient that is at most a hundred. No Go in sight.
-/
import Derived.WalkKit
import Derived.Laws.FloatArith
namespace Go.Proofs.Qxb6603278a.Fl
open Ieee

theorem log2_eq {n k : Nat} (h1 : 2 ^ k ≤ n) (h2 : n < 2 ^ (k + 1)) : n.log2 = k := by
  have h0 : n ≠ 0 := by have := Nat.two_pow_pos k; omega
  have a := (Nat.le_log2 h0).2 h1
  have b := (Nat.log2_lt h0).2 h2
  omega

/-- Rounding to a whole number. -/
def cutE (n d : Nat) : Nat := Toward.even.cut false n d

theorem cutE_eq (n d : Nat) : cutE n d = n / 2 ^ min d (n.log2 + 2) + (decide (2 ^ min d (n.log2 + 2) < 2 * (n % 2 ^ min d (n.log2 + 2))) || (2 ^ min d (n.log2 + 2) == 2 * (n % 2 ^ min d (n.log2 + 2)) && n / 2 ^ min d (n.log2 + 2) % 2 == 1)).toNat := by
  unfold cutE Toward.cut
  simp only [Nat.one_shiftLeft]

theorem cutE_le {n d K : Nat} (h : n ≤ K * 2 ^ d) : cutE n d ≤ K := by
  rw [cutE_eq]
  by_cases hd : d ≤ n.log2 + 2
  · rw [Nat.min_eq_left hd]
    have hp := Nat.two_pow_pos d
    generalize 2 ^ d = g at *
    by_cases he : n = K * g
    · subst he
      rw [Nat.mul_div_cancel _ hp, Nat.mul_mod_left]
      have e1 : decide (g < 2 * 0) = false := by simp
      have e2 : (g == 2 * 0) = false := by simp; omega
      rw [e1, e2]
      simp
    · have : n / g < K := (Nat.div_lt_iff_lt_mul hp).2 (by omega)
      generalize (decide (g < 2 * (n % g)) || (g == 2 * (n % g) && n / g % 2 == 1)) = b
      cases b <;> simp <;> omega
  · rw [Nat.min_eq_right (by omega)]
    by_cases h0 : n = 0
    · subst h0
      simp
    · have hl : n < 2 ^ (n.log2 + 1) := Nat.lt_log2_self
      have hg : 2 ^ (n.log2 + 2) = 2 * 2 ^ (n.log2 + 1) := by rw [Nat.pow_succ]; omega
      rw [hg]
      generalize 2 ^ (n.log2 + 1) = q at *
      rw [Nat.div_eq_of_lt (by omega), Nat.mod_eq_of_lt (by omega)]
      have e1 : decide (2 * q < 2 * n) = false := by simp; omega
      have e2 : (2 * q == 2 * n) = false := by simp; omega
      rw [e1, e2]
      simp

theorem cutE_exact {K d : Nat} (hK : 0 < K) : cutE (K * 2 ^ d) d = K := by
  rw [cutE_eq]
  have hp := Nat.two_pow_pos d
  have h0 : K * 2 ^ d ≠ 0 := Nat.mul_ne_zero (by omega) (by omega)
  have hl : d ≤ (K * 2 ^ d).log2 := (Nat.le_log2 h0).2 (Nat.le_mul_of_pos_left _ hK)
  rw [Nat.min_eq_left (by omega)]
  generalize 2 ^ d = g at *
  rw [Nat.mul_div_cancel _ hp, Nat.mul_mod_left]
  have e1 : decide (g < 2 * 0) = false := by simp
  have e2 : (g == 2 * 0) = false := by simp; omega
  rw [e1, e2]
  simp

theorem lp : double.leastPlace = -1074 := by decide
theorem bin : double.binade = 4503599627370496 := by decide
theorem inf : double.infRung = 9218868437227405312 := by decide
theorem sgn : double.signWeight = 9223372036854775808 := by decide
theorem fb : double.fractionBits = 52 := rfl

theorem word_false (f : Format) (r : Nat) : f.word false r = r := by simp [Format.word]

theorem nearest_eq (M : Nat) (P : Int) (h : M ≠ 0) : double.nearest false M P =
    min ((max (P + (M.log2 : Int) - 52) (-1074) + 1074).toNat * 4503599627370496 + cutE (M <<< (P - max (P + (M.log2 : Int) - 52) (-1074)).toNat) (max (P + (M.log2 : Int) - 52) (-1074) - P).toNat) 9218868437227405312 := by
  unfold Format.nearest
  rw [if_neg h]
  simp only [lp, bin, inf, fb, word_false]
  rw [show ((52 : Nat) : Int) = 52 from rfl, Int.sub_neg]
  rfl

/-- A number that the format has: K * 2^e. -/
theorem nearest_exact {K : Nat} {e : Int} (k1 : 4503599627370496 ≤ K) (k2 : K < 9007199254740992) (e1 : -1074 ≤ e) (e2 : e ≤ 900) (M : Nat) (P : Int)
    (h : (∃ u : Nat, M = K * 2 ^ u ∧ P = e - u) ∨ (∃ u : Nat, K = M * 2 ^ u ∧ P = e + u)) : double.nearest false M P = (e + 1074).toNat * 4503599627370496 + K := by
  have hl : M ≠ 0 ∧ P + (M.log2 : Int) - 52 = e ∧ cutE (M <<< (P - e).toNat) (e - P).toNat = K := by
    rcases h with ⟨u, rfl, rfl⟩ | ⟨u, rfl, rfl⟩
    · have hp := Nat.two_pow_pos u
      have l : (K * 2 ^ u).log2 = 52 + u := by
        refine log2_eq ?_ ?_
        · rw [Nat.pow_add]; exact Nat.mul_le_mul_right _ k1
        · rw [show 52 + u + 1 = 53 + u by omega, Nat.pow_add]; exact Nat.mul_lt_mul_of_pos_right k2 hp
      refine ⟨Nat.mul_ne_zero (by omega) (by omega), by rw [l]; omega, ?_⟩
      rw [show (e - (u : Int) - e).toNat = 0 by omega, show (e - (e - (u : Int))).toNat = u by omega, Nat.shiftLeft_zero]
      exact cutE_exact (by omega)
    · have hp := Nat.two_pow_pos u
      have h0 : M ≠ 0 := fun h => by subst h; omega
      have hu : u ≤ 52 := by
        by_cases hu : u ≤ 52
        · exact hu
        · have a : 2 ^ 53 ≤ 2 ^ u := Nat.pow_le_pow_right (by decide) (by omega)
          have b : 2 ^ u ≤ M * 2 ^ u := Nat.le_mul_of_pos_left _ (by omega)
          omega
      have l : M.log2 = 52 - u := by
        refine log2_eq ?_ ?_
        · have : 2 ^ (52 - u) * 2 ^ u ≤ M * 2 ^ u := by rw [← Nat.pow_add, show 52 - u + u = 52 by omega]; exact k1
          exact Nat.le_of_mul_le_mul_right this hp
        · have : M * 2 ^ u < 2 ^ (52 - u + 1) * 2 ^ u := by rw [← Nat.pow_add, show 52 - u + 1 + u = 53 by omega]; exact k2
          exact Nat.lt_of_mul_lt_mul_right this
      refine ⟨h0, by rw [l]; omega, ?_⟩
      rw [show (e + (u : Int) - e).toNat = u by omega, show (e - (e + (u : Int))).toNat = 0 by omega, Nat.shiftLeft_eq]
      have := cutE_exact (K := M * 2 ^ u) (d := 0) (by omega)
      simpa using this
  obtain ⟨h0, hlog, hcut⟩ := hl
  rw [nearest_eq M P h0, hlog, show max e (-1074) = e by omega, hcut]
  omega

theorem read_exact {K : Nat} {e : Int} (k1 : 4503599627370496 ≤ K) (k2 : K < 9007199254740992) (e1 : -1074 ≤ e) (e2 : e ≤ 900) :
    double.read ((e + 1074).toNat * 4503599627370496 + K) = .number false K e := by
  obtain ⟨q, hq⟩ : ∃ q : Nat, e = (q : Int) - 1074 := ⟨(e + 1074).toNat, by omega⟩
  subst hq
  rw [show ((q : Int) - 1074 + 1074).toNat = q by omega]
  unfold Format.read
  rw [sgn, bin, inf, lp]
  have r1 : (q * 4503599627370496 + K) % 9223372036854775808 = q * 4503599627370496 + K := Nat.mod_eq_of_lt (by omega)
  have r2 : (q * 4503599627370496 + K) / 9223372036854775808 = 0 := Nat.div_eq_of_lt (by omega)
  have r3 : (q * 4503599627370496 + K) % 4503599627370496 = K - 4503599627370496 := by omega
  have r4 : (q * 4503599627370496 + K) / 4503599627370496 = q + 1 := by omega
  simp only [r1, r2, r3, r4]
  rw [if_neg (by omega), if_pos (by omega), show 4503599627370496 + (K - 4503599627370496) = K by omega, show (-1074 + ((q + 1 - 1 : Nat) : Int)) = (q : Int) - 1074 by omega]
  rfl

/-- float64(n). -/
def fI (n : Nat) : Nat := floatOfInt .f64 (n : Int)
theorem fI_eq (n : Nat) : fI n = double.nearest false n 0 := by
  unfold fI floatOfInt FloatKind.nearest FloatKind.encode
  show double.write (.number (decide ((n : Int) < 0)) (n : Int).natAbs 0) = _
  rw [show decide ((n : Int) < 0) = false by simp, Int.natAbs_natCast]
  rfl

/-- The whole numbers below 2^53 are all there. -/
theorem fI_val (n : Nat) (h1 : 1 ≤ n) (h2 : n < 9007199254740992) : ∃ u : Nat, u = 52 - n.log2 ∧ n.log2 ≤ 52 ∧ 4503599627370496 ≤ n * 2 ^ u ∧ n * 2 ^ u < 9007199254740992 ∧
    fI n = (-(u : Int) + 1074).toNat * 4503599627370496 + n * 2 ^ u ∧ double.read (fI n) = .number false (n * 2 ^ u) (-(u : Int)) := by
  have h0 : n ≠ 0 := by omega
  have hl : n.log2 ≤ 52 := by
    have := (Nat.log2_lt h0).2 (show n < 2 ^ 53 from h2)
    omega
  have a1 : 2 ^ n.log2 ≤ n := Nat.log2_self_le h0
  have a2 : n < 2 ^ (n.log2 + 1) := Nat.lt_log2_self
  refine ⟨52 - n.log2, rfl, hl, ?_, ?_, ?_⟩
  · have := Nat.mul_le_mul_right (2 ^ (52 - n.log2)) a1
    rw [← Nat.pow_add, show n.log2 + (52 - n.log2) = 52 by omega] at this
    exact this
  · have := Nat.mul_lt_mul_of_pos_right a2 (Nat.two_pow_pos (52 - n.log2))
    rw [← Nat.pow_add, show n.log2 + 1 + (52 - n.log2) = 53 by omega] at this
    exact this
  · have b1 : 4503599627370496 ≤ n * 2 ^ (52 - n.log2) := by
      have := Nat.mul_le_mul_right (2 ^ (52 - n.log2)) a1
      rw [← Nat.pow_add, show n.log2 + (52 - n.log2) = 52 by omega] at this
      exact this
    have b2 : n * 2 ^ (52 - n.log2) < 9007199254740992 := by
      have := Nat.mul_lt_mul_of_pos_right a2 (Nat.two_pow_pos (52 - n.log2))
      rw [← Nat.pow_add, show n.log2 + 1 + (52 - n.log2) = 53 by omega] at this
      exact this
    have e : fI n = (-((52 - n.log2 : Nat) : Int) + 1074).toNat * 4503599627370496 + n * 2 ^ (52 - n.log2) := by
      rw [fI_eq]
      exact nearest_exact b1 b2 (by omega) (by omega) n 0 (.inr ⟨52 - n.log2, rfl, by omega⟩)
    refine ⟨e, ?_⟩
    rw [e]
    exact read_exact b1 b2 (by omega) (by omega)

theorem fI_zero : fI 0 = 0 := by rw [fI_eq]; unfold Format.nearest; rw [if_pos rfl, word_false]

theorem w100 : 4636737291354636288 = ((-46 : Int) + 1074).toNat * 4503599627370496 + 7036874417766400 := by decide
theorem read_100 : double.read 4636737291354636288 = .number false 7036874417766400 (-46) := by
  rw [w100]
  exact read_exact (K := 7036874417766400) (e := -46) (by decide) (by decide) (by decide) (by decide)
theorem read_0 : double.read 0 = .number false 0 (-1074) := by
  unfold Format.read
  rw [sgn, bin, inf, lp]
  rfl

/-- A hundred times a whole number, as a float, is the float of a hundred times the number. -/
theorem mul_100 (n : Nat) (h : n ≤ 90071992547409) : floatBits .mul .f64 4636737291354636288 (fI n) = some (fI (100 * n)) := by
  show double.mul 4636737291354636288 (fI n) = _
  unfold Format.mul
  rw [read_100]
  by_cases h0 : n = 0
  · subst h0
    rw [fI_zero, read_0]
    show some (double.nearest false (7036874417766400 * 0) _) = some 0
    unfold Format.nearest
    rw [if_pos (by decide), word_false]
  · obtain ⟨u, hu, hl, b1, b2, e1, r1⟩ := fI_val n (by omega) (by omega)
    obtain ⟨v, hv, hl', c1, c2, e2, r2⟩ := fI_val (100 * n) (by omega) (by omega)
    rw [r1]
    show some (double.nearest false (7036874417766400 * (n * 2 ^ u)) (-46 + -(u : Int))) = _
    have hlog : n.log2 + 6 ≤ (100 * n).log2 := by
      refine (Nat.le_log2 (by omega)).2 ?_
      have := Nat.log2_self_le h0
      rw [Nat.pow_add]
      omega
    rw [e2]
    congr 1
    refine nearest_exact c1 c2 (by omega) (by omega) _ _ (.inl ⟨46 + u - v, ?_, by omega⟩)
    rw [Nat.mul_assoc (100 * n), ← Nat.pow_add, show v + (46 + u - v) = 46 + u by omega, Nat.pow_add, Nat.mul_mul_mul_comm]

/-- Rounding does not lift a number that is at most a hundred above a hundred. -/
theorem nearest_le_100 (M p : Nat) (h0 : M ≠ 0) (hp : p ≤ 200) (h : M ≤ 100 * 2 ^ p) : double.nearest false M (-(p : Int)) ≤ 4636737291354636288 := by
  have l1 : 2 ^ M.log2 ≤ M := Nat.log2_self_le h0
  have l2 : M < 2 ^ (M.log2 + 1) := Nat.lt_log2_self
  have hl : M.log2 ≤ p + 6 := by
    have : M < 2 ^ (p + 7) := by
      rw [Nat.pow_add]
      have := Nat.two_pow_pos p
      omega
    have := (Nat.log2_lt h0).2 this
    omega
  rw [nearest_eq M _ h0]
  generalize M.log2 = l at *
  rw [show max (-(p : Int) + (l : Int) - 52) (-1074) = (l : Int) - p - 52 by omega, show (-(p : Int) - ((l : Int) - p - 52)).toNat = 52 - l by omega, show ((l : Int) - p - 52 - -(p : Int)).toNat = l - 52 by omega, Nat.shiftLeft_eq]
  have k1 : cutE (M * 2 ^ (52 - l)) (l - 52) ≤ 9007199254740992 := by
    refine cutE_le ?_
    by_cases hc : l ≤ 52
    · rw [show l - 52 = 0 by omega, Nat.pow_zero, Nat.mul_one]
      have := Nat.mul_le_mul_right (2 ^ (52 - l)) (Nat.le_of_lt l2)
      rw [← Nat.pow_add, show l + 1 + (52 - l) = 53 by omega] at this
      exact this
    · rw [show 52 - l = 0 by omega, Nat.pow_zero, Nat.mul_one]
      rw [show l + 1 = 53 + (l - 52) by omega, Nat.pow_add] at l2
      exact Nat.le_of_lt l2
  by_cases h6 : l = p + 6
  · have k2 : cutE (M * 2 ^ (52 - l)) (l - 52) ≤ 7036874417766400 := by
      refine cutE_le ?_
      by_cases hc : l ≤ 52
      · rw [show l - 52 = 0 by omega, Nat.pow_zero, Nat.mul_one]
        have := Nat.mul_le_mul_right (2 ^ (52 - l)) h
        rw [Nat.mul_assoc, ← Nat.pow_add, show p + (52 - l) = 46 by omega] at this
        exact this
      · rw [show 52 - l = 0 by omega, Nat.pow_zero, Nat.mul_one]
        rw [show p = 46 + (l - 52) by omega, Nat.pow_add, ← Nat.mul_assoc] at h
        exact h
    rw [h6, show (((p + 6 : Nat) : Int) - p - 52 + 1074).toNat = 1028 by omega]
    rw [h6] at k2
    omega
  · have : ((l : Int) - p - 52 + 1074).toNat ≤ 1027 := by omega
    generalize ((l : Int) - p - 52 + 1074).toNat = q at *
    generalize cutE (M * 2 ^ (52 - l)) (l - 52) = c at *
    omega

theorem quo_le (D n A : Nat) (hn : 0 < n) (hnD : n ≤ D) (hD : D ≤ A * n) : 2 * (D / n) + (D % n != 0).toNat ≠ 0 ∧ 2 * (D / n) + (D % n != 0).toNat ≤ 2 * A := by
  have q1 : 1 ≤ D / n := Nat.div_pos hnD hn
  have q2 : D / n ≤ A := Nat.div_le_of_le_mul (by rw [Nat.mul_comm]; exact hD)
  have q3 := Nat.div_add_mod D n
  refine ⟨by omega, ?_⟩
  by_cases hr : D % n = 0
  · rw [hr]
    simp
    omega
  · have : D / n < A := by
      by_cases hq : D / n = A
      · rw [hq, Nat.mul_comm] at q3
        omega
      · omega
    have hb : (D % n != 0) = true := by simpa using hr
    rw [hb]
    simp
    omega

/-- The share: a quotient of two floats that is at most a hundred. -/
theorem div_100 (a s : Nat) (h1 : 1 ≤ s) (hs : s ≤ 90071992547409) (ha : a ≤ s) : ∃ r, floatBits .quo .f64 (fI (100 * a)) (fI s) = some r ∧ r ≤ 4636737291354636288 := by
  show ∃ r, double.div (fI (100 * a)) (fI s) = some r ∧ _
  obtain ⟨u, hu, hlu, b1, b2, e1, r1⟩ := fI_val s h1 (by omega)
  unfold Format.div
  rw [r1]
  by_cases h0 : a = 0
  · subst h0
    rw [show fI (100 * 0) = 0 from fI_zero, read_0]
    refine ⟨0, ?_, by omega⟩
    have hne : s * 2 ^ u ≠ 0 := by omega
    simp only [Datum.quotient, if_neg hne, Nat.zero_shiftLeft, Nat.zero_div, Nat.zero_mod, Option.map_some, Format.write]
    have : (2 * 0 + ((0 : Nat) != 0).toNat) = 0 := rfl
    rw [this]
    unfold Format.nearest
    rw [if_pos rfl]
    simp [Format.word]
  · obtain ⟨v, hv, hlv, c1, c2, e2, r2⟩ := fI_val (100 * a) (by omega) (by omega)
    rw [r2]
    have hne : s * 2 ^ u ≠ 0 := by omega
    have g1 : (s * 2 ^ u).log2 = 52 := log2_eq b1 b2
    have g2 : (100 * a * 2 ^ v).log2 = 52 := log2_eq c1 c2
    simp only [Datum.quotient, if_neg hne, g1, g2, fb, Option.map_some, Format.write]
    refine ⟨_, rfl, ?_⟩
    rw [show (52 + 2 + 52 - 52 : Nat) = 54 from rfl, Nat.shiftLeft_eq]
    have hD : 100 * a * 2 ^ v * 2 ^ 54 ≤ 100 * 2 ^ (v + 54 - u) * (s * 2 ^ u) := by
      rw [Nat.mul_assoc (100 * a), ← Nat.pow_add, Nat.mul_mul_mul_comm, ← Nat.pow_add, show v + 54 - u + u = v + 54 by omega]
      exact Nat.mul_le_mul_right _ (by omega)
    have hnD : s * 2 ^ u ≤ 100 * a * 2 ^ v * 2 ^ 54 := by
      have : 100 * a * 2 ^ v * 1 ≤ 100 * a * 2 ^ v * 2 ^ 54 := Nat.mul_le_mul_left _ (by decide)
      have : 100 * a * 2 ^ v * 2 ≤ 100 * a * 2 ^ v * 2 ^ 54 := Nat.mul_le_mul_left _ (by decide)
      omega
    have hp : (-(v : Int) - -(u : Int) - ((54 : Nat) : Int) - 1) = -((v + 55 - u : Nat) : Int) := by omega
    rw [hp]
    have hA : 100 * 2 ^ (v + 55 - u) = 2 * (100 * 2 ^ (v + 54 - u)) := by
      rw [show v + 55 - u = v + 54 - u + 1 by omega, Nat.pow_succ]
      omega
    have Q := quo_le _ _ _ (show 0 < s * 2 ^ u by omega) hnD hD
    rw [← hA] at Q
    exact nearest_le_100 _ _ Q.1 (by omega) Q.2

/-! ### Comparisons -/
theorem cmp_le {a b : Int} (h : a ≤ b) : compare a b = .lt ∨ compare a b = .eq := by
  by_cases e : a = b
  · right; subst e; simp
  · left; exact Int.compare_eq_lt.2 (by omega)
theorem cmp_ge {a b : Int} (h : b ≤ a) : compare a b = .gt ∨ compare a b = .eq := by
  by_cases e : a = b
  · right; subst e; simp
  · left; exact Int.compare_eq_gt.2 (by omega)

/-- What a word up to a hundred's stands for. -/
theorem read_small (r : Nat) (h : r ≤ 4636737291354636288) : (r < 4503599627370496 ∧ double.read r = .number false r (-1074)) ∨
    (∃ q : Nat, 1 ≤ q ∧ q ≤ 1029 ∧ r / 4503599627370496 = q ∧ double.read r = .number false (4503599627370496 + r % 4503599627370496) (-1074 + ((q - 1 : Nat) : Int))) := by
  unfold Format.read
  rw [sgn, bin, inf, lp]
  have r1 : r % 9223372036854775808 = r := Nat.mod_eq_of_lt (by omega)
  have r2 : r / 9223372036854775808 = 0 := Nat.div_eq_of_lt (by omega)
  simp only [r1, r2]
  by_cases hs : r < 4503599627370496
  · left
    refine ⟨hs, ?_⟩
    rw [if_pos hs]
    rfl
  · right
    refine ⟨r / 4503599627370496, by omega, by omega, rfl, ?_⟩
    rw [if_neg hs, if_pos (by omega)]
    rfl

theorem order_self {d : Datum} {m : Nat} {e : Int} (h : d = .number false m e) : d.order d = some .eq := by
  subst h
  simp [Datum.order]

theorem signed_pos (m u : Nat) : signed false m u = ((m * 2 ^ u : Nat) : Int) := by
  unfold signed
  rw [if_neg (by simp), Nat.shiftLeft_eq]

theorem le_100 (r : Nat) (h : r ≤ 4636737291354636288) : double.order r r = some .eq ∧ (double.order r 0 = some .gt ∨ double.order r 0 = some .eq) ∧ (double.order r 4636737291354636288 = some .lt ∨ double.order r 4636737291354636288 = some .eq) := by
  unfold Format.order
  rw [read_0, read_100]
  rcases read_small r h with ⟨hs, hr⟩ | ⟨q, q1, q2, hq, hr⟩
  · rw [hr]
    refine ⟨order_self rfl, ?_, ?_⟩
    · simp only [Datum.order, signed_pos, Option.some.injEq]
      refine cmp_ge ?_
      simp
    · simp only [Datum.order, signed_pos, Option.some.injEq]
      refine cmp_le (Int.ofNat_le.2 ?_)
      rw [show ((-1074 : Int) - min (-1074) (-46)).toNat = 0 by omega, Nat.pow_zero, Nat.mul_one]
      refine Nat.le_trans (show r ≤ 7036874417766400 by omega) (Nat.le_mul_of_pos_right _ (Nat.two_pow_pos _))
  · rw [hr]
    refine ⟨order_self rfl, ?_, ?_⟩
    · simp only [Datum.order, signed_pos, Option.some.injEq]
      refine cmp_ge (Int.ofNat_le.2 ?_)
      rw [Nat.zero_mul]
      exact Nat.zero_le _
    · simp only [Datum.order, signed_pos, Option.some.injEq]
      refine cmp_le (Int.ofNat_le.2 ?_)
      rw [show min (-1074 + ((q - 1 : Nat) : Int)) (-46) = -1074 + ((q - 1 : Nat) : Int) by omega, Int.sub_self, show Int.toNat 0 = 0 from rfl, Nat.pow_zero, Nat.mul_one, show ((-46 : Int) - (-1074 + ((q - 1 : Nat) : Int))).toNat = 1029 - q by omega]
      by_cases h9 : q = 1029
      · subst h9
        rw [Nat.sub_self, Nat.pow_zero, Nat.mul_one]
        omega
      · have hm : 7036874417766400 * 2 ^ 1 ≤ 7036874417766400 * 2 ^ (1029 - q) := Nat.mul_le_mul_left _ (Nat.pow_le_pow_right (by decide) (by omega))
        have hlt : r % 4503599627370496 < 4503599627370496 := Nat.mod_lt _ (by decide)
        refine Nat.le_trans ?_ hm
        omega

/-! ### Zeros -/
theorem zero_cases (a : Nat) (ha : a < 18446744073709551616) (h : double.order a 0 = some .eq) : a = 0 ∨ a = 9223372036854775808 := by
  unfold Format.order at h
  rw [read_0] at h
  unfold Format.read at h
  rw [sgn, bin, inf, lp] at h
  simp only at h
  by_cases h1 : a % 9223372036854775808 < 4503599627370496
  · rw [if_pos h1] at h
    simp only [Datum.order, signed, Option.some.injEq, Int.compare_eq_eq] at h
    have h2 : a % 9223372036854775808 = 0 := by
      split at h
      · simp at h; omega
      · simp at h; omega
    omega
  · rw [if_neg h1] at h
    by_cases h2 : a % 9223372036854775808 < 9218868437227405312
    · rw [if_pos h2] at h
      simp only [Datum.order, Option.some.injEq, Int.compare_eq_eq] at h
      exfalso
      have hz : signed false 0 ((-1074 : Int) - min (-1074 + ((a % 9223372036854775808 / 4503599627370496 - 1 : Nat) : Int)) (-1074)).toNat = 0 := by simp [signed]
      rw [hz] at h
      unfold signed at h
      rw [Nat.shiftLeft_eq] at h
      have hpos : 0 < (4503599627370496 + a % 9223372036854775808 % 4503599627370496) * 2 ^ (-1074 + ((a % 9223372036854775808 / 4503599627370496 - 1 : Nat) : Int) - min (-1074 + ((a % 9223372036854775808 / 4503599627370496 - 1 : Nat) : Int)) (-1074)).toNat :=
        Nat.mul_pos (by omega) (Nat.two_pow_pos _)
      split at h <;> omega
    · rw [if_neg h2] at h
      split at h
      · simp only [Datum.order] at h
        split at h <;> simp at h
      · simp [Datum.order] at h

theorem one_word : 4607182418800017408 = ((-52 : Int) + 1074).toNat * 4503599627370496 + 4503599627370496 := by decide
theorem read_1 : double.read 4607182418800017408 = .number false 4503599627370496 (-52) := by
  rw [one_word]
  exact read_exact (K := 4503599627370496) (e := -52) (by decide) (by decide) (by decide) (by decide)
theorem read_neg0 : double.read 9223372036854775808 = .number true 0 (-1074) := by
  unfold Format.read
  rw [sgn, bin, inf, lp]
  rfl
theorem read_inf : double.read 9218868437227405312 = .infinity false := by
  unfold Format.read
  rw [sgn, bin, inf, lp]
  rfl
theorem read_ninf : double.read 18442240474082181120 = .infinity true := by
  unfold Format.read
  rw [sgn, bin, inf, lp]
  rfl

/-- 1 / a, a a zero. -/
theorem div_zero (a : Nat) (ha : a < 18446744073709551616) (h : double.order a 0 = some .eq) : ∃ r, floatBits .quo .f64 4607182418800017408 a = some r ∧ double.order r r = some .eq := by
  show ∃ r, double.div 4607182418800017408 a = some r ∧ _
  unfold Format.div Format.order
  rw [read_1]
  rcases zero_cases a ha h with rfl | rfl
  · rw [read_0]
    refine ⟨9218868437227405312, ?_, by rw [read_inf]; rfl⟩
    simp [Datum.quotient, Format.write, inf, Format.word]
  · rw [read_neg0]
    refine ⟨18442240474082181120, ?_, by rw [read_ninf]; rfl⟩
    simp [Datum.quotient, Format.write, inf, Format.word, sgn]
end Go.Proofs.Qxb6603278a.Fl
