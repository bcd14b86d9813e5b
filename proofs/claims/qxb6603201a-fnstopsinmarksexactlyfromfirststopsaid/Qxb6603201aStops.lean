/-
  THE PLAIN LAW OF stopsIn: eight bytes of a word, marked. No Go in sight.
-/
import Derived.WalkKit
import Derived.Laws.BitsAllLaws
namespace Go.Proofs.Qxb6603201a
open Go.RowKit
set_option linter.unusedVariables false
theorem hide {p : Prop} (h : p) : Hid p := h

/-- Byte k of a word. -/
def byt (x k : Nat) : Nat := x / 2 ^ (8 * k) % 256
/-- x - c, in 64 bits. -/
def sub64 (x c : Nat) : Nat := (x + (18446744073709551616 - c)) % 18446744073709551616
def not64 (x : Nat) : Nat := 18446744073709551615 - x

/-- What stopsIn computes. -/
def stopsN (x : Nat) : Nat :=
  (((sub64 (x ^^^ 2459565876494606882) 72340172838076673 &&& not64 (x ^^^ 2459565876494606882)) ||| (sub64 (x ^^^ 6655295901103053916) 72340172838076673 &&& not64 (x ^^^ 6655295901103053916))) ||| (sub64 x 2314885530818453536 &&& not64 x)) &&& 9259542123273814144

def stopB (b : Nat) : Prop := b = 34 ∨ b = 92 ∨ b < 32

theorem byt_lt (x k : Nat) : byt x k < 256 := Nat.mod_lt _ (by decide)
theorem byt_and (a b k : Nat) : byt (a &&& b) k = byt a k &&& byt b k := by
  unfold byt
  rw [← Nat.shiftRight_eq_div_pow, ← Nat.shiftRight_eq_div_pow, ← Nat.shiftRight_eq_div_pow, Nat.shiftRight_and_distrib]
  exact Nat.and_mod_two_pow (n := 8)
theorem byt_or (a b k : Nat) : byt (a ||| b) k = byt a k ||| byt b k := by
  unfold byt
  rw [← Nat.shiftRight_eq_div_pow, ← Nat.shiftRight_eq_div_pow, ← Nat.shiftRight_eq_div_pow, Nat.shiftRight_or_distrib]
  exact Nat.or_mod_two_pow (n := 8)
theorem byt_xor (a b k : Nat) : byt (a ^^^ b) k = byt a k ^^^ byt b k := by
  unfold byt
  rw [← Nat.shiftRight_eq_div_pow, ← Nat.shiftRight_eq_div_pow, ← Nat.shiftRight_eq_div_pow, Nat.shiftRight_xor_distrib]
  exact Nat.xor_mod_two_pow (n := 8)

theorem eight {k : Nat} (h : k < 8) : k = 0 ∨ k = 1 ∨ k = 2 ∨ k = 3 ∨ k = 4 ∨ k = 5 ∨ k = 6 ∨ k = 7 := by omega

theorem byt_not (x k : Nat) (hx : x < 18446744073709551616) (hk : k < 8) : byt (not64 x) k = 255 - byt x k := by
  unfold byt not64
  rcases eight hk with rfl | rfl | rfl | rfl | rfl | rfl | rfl | rfl <;> simp only [Nat.reduceMul, Nat.reducePow] <;> omega

/-- The borrow into byte k. -/
def bor (x c k : Nat) : Nat := if x % 2 ^ (8 * k) < c % 2 ^ (8 * k) then 1 else 0

theorem byt_sub1 (x k : Nat) (hx : x < 18446744073709551616) (hk : k < 8) : byt (sub64 x 72340172838076673) k = (byt x k + 255 - bor x 72340172838076673 k) % 256 := by
  unfold byt sub64 bor
  rcases eight hk with rfl | rfl | rfl | rfl | rfl | rfl | rfl | rfl <;> simp only [Nat.reduceMul, Nat.reducePow, Nat.reduceMod, Nat.reduceSub] <;> split <;> omega

theorem byt_sub32 (x k : Nat) (hx : x < 18446744073709551616) (hk : k < 8) : byt (sub64 x 2314885530818453536) k = (byt x k + 224 - bor x 2314885530818453536 k) % 256 := by
  unfold byt sub64 bor
  rcases eight hk with rfl | rfl | rfl | rfl | rfl | rfl | rfl | rfl <;> simp only [Nat.reduceMul, Nat.reducePow, Nat.reduceMod, Nat.reduceSub] <;> split <;> omega

/-- No byte below k is less than d: no borrow into byte k, of the word whose bytes are all d. -/
theorem bor1 (x k : Nat) (hk : k < 8) (h : ∀ i, i < k → 1 ≤ byt x i) : bor x 72340172838076673 k = 0 := by
  have h0 := h 0; have h1 := h 1; have h2 := h 2; have h3 := h 3; have h4 := h 4; have h5 := h 5; have h6 := h 6
  unfold byt at h0 h1 h2 h3 h4 h5 h6
  unfold bor
  rcases eight hk with rfl | rfl | rfl | rfl | rfl | rfl | rfl | rfl <;> simp only [Nat.reduceMul, Nat.reducePow, Nat.reduceMod] at * <;> rw [if_neg (by omega)]
theorem bor32 (x k : Nat) (hk : k < 8) (h : ∀ i, i < k → 32 ≤ byt x i) : bor x 2314885530818453536 k = 0 := by
  have h0 := h 0; have h1 := h 1; have h2 := h 2; have h3 := h 3; have h4 := h 4; have h5 := h 5; have h6 := h 6
  unfold byt at h0 h1 h2 h3 h4 h5 h6
  unfold bor
  rcases eight hk with rfl | rfl | rfl | rfl | rfl | rfl | rfl | rfl <;> simp only [Nat.reduceMul, Nat.reducePow, Nat.reduceMod] at * <;> rw [if_neg (by omega)]

/-- One byte's mark, by the byte and the three borrows. -/
def mk (b u v t : Nat) : Nat :=
  (((((b ^^^ 34) + 255 - u) % 256 &&& (255 - (b ^^^ 34))) ||| (((b ^^^ 92) + 255 - v) % 256 &&& (255 - (b ^^^ 92)))) ||| ((b + 224 - t) % 256 &&& (255 - b))) &&& 128

theorem mk_fin : ∀ (b : Fin 256) (u v t : Fin 2), (mk b u v t = 0 ∨ mk b u v t = 128) ∧ ((b.val = 34 ∨ b.val = 92 ∨ b.val < 32) → mk b u v t = 128) ∧ (128 ≤ b.val → mk b u v t = 0) ∧
    ((b.val ≠ 34 ∧ b.val ≠ 92 ∧ 32 ≤ b.val) → mk b 0 0 0 = 0) := by decide +kernel

theorem bor_lt (x c k : Nat) : bor x c k < 2 := by unfold bor; split <;> omega

theorem xor_lt (x c : Nat) (hx : x < 18446744073709551616) (hc : c < 18446744073709551616) : x ^^^ c < 18446744073709551616 := Nat.xor_lt_two_pow (n := 64) hx hc

theorem byt_stops (x k : Nat) (hx : x < 18446744073709551616) (hk : k < 8) :
    byt (stopsN x) k = mk (byt x k) (bor (x ^^^ 2459565876494606882) 72340172838076673 k) (bor (x ^^^ 6655295901103053916) 72340172838076673 k) (bor x 2314885530818453536 k) := by
  have q1 := xor_lt x 2459565876494606882 hx (by decide)
  have q2 := xor_lt x 6655295901103053916 hx (by decide)
  have m1 : byt 2459565876494606882 k = 34 := by rcases eight hk with rfl | rfl | rfl | rfl | rfl | rfl | rfl | rfl <;> rfl
  have m2 : byt 6655295901103053916 k = 92 := by rcases eight hk with rfl | rfl | rfl | rfl | rfl | rfl | rfl | rfl <;> rfl
  have m3 : byt 9259542123273814144 k = 128 := by rcases eight hk with rfl | rfl | rfl | rfl | rfl | rfl | rfl | rfl <;> rfl
  unfold stopsN mk
  rw [byt_and, byt_or, byt_or, byt_and, byt_and, byt_and, byt_not _ k q1 hk, byt_not _ k q2 hk, byt_not _ k hx hk, byt_sub1 _ k q1 hk, byt_sub1 _ k q2 hk, byt_sub32 _ k hx hk, byt_xor, byt_xor, m1, m2, m3]

theorem mark_facts (x k : Nat) (hx : x < 18446744073709551616) (hk : k < 8) :
    (byt (stopsN x) k = 0 ∨ byt (stopsN x) k = 128) ∧ (stopB (byt x k) → byt (stopsN x) k = 128) ∧ (128 ≤ byt x k → byt (stopsN x) k = 0) ∧
    ((∀ i, i < k → ¬ stopB (byt x i)) → ¬ stopB (byt x k) → byt (stopsN x) k = 0) := by
  rw [byt_stops x k hx hk]
  have u := bor_lt (x ^^^ 2459565876494606882) 72340172838076673 k
  have v := bor_lt (x ^^^ 6655295901103053916) 72340172838076673 k
  have t := bor_lt x 2314885530818453536 k
  have F := mk_fin ⟨byt x k, byt_lt x k⟩ ⟨_, u⟩ ⟨_, v⟩ ⟨_, t⟩
  refine ⟨F.1, F.2.1, F.2.2.1, fun hall hn => ?_⟩
  have hne : ∀ (c d i : Nat), byt c i = d → d < 256 → (byt x i ≠ d) → 1 ≤ byt (x ^^^ c) i := by
    intro c d i hc hd hn2
    rw [byt_xor, hc]
    by_cases h0 : byt x i ^^^ d = 0
    · have e : (byt x i ^^^ d) ^^^ d = byt x i := by rw [Nat.xor_assoc, Nat.xor_self, Nat.xor_zero]
      rw [h0, Nat.zero_xor] at e
      exact absurd e.symm hn2
    · omega
  have i8 : ∀ i, i < k → i < 8 := fun i hi => by omega
  have b1 := bor1 (x ^^^ 2459565876494606882) k hk (fun i hi => hne _ 34 i (by rcases eight (i8 i hi) with rfl | rfl | rfl | rfl | rfl | rfl | rfl | rfl <;> rfl) (by decide) (fun e => hall i hi (.inl e)))
  have b2 := bor1 (x ^^^ 6655295901103053916) k hk (fun i hi => hne _ 92 i (by rcases eight (i8 i hi) with rfl | rfl | rfl | rfl | rfl | rfl | rfl | rfl <;> rfl) (by decide) (fun e => hall i hi (.inr (.inl e))))
  have b3 := bor32 x k hk (fun i hi => by
    have := hall i hi
    unfold stopB at this
    omega)
  rw [b1, b2, b3]
  refine F.2.2.2 ?_
  unfold stopB at hn
  exact ⟨fun e => hn (.inl e), fun e => hn (.inr (.inl e)), by show 32 ≤ byt x k; omega⟩

/-! ### The model's words for the same -/
theorem wrap_sub (a c : Nat) (ha : a < 18446744073709551616) (hc : c < 18446744073709551616) : IntKind.u64.wrap ((a : Int) - (c : Int)) = ((sub64 a c : Nat) : Int) := by
  rw [IntKind.wrap_u64]
  unfold sub64
  omega
theorem sub64_lt (a c : Nat) : sub64 a c < 18446744073709551616 := Nat.mod_lt _ (by decide)
theorem not64_lt (a : Nat) : not64 a < 18446744073709551616 := by unfold not64; omega
theorem and_lt (a b : Nat) (ha : a < 18446744073709551616) : a &&& b < 18446744073709551616 := Nat.lt_of_le_of_lt Nat.and_le_left ha
theorem or_lt (a b : Nat) (ha : a < 18446744073709551616) (hb : b < 18446744073709551616) : a ||| b < 18446744073709551616 := Nat.or_lt_two_pow (n := 64) ha hb
theorem stopsN_lt (x : Nat) : stopsN x < 18446744073709551616 := Nat.lt_of_le_of_lt Nat.and_le_right (by decide)

theorem bits_xor_n (a b : Nat) (ha : a < 18446744073709551616) (hb : b < 18446744073709551616) : bits .xor .u64 (a : Int) (b : Int) = ((a ^^^ b : Nat) : Int) := bits_xor_u64_nat a b ha hb

theorem bits_mark (y k : Nat) (hy : y < 18446744073709551616) : bits .and .u64 ((y : Int) / 2 ^ (8 * k)) 255 = ((byt y k : Nat) : Int) := by
  have e : ((y : Int) / 2 ^ (8 * k)) = ((y / 2 ^ (8 * k) : Nat) : Int) := by simp
  have h : y / 2 ^ (8 * k) < 18446744073709551616 := Nat.lt_of_le_of_lt (Nat.div_le_self _ _) hy
  rw [e]
  have r := u64_and_nat (y / 2 ^ (8 * k)) 255 h (by decide)
  rw [show ((255 : Nat) : Int) = 255 from rfl] at r
  rw [r]
  unfold byt
  rw [show (255 : Nat) = 2 ^ 8 - 1 from rfl, Nat.and_two_pow_sub_one_eq_mod]
theorem int_byt (x k : Nat) : (x : Int) / 2 ^ (8 * k) % 256 = ((byt x k : Nat) : Int) := by
  unfold byt
  simp

theorem bits_stops (x : Nat) (hx : x < 18446744073709551616) :
    bits .and .u64 (bits .or .u64 (bits .or .u64 (bits .andNot .u64 (IntKind.u64.wrap (bits .xor .u64 (x : Int) 2459565876494606882 - 72340172838076673)) (bits .xor .u64 (x : Int) 2459565876494606882))
      (bits .andNot .u64 (IntKind.u64.wrap (bits .xor .u64 (x : Int) 6655295901103053916 - 72340172838076673)) (bits .xor .u64 (x : Int) 6655295901103053916)))
      (bits .andNot .u64 (IntKind.u64.wrap ((x : Int) - 2314885530818453536)) (x : Int))) 9259542123273814144 = ((stopsN x : Nat) : Int) := by
  have q1 := xor_lt x 2459565876494606882 hx (by decide)
  have q2 := xor_lt x 6655295901103053916 hx (by decide)
  have e1 : bits .xor .u64 (x : Int) 2459565876494606882 = ((x ^^^ 2459565876494606882 : Nat) : Int) := bits_xor_n x 2459565876494606882 hx (by decide)
  have e2 : bits .xor .u64 (x : Int) 6655295901103053916 = ((x ^^^ 6655295901103053916 : Nat) : Int) := bits_xor_n x 6655295901103053916 hx (by decide)
  have w1 : IntKind.u64.wrap (((x ^^^ 2459565876494606882 : Nat) : Int) - 72340172838076673) = _ := wrap_sub (x ^^^ 2459565876494606882) 72340172838076673 q1 (by decide)
  have w2 : IntKind.u64.wrap (((x ^^^ 6655295901103053916 : Nat) : Int) - 72340172838076673) = _ := wrap_sub (x ^^^ 6655295901103053916) 72340172838076673 q2 (by decide)
  have w3 : IntKind.u64.wrap ((x : Int) - 2314885530818453536) = _ := wrap_sub x 2314885530818453536 hx (by decide)
  have a1 := u64_andNot_nat (sub64 (x ^^^ 2459565876494606882) 72340172838076673) (x ^^^ 2459565876494606882) (sub64_lt _ _) q1
  have a2 := u64_andNot_nat (sub64 (x ^^^ 6655295901103053916) 72340172838076673) (x ^^^ 6655295901103053916) (sub64_lt _ _) q2
  have a3 := u64_andNot_nat (sub64 x 2314885530818453536) x (sub64_lt _ _) hx
  rw [e1, e2, w1, w2, w3, a1, a2, a3]
  rw [u64_or_nat _ _ (and_lt _ _ (sub64_lt _ _)) (and_lt _ _ (sub64_lt _ _)), u64_or_nat _ _ (or_lt _ _ (and_lt _ _ (sub64_lt _ _)) (and_lt _ _ (sub64_lt _ _))) (and_lt _ _ (sub64_lt _ _))]
  have f := u64_and_nat (((sub64 (x ^^^ 2459565876494606882) 72340172838076673 &&& not64 (x ^^^ 2459565876494606882)) ||| (sub64 (x ^^^ 6655295901103053916) 72340172838076673 &&& not64 (x ^^^ 6655295901103053916))) ||| (sub64 x 2314885530818453536 &&& not64 x)) 9259542123273814144
    (or_lt _ _ (or_lt _ _ (and_lt _ _ (sub64_lt _ _)) (and_lt _ _ (sub64_lt _ _))) (and_lt _ _ (sub64_lt _ _))) (by decide)
  exact f
end Go.Proofs.Qxb6603201a
