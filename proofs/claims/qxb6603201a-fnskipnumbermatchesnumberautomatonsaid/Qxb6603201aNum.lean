/-
  THE PLAIN AUTOMATON OF NUMBERS: no Go in sight. A text: 'n' bytes 't 0', .., as numbers.
-/
import Derived.WalkKit
namespace Go.Proofs.Qxb6603201a.Num
open Go.RowKit

theorem hide {p : Prop} (h : p) : Hid p := h

def dig (c : Nat) : Prop := 48 ≤ c ∧ c ≤ 57
/-- The byte at i; 0 beyond the end. -/
def ba (t : Nat → Nat) (n i : Nat) : Nat := if i < n then t i else 0

/-- One step of the automaton: the next state; 9: none. -/
def stp (s c : Nat) : Nat :=
  if s = 0 then (if c = 45 then 1 else if c = 48 then 2 else if 48 ≤ c ∧ c ≤ 57 then 3 else 9)
  else if s = 1 then (if c = 48 then 2 else if 48 ≤ c ∧ c ≤ 57 then 3 else 9)
  else if s = 2 then (if c = 46 then 4 else if c = 101 ∨ c = 69 then 6 else 9)
  else if s = 3 then (if 48 ≤ c ∧ c ≤ 57 then 3 else if c = 46 then 4 else if c = 101 ∨ c = 69 then 6 else 9)
  else if s = 4 then (if 48 ≤ c ∧ c ≤ 57 then 5 else 9)
  else if s = 5 then (if 48 ≤ c ∧ c ≤ 57 then 5 else if c = 101 ∨ c = 69 then 6 else 9)
  else if s = 6 then (if c = 43 ∨ c = 45 then 7 else if 48 ≤ c ∧ c ≤ 57 then 8 else 9)
  else if s = 7 then (if 48 ≤ c ∧ c ≤ 57 then 8 else 9)
  else if s = 8 then (if 48 ≤ c ∧ c ≤ 57 then 8 else 9)
  else 9

/-- Is the state an accepting one? -/
def acc (s : Nat) : Bool := s == 2 || s == 3 || s == 5 || s == 8

/-- m steps from state s at place i lead to state s'. -/
def Rch (t : Nat → Nat) (n : Nat) : Nat → Nat → Nat → Nat → Prop
  | 0, s, _, s' => s' = s
  | m + 1, s, i, s' => i < n ∧ stp s (t i) ≠ 9 ∧ Rch t n m (stp s (t i)) (i + 1) s'

/-- No step from state s at place i. -/
def Stuck (t : Nat → Nat) (n s i : Nat) : Prop := ¬ (i < n ∧ stp s (t i) ≠ 9)

/-- From state s at place i the automaton comes to state s' at place j. -/
def To (t : Nat → Nat) (n s i s' j : Nat) : Prop := ∃ m, j = i + m ∧ Rch t n m s i s'

theorem To.refl (t : Nat → Nat) (n s i : Nat) : To t n s i s i := ⟨0, rfl, rfl⟩

theorem Rch.trans {t : Nat → Nat} {n : Nat} : ∀ {m m' s i s' s'' : Nat}, Rch t n m s i s' → Rch t n m' s' (i + m) s'' → Rch t n (m + m') s i s''
  | 0, m', s, i, s', s'', h, h' => by
    have e : s' = s := h
    subst e
    rw [Nat.zero_add]
    exact h'
  | m + 1, m', s, i, s', s'', h, h' => by
    obtain ⟨h1, h2, h3⟩ := h
    rw [show m + 1 + m' = (m + m') + 1 by omega]
    refine ⟨h1, h2, Rch.trans h3 ?_⟩
    rw [show i + 1 + m = i + (m + 1) by omega]
    exact h'

theorem To.trans {t : Nat → Nat} {n s i s' j s'' k : Nat} (h : To t n s i s' j) (h' : To t n s' j s'' k) : To t n s i s'' k := by
  obtain ⟨m, rfl, r⟩ := h
  obtain ⟨m', rfl, r'⟩ := h'
  exact ⟨m + m', by omega, r.trans r'⟩

theorem To.one {t : Nat → Nat} {n s i s' : Nat} (hi : i < n) (h : stp s (t i) = s') (h9 : s' ≠ 9) : To t n s i s' (i + 1) :=
  ⟨1, rfl, hi, by rw [h]; exact h9, by show s' = stp s (t i); exact h.symm⟩

theorem To.snoc {t : Nat → Nat} {n s i s' j s'' : Nat} (h : To t n s i s' j) (hi : j < n) (hs : stp s' (t j) = s'') (h9 : s'' ≠ 9) : To t n s i s'' (j + 1) :=
  h.trans (To.one hi hs h9)

/-- Where the automaton comes to a halt is one place, one state. -/
theorem Rch.unique {t : Nat → Nat} {n : Nat} : ∀ {m m' s i s1 s2 : Nat}, Rch t n m s i s1 → Stuck t n s1 (i + m) → Rch t n m' s i s2 → Stuck t n s2 (i + m') → m = m' ∧ s1 = s2
  | 0, 0, s, i, s1, s2, h, _, h', _ => ⟨rfl, by rw [show s1 = s from h, show s2 = s from h']⟩
  | 0, m' + 1, s, i, s1, s2, h, k, h', _ => by
    have e : s1 = s := h
    subst e
    exact absurd ⟨h'.1, h'.2.1⟩ k
  | m + 1, 0, s, i, s1, s2, h, _, h', k => by
    have e : s2 = s := h'
    subst e
    exact absurd ⟨h.1, h.2.1⟩ k
  | m + 1, m' + 1, s, i, s1, s2, h, k, h', k' => by
    have := Rch.unique h.2.2 (by rw [show i + 1 + m = i + (m + 1) by omega]; exact k) h'.2.2 (by rw [show i + 1 + m' = i + (m' + 1) by omega]; exact k')
    exact ⟨by omega, this.2⟩

theorem To.unique {t : Nat → Nat} {n s i s1 j1 s2 j2 : Nat} (h1 : To t n s i s1 j1) (k1 : Stuck t n s1 j1) (h2 : To t n s i s2 j2) (k2 : Stuck t n s2 j2) : j1 = j2 ∧ s1 = s2 := by
  obtain ⟨m, rfl, r⟩ := h1
  obtain ⟨m', rfl, r'⟩ := h2
  have := Rch.unique r k1 r' k2
  exact ⟨by omega, this.2⟩

theorem To.le {t : Nat → Nat} {n s i s' j : Nat} (h : To t n s i s' j) : i ≤ j := by
  obtain ⟨m, rfl, _⟩ := h
  omega

theorem Rch.in {t : Nat → Nat} {n : Nat} : ∀ {m s i s' : Nat}, Rch t n m s i s' → i ≤ n → i + m ≤ n
  | 0, _, _, _, _, h => h
  | m + 1, s, i, s', h, _ => by
    have := Rch.in h.2.2 (show i + 1 ≤ n by have := h.1; omega)
    omega
theorem To.in {t : Nat → Nat} {n s i s' j : Nat} (h : To t n s i s' j) (hi : i ≤ n) : j ≤ n := by
  obtain ⟨m, rfl, r⟩ := h
  exact r.in hi

/-- The window [i, j) alone. -/
theorem Rch.window {t : Nat → Nat} {n d n' : Nat} : ∀ {m s i s' : Nat}, Rch t n m s (d + i) s' → i + m ≤ n' → Rch (fun k => t (d + k)) n' m s i s'
  | 0, s, i, s', h, _ => h
  | m + 1, s, i, s', h, hn => by
    exact ⟨by omega, h.2.1, Rch.window (n := n) (m := m) (i := i + 1) h.2.2 (by omega)⟩
theorem To.window {t : Nat → Nat} {n s i s' j : Nat} (h : To t n s i s' j) : To (fun k => t (i + k)) (j - i) s 0 s' (j - i) ∧ Stuck (fun k => t (i + k)) (j - i) s' (j - i) := by
  obtain ⟨m, rfl, r⟩ := h
  refine ⟨⟨m, by omega, Rch.window (n := n) (d := i) (i := 0) r (by omega)⟩, fun h => absurd h.1 (by omega)⟩

/-- What skipDigits finds: digits from i up to j, none at j. -/
def SD (t : Nat → Nat) (n i j : Nat) : Prop := i ≤ j ∧ (∀ k, i ≤ k → k < j → k < n ∧ dig (t k)) ∧ ¬ (j < n ∧ dig (t j))

theorem SD.start {t : Nat → Nat} {n i : Nat} : i ≤ i ∧ ∀ k, i ≤ k → k < i → k < n ∧ dig (t k) := ⟨Nat.le_refl _, fun k h1 h2 => by omega⟩

/-- Digits keep a state that digits keep. -/
theorem To.digits {t : Nat → Nat} {n s : Nat} (hs : ∀ c, dig c → stp s c = s) (h9 : s ≠ 9) {i : Nat} : ∀ (m : Nat), (∀ k, i ≤ k → k < i + m → k < n ∧ dig (t k)) → To t n s i s (i + m)
  | 0, _ => To.refl _ _ _ _
  | m + 1, h => (To.digits hs h9 m (fun k h1 h2 => h k h1 (by omega))).snoc (h (i + m) (by omega) (by omega)).1 (hs _ (h (i + m) (by omega) (by omega)).2) h9
theorem SD.to {t : Nat → Nat} {n s i j : Nat} (h : SD t n i j) (hs : ∀ c, dig c → stp s c = s) (h9 : s ≠ 9) : To t n s i s j := by
  obtain ⟨h1, h2, _⟩ := h
  obtain ⟨m, rfl⟩ := Nat.exists_eq_add_of_le h1
  exact To.digits hs h9 m h2
/-- .. and one state that the first digit leads into. -/
theorem SD.to' {t : Nat → Nat} {n s s' i j : Nat} (h : SD t n i j) (hne : i ≠ j) (hs : ∀ c, dig c → stp s c = s') (hs' : ∀ c, dig c → stp s' c = s') (h9 : s' ≠ 9) : To t n s i s' j := by
  obtain ⟨h1, h2, h3⟩ := h
  have h0 := h2 i (Nat.le_refl _) (by omega)
  refine (To.one h0.1 (hs _ h0.2) h9).trans ?_
  exact SD.to ⟨by omega, fun k k1 k2 => h2 k (by omega) k2, h3⟩ hs' h9
end Go.Proofs.Qxb6603201a.Num
