/-
  THE PLAIN LAW OF THE HYPHEN PIECES: no Go in sight.
-/
import Derived.WalkKit
import Derived.Test.Qxb6603199aPlain
namespace Go.Proofs.Qxb6603199a
open Go.RowKit

/-- What holds of the outer loop's variables at the head of round i: 'st' where the piece in hand begins, 'pn' how many pieces are done, 'fe' | 'le': the first | the last piece was empty, 'v': all bytes so far may stand. -/
def Inv (s : ByteArray) (i st pn : Nat) (v fe le : Bool) : Prop :=
  i ≤ s.size + 1 ∧ st ≤ i ∧ pn ≤ i ∧
  (i ≤ s.size → ((st = 0 ∧ pn = 0) ∨ (1 ≤ st ∧ 1 ≤ pn ∧ bt s (st - 1) = 45 ∧ (fe = true ↔ bt s 0 = 45))) ∧ (∀ k, st ≤ k → k < i → bt s k ≠ 45) ∧ (v = true ↔ ∀ k, k < st → nameN (bt s k))) ∧
  (i = s.size + 1 → (fe = true ↔ bt s 0 = 45) ∧ (le = true ↔ bt s (s.size - 1) = 45) ∧ (v = true ↔ ∀ k, k < s.size → nameN (bt s k)))

theorem inv_start (s : ByteArray) : Inv s 0 0 0 true false false :=
  ⟨by omega, by omega, by omega, fun _ => ⟨.inl ⟨rfl, rfl⟩, fun k _ h => absurd h (Nat.not_lt_zero _), by simp⟩, fun h => by omega⟩

theorem inv_pass {s : ByteArray} {i st pn : Nat} {v fe le : Bool} (h : Inv s i st pn v fe le) (hi : i < s.size) (hb : bt s i ≠ 45) : Inv s (i + 1) st pn v fe le := by
  obtain ⟨a1, a2, a3, a4, a5⟩ := h
  obtain ⟨b1, b2, b3⟩ := a4 (by omega)
  refine ⟨by omega, by omega, by omega, fun _ => ⟨b1, ?_, b3⟩, fun h => by omega⟩
  intro k hk1 hk2
  by_cases e : k = i
  · rw [e]; exact hb
  · exact b2 k hk1 (by omega)

/-- The inner loop's word on the piece [st, j). -/
def Inn (s : ByteArray) (v0 : Bool) (st j : Nat) (v : Bool) : Prop := v = true ↔ (v0 = true ∧ ∀ k, st ≤ k → k < j → okN (bt s k))

theorem inn_start (s : ByteArray) (v0 : Bool) (st : Nat) : Inn s v0 st st v0 :=
  ⟨fun h => ⟨h, fun k h1 h2 => by omega⟩, fun h => h.1⟩

theorem inn_yes {s : ByteArray} {v0 : Bool} {st j : Nat} {v : Bool} (h : Inn s v0 st j v) (hb : okN (bt s j)) : Inn s v0 st (j + 1) v := by
  constructor
  · intro hv
    refine ⟨(h.1 hv).1, fun k h1 h2 => ?_⟩
    by_cases e : k = j
    · rw [e]; exact hb
    · exact (h.1 hv).2 k h1 (by omega)
  · rintro ⟨h0, hk⟩
    exact h.2 ⟨h0, fun k h1 h2 => hk k h1 (by omega)⟩

theorem inn_no {s : ByteArray} {v0 : Bool} {st j : Nat} (hj : st ≤ j) (hb : ¬ okN (bt s j)) : Inn s v0 st (j + 1) false :=
  ⟨fun h => by simp at h, fun ⟨_, hk⟩ => absurd (hk j hj (by omega)) hb⟩

theorem inv_cut {s : ByteArray} {i st pn : Nat} {v fe le v' fe' le' : Bool} (h1 : 1 ≤ s.size) (h : Inv s i st pn v fe le) (hi : i ≤ s.size) (hb : i < s.size → bt s i = 45)
    (hv : Inn s v st i v') (hl : le' = true ↔ i = st) (hf0 : pn = 0 → (fe' = true ↔ i = st)) (hf1 : pn ≠ 0 → fe' = fe) : Inv s (i + 1) (i + 1) (pn + 1) v' fe' le' := by
  obtain ⟨a1, a2, a3, a4, a5⟩ := h
  obtain ⟨b1, b2, b3⟩ := a4 hi
  have F : fe' = true ↔ bt s 0 = 45 := by
    rcases b1 with ⟨c1, c2⟩ | ⟨c1, c2, c3, c4⟩
    · rw [hf0 c2]
      constructor
      · intro e
        have e0 : i = 0 := by omega
        have := hb (by omega)
        rw [e0] at this
        exact this
      · intro e
        by_cases e0 : i = 0
        · omega
        · exact absurd e (b2 0 (by omega) (by omega))
    · rw [hf1 (by omega)]; exact c4
  have V : v' = true ↔ ∀ k, k < i → nameN (bt s k) := by
    unfold Inn at hv
    rw [hv, b3]
    constructor
    · rintro ⟨p1, p2⟩ k hk
      by_cases e : k < st
      · exact p1 k e
      · exact .inl (p2 k (by omega) hk)
    · intro p
      refine ⟨fun k hk => p k (by omega), fun k hk1 hk2 => ?_⟩
      rcases p k hk2 with q | q
      · exact q
      · exact absurd q (b2 k hk1 hk2)
  refine ⟨by omega, by omega, by omega, fun h2 => ⟨.inr ⟨by omega, by omega, ?_, F⟩, fun k k1 k2 => by omega, ?_⟩, fun h2 => ⟨F, ?_, ?_⟩⟩
  · rw [Nat.add_sub_cancel]; exact hb (by omega)
  · rw [V]
    constructor
    · intro p k hk
      by_cases e : k = i
      · rw [e]; exact .inr (hb (by omega))
      · exact p k (by omega)
    · intro p k hk; exact p k (by omega)
  · have e : i = s.size := by omega
    subst e
    rw [hl]
    constructor
    · intro q
      rcases b1 with ⟨c1, c2⟩ | ⟨c1, c2, c3, c4⟩
      · omega
      · rw [q]; exact c3
    · intro q
      by_cases q2 : s.size = st
      · exact q2
      · exact absurd q (b2 (s.size - 1) (by omega) (by omega))
  · have e : i = s.size := by omega
    subst e
    exact V

theorem inv_end {s : ByteArray} {i st pn : Nat} {v fe le : Bool} (h1 : 1 ≤ s.size) (h63 : s.size ≤ 63) (h : Inv s i st pn v fe le) (hi : ¬ i ≤ s.size) : Good s ↔ (fe = false ∧ le = false ∧ v = true) := by
  obtain ⟨a1, a2, a3, a4, a5⟩ := h
  obtain ⟨F, L, V⟩ := a5 (by omega)
  constructor
  · rintro ⟨_, _, g3, g4, g5⟩
    refine ⟨?_, ?_, V.2 g5⟩
    · cases fe
      · rfl
      · exact absurd (F.1 rfl) g3
    · cases le
      · rfl
      · exact absurd (L.1 rfl) g4
  · rintro ⟨rfl, rfl, rfl⟩
    exact ⟨h1, h63, fun e => by simpa using F.2 e, fun e => by simpa using L.2 e, V.1 rfl⟩

theorem bad_cases {g : Prop} {v fe le : Bool} (h : g ↔ (fe = false ∧ le = false ∧ v = true)) (hg : ¬ g) : fe = true ∨ (fe = false ∧ le = true) ∨ (fe = false ∧ le = false ∧ v = false) := by
  rw [h] at hg
  clear h
  cases fe
  · cases le
    · cases v
      · exact .inr (.inr ⟨rfl, rfl, rfl⟩)
      · exact absurd ⟨rfl, rfl, rfl⟩ hg
    · exact .inr (.inl ⟨rfl, rfl⟩)
  · exact .inl rfl
end Go.Proofs.Qxb6603199a
