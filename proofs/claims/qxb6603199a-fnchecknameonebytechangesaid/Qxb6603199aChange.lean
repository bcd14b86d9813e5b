/-
  THE PLAIN LAW OF ONE BYTE CHANGED: no Go in sight.
-/
import Derived.WalkKit
import Derived.Test.Qxb6603199aPlain
import Derived.Laws.IdiomStrings
import Derived.Deep.OwnRows
namespace Go.Proofs.Qxb6603199a
open Go.RowKit

/-- The bytes of s, byte i turned into c. -/
def chgL (s : ByteArray) (i c : Nat) : List UInt8 := s.data.toList.set i (UInt8.ofNat c)
def chgB (s : ByteArray) (i c : Nat) : ByteArray := ⟨(chgL s i c).toArray⟩

theorem chgL_len (s : ByteArray) (i c : Nat) : (chgL s i c).length = s.size := by simp [chgL]
theorem chgB_size (s : ByteArray) (i c : Nat) : (chgB s i c).size = s.size := by
  show (chgL s i c).toArray.size = s.size
  rw [List.size_toArray, chgL_len]

theorem bt_chg (s : ByteArray) (i c k : Nat) (hi : i < s.size) (hc : c < 256) : bt (chgB s i c) k = if k = i then c else bt s k := by
  unfold bt
  have e : (chgB s i c).data.toList = chgL s i c := rfl
  rw [e]
  unfold chgL
  rw [List.getD_eq_getElem?_getD, List.getD_eq_getElem?_getD, List.getElem?_set]
  have hl : s.data.toList.length = s.size := by simp
  by_cases h : k = i
  · subst h
    rw [if_pos rfl, if_pos (by omega), if_pos rfl]
    simp
    omega
  · rw [if_neg (fun e => h e.symm), if_neg h]

theorem chgL_at (s : ByteArray) (i c j : Nat) (hi : i < s.size) (hc : c < 256) (hj : j < (chgL s i c).length) : (chgL s i c)[j].toNat = if j = i then c else bt s j := by
  rw [← bt_chg s i c j hi hc]
  unfold bt
  have e : (chgB s i c).data.toList = chgL s i c := rfl
  rw [e, List.getD_eq_getElem?_getD, List.getElem?_eq_getElem hj]
  rfl

theorem good_chg {s : ByteArray} {i c : Nat} (hg : Good s) (hi : i < s.size) (hc : c < 256) : Good (chgB s i c) ↔ (okN c ∨ (c = 45 ∧ 0 < i ∧ i < s.size - 1)) := by
  obtain ⟨g1, g2, g3, g4, g5⟩ := hg
  have es := chgB_size s i c
  constructor
  · rintro ⟨_, _, p3, p4, p5⟩
    have q := p5 i (by omega)
    rw [bt_chg s i c i hi hc, if_pos rfl] at q
    rcases q with q | q
    · exact .inl q
    · refine .inr ⟨q, ?_, ?_⟩
      · by_cases e : i = 0
        · subst e
          rw [bt_chg s 0 c 0 hi hc, if_pos rfl] at p3
          exact absurd q p3
        · omega
      · by_cases e : i = s.size - 1
        · rw [es, bt_chg s i c _ hi hc, if_pos e.symm] at p4
          exact absurd q p4
        · omega
  · intro h
    have h45 : c = 45 → 0 < i ∧ i < s.size - 1 := by
      intro e
      rcases h with h | h
      · unfold okN at h; omega
      · exact h.2
    refine ⟨by omega, by omega, ?_, ?_, ?_⟩
    · rw [bt_chg s i c 0 hi hc]
      by_cases e : 0 = i
      · rw [if_pos e]; intro e2; have := h45 e2; omega
      · rw [if_neg e]; exact g3
    · rw [es, bt_chg s i c _ hi hc]
      by_cases e : s.size - 1 = i
      · rw [if_pos e]; intro e2; have := h45 e2; omega
      · rw [if_neg e]; exact g4
    · intro k hk
      rw [bt_chg s i c k hi hc]
      by_cases e : k = i
      · rw [if_pos e]
        rcases h with h | h
        · exact .inl h
        · exact .inr h.1
      · rw [if_neg e]; exact g5 k (by omega)

/-- What the copy holds after k rounds. -/
def cop (s : ByteArray) (k j : Nat) : Value := .int .u8 (if j < k then (bt s j : Int) else 0)

theorem row_start {w : World} (n : Nat) (s : ByteArray) : (w.alloc (.cells (madeCells #[.int .u8 0] n) 5)).rowIs w.heap.size 5 n (cop s 0) :=
  (World.rowIs_made w (.int .u8 0) n 5).congr fun i _ => by simp [cop]

theorem row_step {w : World} {b n k : Nat} {s : ByteArray} (h : w.rowIs b 5 n (cop s k)) : (w.setCell ⟨b, k, none⟩ (.int .u8 (bt s k))).rowIs b 5 n (cop s (k + 1)) :=
  (h.set k (.int .u8 (bt s k))).congr fun j _ => by
    unfold cop
    by_cases e : j = k
    · subst e
      rw [if_pos rfl, if_pos (by omega)]
    · rw [if_neg e]
      by_cases e2 : j < k
      · rw [if_pos e2, if_pos (by omega)]
      · rw [if_neg e2, if_neg (by omega)]

theorem conv_chg {P : Program} {w : World} {b i c : Nat} {s : ByteArray} (src dst : TypeId) (hs : P.underlying src = some (.slice 5)) (he : P.underlying 5 = some (.int .u8)) (hd : P.underlying dst = some .string)
    (h : w.rowIs b 5 s.size (cop s s.size)) (hi : i < s.size) (hc : c < 256) :
    (convert src dst (.slice (some ⟨b, 0, none⟩) s.size s.size)).run P (w.setCell ⟨b, i, none⟩ (.int .u8 c)) = .ok (.string (chgB s i c)) (w.setCell ⟨b, i, none⟩ (.int .u8 c)) := by
  have h2 := h.set i (.int .u8 c)
  have r := run_convert_bytes_back (P := P) (w.setCell ⟨b, i, none⟩ (.int .u8 c)) src dst 5 ⟨b, 0, none⟩ s.size (chgL s i c) hs he hd (fun j hj => by
    have hj2 : j < s.size := by rw [chgL_len] at hj; exact hj
    have := h2.cell hj2
    rw [show (Addr.add ⟨b, 0, none⟩ j) = ⟨b, j, none⟩ by simp [Addr.add]; omega, this, chgL_at s i c j hi hc hj]
    unfold cop
    by_cases e : j = i
    · rw [if_pos e, if_pos e]
    · rw [if_neg e, if_neg e, if_pos hj2])
  rw [chgL_len] at r
  exact r
end Go.Proofs.Qxb6603199a
