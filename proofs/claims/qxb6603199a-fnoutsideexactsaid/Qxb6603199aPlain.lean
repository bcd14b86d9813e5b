/-
  THE PLAIN LAWS OF NAMES: no Go in sight. 'bt s k': the byte at k, as a number (0 beyond the end). 'Good s': what CheckName accepts.
-/
import Derived.WalkKit
namespace Go.Proofs.Qxb6603199a
open Go.RowKit

theorem hide {p : Prop} (h : p) : Hid p := h

def bt (s : ByteArray) (k : Nat) : Nat := (s.data.toList.getD k 0).toNat
def okN (n : Nat) : Prop := (97 ≤ n ∧ n ≤ 122) ∨ (48 ≤ n ∧ n ≤ 57)
def nameN (n : Nat) : Prop := okN n ∨ n = 45
def Good (s : ByteArray) : Prop := 1 ≤ s.size ∧ s.size ≤ 63 ∧ bt s 0 ≠ 45 ∧ bt s (s.size - 1) ≠ 45 ∧ ∀ k, k < s.size → nameN (bt s k)

theorem bt_eq (s : ByteArray) (k : Nat) (h : k < s.size) : s[k].toNat = bt s k := by
  unfold bt
  congr 1
  have h2 : k < s.data.toList.length := by simpa using h
  rw [List.getD_eq_getElem?_getD, List.getElem?_eq_getElem h2]
  rfl

theorem bt_lt (s : ByteArray) (k : Nat) : bt s k < 256 := by
  unfold bt; exact (s.data.toList.getD k 0).toNat_lt

theorem isEmpty_of (s : ByteArray) (h : 1 ≤ s.size) : s.toList.isEmpty = false := by
  rw [Bool.eq_false_iff]
  intro h2
  rw [List.isEmpty_iff] at h2
  have e : s.toList.length = s.size := by rw [ByteArray.toList_eq]; simp
  rw [h2] at e
  simp at e
  omega
theorem bt_append (a b : ByteArray) (k : Nat) : bt (a ++ b) k = if k < a.size then bt a k else bt b (k - a.size) := by
  unfold bt
  have e : (a ++ b).data.toList = a.data.toList ++ b.data.toList := by simp
  have ea : a.data.toList.length = a.size := by simp
  rw [e, List.getD_eq_getElem?_getD, List.getD_eq_getElem?_getD, List.getD_eq_getElem?_getD]
  by_cases h : k < a.size
  · rw [if_pos h, List.getElem?_append_left (by omega)]
  · rw [if_neg h, List.getElem?_append_right (by omega), ea]

theorem good_join {a b : ByteArray} (ha : Good a) (hb : Good b) (h : a.size + b.size ≤ 63) : Good (a ++ b) := by
  obtain ⟨a1, a2, a3, a4, a5⟩ := ha
  obtain ⟨b1, b2, b3, b4, b5⟩ := hb
  have es : (a ++ b).size = a.size + b.size := by simp [ByteArray.size_append]
  refine ⟨by omega, by omega, ?_, ?_, ?_⟩
  · rw [bt_append, if_pos (by omega)]; exact a3
  · rw [bt_append, es, if_neg (by omega), show a.size + b.size - 1 - a.size = b.size - 1 by omega]; exact b4
  · intro k hk
    rw [bt_append]
    by_cases h : k < a.size
    · rw [if_pos h]; exact a5 k h
    · rw [if_neg h]; exact b5 _ (by omega)

theorem good_hyphen {a b : ByteArray} (ha : Good a) (hb : Good b) (h : a.size + 1 + b.size ≤ 63) : Good (a ++ ⟨#[45]⟩ ++ b) := by
  obtain ⟨a1, a2, a3, a4, a5⟩ := ha
  obtain ⟨b1, b2, b3, b4, b5⟩ := hb
  have e1 : (⟨#[45]⟩ : ByteArray).size = 1 := rfl
  have es : (a ++ ⟨#[45]⟩ ++ b).size = a.size + 1 + b.size := by rw [ByteArray.size_append, ByteArray.size_append, e1]
  have et : (a ++ (⟨#[45]⟩ : ByteArray)).size = a.size + 1 := by rw [ByteArray.size_append, e1]
  refine ⟨by omega, by omega, ?_, ?_, ?_⟩
  · rw [bt_append, bt_append, et, if_pos (by omega), if_pos (by omega)]; exact a3
  · rw [bt_append, es, et, if_neg (by omega), show a.size + 1 + b.size - 1 - (a.size + 1) = b.size - 1 by omega]; exact b4
  · intro k hk
    rw [bt_append, et]
    by_cases h : k < a.size + 1
    · rw [if_pos h, bt_append]
      by_cases h' : k < a.size
      · rw [if_pos h']; exact a5 k h'
      · rw [if_neg h', show k - a.size = 0 by omega]; exact .inr rfl
    · rw [if_neg h]; exact b5 _ (by omega)
end Go.Proofs.Qxb6603199a
