/-
  THE CONTRACTS OF CheckName (function 10) AND isLowerOrDigit (function 11).
-/
import Derived.Test.Qxb6603199aRows
import Derived.Test.Qxb6603199aPlain
import Derived.WalkKit
import Derived.WalkSpells
import Derived.WalkLawsBesides
namespace Go.Proofs.Qxb6603199a
open Go.RowKit

def msg : ByteArray := ⟨([109, 117, 115, 116, 32, 98, 101, 32, 49, 32, 116, 111, 32, 54, 51, 32, 108, 111, 119, 101, 114, 45, 99, 97, 115, 101, 32, 108, 101, 116, 116, 101, 114, 115, 44, 32, 100, 105, 103, 105, 116, 115, 32, 97, 110, 100, 32, 104, 121].append [112, 104, 101, 110, 115, 44, 32, 115, 116, 97, 114, 116, 105, 110, 103, 32, 97, 110, 100, 32, 101, 110, 100, 105, 110, 103, 32, 119, 105, 116, 104, 32, 97, 32, 108, 101, 116, 116, 101, 114, 32, 111, 114, 32, 100, 105, 103, 105, 116]).toArray⟩

theorem name_ext {s : ByteArray} {k : Nat} (h : ∀ j, j < k → nameN (bt s j)) (hk : nameN (bt s k)) : ∀ j, j < k + 1 → nameN (bt s j) := by
  intro j hj
  by_cases e : j = k
  · rw [e]; exact hk
  · exact h j (by omega)

theorem msg_ne : msg.toList.isEmpty = false := by rw [ByteArray.toList_eq]; rfl

set_option maxHeartbeats 400000 in
theorem chk_empty (w : World) :
    Calls Try.prog 10 #[.string ⟨#[]⟩] w fun e w' => e = .returned (.string msg) ∧ w' = w := by
  go_enter Try.func10, Try.ntmps10
  go_wp2
  go_ret
  exact ⟨rfl, rfl⟩

set_option maxHeartbeats 400000 in
theorem chk_long (s : ByteArray) (w : World) (hs : s.size ≤ maxLen) (h63 : 63 < s.size) :
    Calls Try.prog 10 #[.string s] w fun e w' => e = .returned (.string msg) ∧ w' = w := by
  unfold maxLen at hs
  have hn := isEmpty_of s (by omega)
  go_enter Try.func10, Try.ntmps10
  go_wp2
  go_ret
  exact ⟨rfl, rfl⟩

set_option maxHeartbeats 400000 in
theorem chk_first (s : ByteArray) (w : World) (hs : s.size ≤ maxLen) (h1 : 1 ≤ s.size) (h63 : s.size ≤ 63) (h0 : (s[0].toNat : Int) = 45) :
    Calls Try.prog 10 #[.string s] w fun e w' => e = .returned (.string msg) ∧ w' = w := by
  unfold maxLen at hs
  have hn := isEmpty_of s (by omega)
  go_enter Try.func10, Try.ntmps10
  go_wp2
  go_ret
  exact ⟨rfl, rfl⟩

set_option maxHeartbeats 400000 in
theorem chk_last (s : ByteArray) (w : World) (hs : s.size ≤ maxLen) (h1 : 1 ≤ s.size) (h63 : s.size ≤ 63) (h0 : ((s[0].toNat : Int) == 45) = false) (hl : ((s[s.size - 1].toNat : Int) == 45) = true) :
    Calls Try.prog 10 #[.string s] w fun e w' => e = .returned (.string msg) ∧ w' = w := by
  unfold maxLen at hs
  have hn := isEmpty_of s (by omega)
  go_enter Try.func10, Try.ntmps10
  go_wp2
  go_ret
  exact ⟨rfl, rfl⟩

set_option maxHeartbeats 400000 in
theorem chk_loop (s : ByteArray) (w : World) (hs : s.size ≤ maxLen) (h1 : 1 ≤ s.size) (h63 : s.size ≤ 63) (h0 : ((s[0].toNat : Int) == 45) = false) (hl : ((s[s.size - 1].toNat : Int) == 45) = false) :
    Calls Try.prog 10 #[.string s] w fun e w' => ((e = .returned (.string msg) ∧ ∃ k, k < s.size ∧ ¬ nameN (bt s k)) ∨ (e = .returned (.string ⟨#[]⟩) ∧ ∀ k, k < s.size → nameN (bt s k))) ∧ w' = w := by
  unfold maxLen at hs
  have hn := isEmpty_of s (by omega)
  go_enter Try.func10, Try.ntmps10
  go_wp2
  go_loop [27] (fun i => ∃ k : Nat, k ≤ s.size ∧ i = .int .i64 k ∧ ∀ j, j < k → nameN (bt s j)) (fun i => s.size - (intOf i).toNat)
  case atStart => exact ⟨0, Nat.zero_le _, rfl, fun j hj => absurd hj (Nat.not_lt_zero _)⟩
  case round =>
    obtain ⟨k, hk, rfl, hall⟩ := hrel
    have HA : Hid (∀ j, j < k → nameN (bt s j)) := hall
    clear hall
    by_cases hlt : k < s.size
    · have hb := bt_eq s k hlt
      have HB : Hid (s[k].toNat = bt s k) := hb
      clear hb
      go_wp2
      all_goals
        first
        | (go_round
           case rel =>
             refine ⟨k + 1, by omega, by go_num, name_ext HA.out ?_⟩
             have hb := HB.out
             simp only [beq_iff_eq] at *
             unfold nameN okN
             omega
           case measure => simp [intOf]; omega)
        | (go_ret
           refine ⟨.inl ⟨rfl, k, hlt, ?_⟩, rfl⟩
           have hb := HB.out
           simp only [beq_eq_false_iff_ne] at *
           unfold nameN okN
           omega)
    · go_wp2
      go_ret
      refine ⟨.inr ⟨rfl, ?_⟩, rfl⟩
      intro j hj
      exact HA.out j (by omega)

/-- CheckName accepts what is 'Good', and nothing else. -/
theorem chk_yes (s : ByteArray) (w : World) (h : Good s) :
    Calls Try.prog 10 #[.string s] w fun e w' => e = .returned (.string ⟨#[]⟩) ∧ w' = w := by
  obtain ⟨h1, h63, h0, hl, hall⟩ := h
  have b0 := bt_eq s 0 (by omega)
  have bl := bt_eq s (s.size - 1) (by omega)
  refine (chk_loop s w (by unfold maxLen; omega) h1 h63 (by simp; omega) (by simp; omega)).mono ?_
  rintro e w' ⟨⟨_, k, hk, hn⟩ | ⟨he, _⟩, hw⟩
  · exact absurd (hall k hk) hn
  · exact ⟨he, hw⟩

theorem chk_no (s : ByteArray) (w : World) (hs : s.size ≤ maxLen) (h : ¬ Good s) :
    Calls Try.prog 10 #[.string s] w fun e w' => e = .returned (.string msg) ∧ w' = w := by
  by_cases h1 : 1 ≤ s.size
  · by_cases h63 : 63 < s.size
    · exact chk_long s w hs h63
    · have b0 := bt_eq s 0 (by omega)
      have bl := bt_eq s (s.size - 1) (by omega)
      by_cases h0 : (s[0].toNat : Int) = 45
      · exact chk_first s w hs h1 (by omega) h0
      · by_cases hl : (s[s.size - 1].toNat : Int) = 45
        · exact chk_last s w hs h1 (by omega) (by simpa using h0) (by simpa using hl)
        · refine (chk_loop s w hs h1 (by omega) (by simpa using h0) (by simpa using hl)).mono ?_
          rintro e w' ⟨⟨he, _⟩ | ⟨_, hall⟩, hw⟩
          · exact ⟨he, hw⟩
          · exact absurd ⟨h1, by omega, by omega, by omega, hall⟩ h
  · obtain rfl : s = ⟨#[]⟩ := by
      obtain ⟨d⟩ := s
      have : d.size = 0 := by simp [ByteArray.size] at h1; simp [h1]
      simp at this
      rw [this]
    exact chk_empty w

/-- isLowerOrDigit. -/
theorem low_yes (c : Int) (w : World) (h : (97 ≤ c ∧ c ≤ 122) ∨ (48 ≤ c ∧ c ≤ 57)) :
    Calls Try.prog 11 #[.int .u8 c] w fun e w' => e = .returned (.bool true) ∧ w' = w := by
  rcases h with ⟨h1, h2⟩ | ⟨h1, h2⟩
  · go_enter Try.func11, Try.ntmps11
    go_wp2
    go_ret
    exact ⟨rfl, rfl⟩
  · have h3 : c < 97 := by omega
    go_enter Try.func11, Try.ntmps11
    go_wp2
    go_ret
    exact ⟨rfl, rfl⟩

theorem low_no (c : Int) (w : World) (h : ¬ ((97 ≤ c ∧ c ≤ 122) ∨ (48 ≤ c ∧ c ≤ 57))) :
    Calls Try.prog 11 #[.int .u8 c] w fun e w' => e = .returned (.bool false) ∧ w' = w := by
  have hc : 122 < c ∨ (57 < c ∧ c < 97) ∨ c < 48 := by omega
  clear h
  rcases hc with h1 | ⟨h1, h2⟩ | h1
  all_goals
    go_enter Try.func11, Try.ntmps11
    go_wp2
    go_ret
    exact ⟨by simp; try omega, rfl⟩
end Go.Proofs.Qxb6603199a
