/-
  within (function 17) AND at (function 24, with strings.CutPrefix, stringslite.CutPrefix, stringslite.HasPrefix: 25, 26, 27) COMPUTE ONE PLAIN FUNCTION, 'wiB'.
-/
import Derived.Test.Qxb6603199aRows
import Derived.Test.Qxb6603199aPlain
import Derived.WalkKit
import Derived.WalkSpells
import Derived.WalkLawsBesides
import Derived.Deep.LoopGhost
namespace Go.Proofs.Qxb6603199a
open Go.RowKit
set_option linter.unusedVariables false

/-- Does path c lie at or inside field d? -/
def wiB (c d : ByteArray) : Bool := decide (d.size ≤ c.size) && ((c.extract 0 d.size).toList == d.toList) && (decide (c.size = d.size) || decide (bt c d.size = 46) || decide (bt c d.size = 91))

theorem wi_yes {c d : ByteArray} (h : d.size ≤ c.size) (he : ((c.extract 0 d.size).toList == d.toList) = true) (hc : c.size = d.size ∨ bt c d.size = 46 ∨ bt c d.size = 91) : wiB c d = true := by
  unfold wiB
  rw [he]
  simp
  refine ⟨h, ?_⟩
  rcases hc with hc | hc | hc
  · exact .inl (.inl hc)
  · exact .inl (.inr hc)
  · exact .inr hc
theorem wi_no_eq {c d : ByteArray} (he : ((c.extract 0 d.size).toList == d.toList) = false) : wiB c d = false := by
  unfold wiB
  rw [he]
  simp
theorem wi_no_cut {c d : ByteArray} (h1 : c.size ≠ d.size) (h2 : bt c d.size ≠ 46) (h3 : bt c d.size ≠ 91) : wiB c d = false := by
  unfold wiB
  simp [h1, h2, h3]
theorem wi_no_len {c d : ByteArray} (h : ¬ d.size ≤ c.size) : wiB c d = false := by
  unfold wiB
  simp [h]
theorem ret_bool {a b : Bool} (h : a = b) : Ending.returned (.bool b) = .returned (.bool a) := by rw [h]

set_option maxHeartbeats 400000 in
theorem within_any (c d : ByteArray) (w : World) (hc : c.size ≤ 1048576) (hd : d.size ≤ 1048576) :
    Calls Try.prog 17 #[.string c, .string d] w fun e w' => e = .returned (.bool (wiB c d)) ∧ w' = w := by
  go_enter Try.func17, Try.ntmps17
  go_wp2
  go_loopg [5] (c.size + 1) (fun g k wr => w = wr ∧ ∃ k' : Nat, g = c.size + 1 - k' ∧ k = .int .i64 k' ∧ k' ≤ c.size + 1 ∧ (d.size < k' → wiB c d = false))
  case atStart => exact ⟨rfl, 0, rfl, rfl, by omega, fun h => by omega⟩
  case round =>
    obtain ⟨hwr, k, hgk, rfl, hk, hno⟩ := hrel
    subst hwr
    have HG := hide hgk
    have HN := hide hno
    clear hgk hno
    by_cases hle : k ≤ c.size
    · by_cases hkd : k = d.size
      · subst hkd
        have hq2 : ((d.size : Int) == (d.size : Int)) = true := by simp
        by_cases hlt : d.size < c.size
        · have hq : ((d.size : Int) == (c.size : Int)) = false := by simp; omega
          have HB := hide (bt_eq c d.size hlt)
          by_cases heq : ((c.extract 0 d.size).toList == d.toList) = true
          · by_cases h46 : (c[d.size].toNat : Int) = 46
            · have h46' : ((c[d.size].toNat : Int) == 46) = true := by simpa using h46
              clear h46
              go_wp2
              go_ret
              exact ⟨ret_bool (wi_yes hle heq (.inr (.inl (by have := HB.out; simp at h46'; omega)))), rfl⟩
            · have h46' : ((c[d.size].toNat : Int) == 46) = false := by simpa using h46
              clear h46
              by_cases h91 : (c[d.size].toNat : Int) = 91
              · have h91' : ((c[d.size].toNat : Int) == 91) = true := by simpa using h91
                clear h91
                go_wp2
                go_ret
                exact ⟨ret_bool (wi_yes hle heq (.inr (.inr (by have := HB.out; simp at h91'; omega)))), rfl⟩
              · have h91' : ((c[d.size].toNat : Int) == 91) = false := by simpa using h91
                clear h91
                have hf : wiB c d = false := wi_no_cut (by omega) (by have := HB.out; simp at h46'; omega) (by have := HB.out; simp at h91'; omega)
                have HF := hide hf
                clear hf
                go_wp2
                go_roundg (c.size + 1 - (d.size + 1))
                case rel => exact ⟨rfl, d.size + 1, rfl, by go_num, by omega, fun _ => HF.out⟩
                case measure => have := HG.out; omega
          · have heq' : ((c.extract 0 d.size).toList == d.toList) = false := by simpa using heq
            clear heq
            have HF := hide (wi_no_eq heq')
            go_wp2
            all_goals
              go_roundg (c.size + 1 - (d.size + 1))
              case rel => exact ⟨rfl, d.size + 1, rfl, by go_num, by omega, fun _ => HF.out⟩
              case measure => have := HG.out; omega
        · have hq : ((d.size : Int) == (c.size : Int)) = true := by simp; omega
          by_cases heq : ((c.extract 0 d.size).toList == d.toList) = true
          · go_wp2
            go_ret
            exact ⟨ret_bool (wi_yes hle heq (.inl (by omega))), rfl⟩
          · have heq' : ((c.extract 0 d.size).toList == d.toList) = false := by simpa using heq
            clear heq
            have HF := hide (wi_no_eq heq')
            go_wp2
            go_roundg (c.size + 1 - (d.size + 1))
            case rel => exact ⟨rfl, d.size + 1, rfl, by go_num, by omega, fun _ => HF.out⟩
            case measure => have := HG.out; omega
      · have hq2 : ((k : Int) == (d.size : Int)) = false := by simp; omega
        by_cases hlt : k < c.size
        · have hq : ((k : Int) == (c.size : Int)) = false := by simp; omega
          go_wp2
          all_goals
            go_roundg (c.size + 1 - (k + 1))
            case rel => exact ⟨rfl, k + 1, rfl, by go_num, by omega, fun h => HN.out (by omega)⟩
            case measure => have := HG.out; omega
        · have hq : ((k : Int) == (c.size : Int)) = true := by simp; omega
          go_wp2
          go_roundg (c.size + 1 - (k + 1))
          case rel => exact ⟨rfl, k + 1, rfl, by go_num, by omega, fun h => HN.out (by omega)⟩
          case measure => have := HG.out; omega
    · have hf : wiB c d = false := by
        by_cases h : d.size ≤ c.size
        · exact HN.out (by omega)
        · exact wi_no_len h
      have HF := hide hf
      clear hf
      go_wp2
      go_ret
      exact ⟨ret_bool HF.out, rfl⟩

theorem has_yes (c d : ByteArray) (w : World) (hc : c.size ≤ 1048576) (h : d.size ≤ c.size) (he : ((c.extract 0 d.size).toList == d.toList) = true) :
    Calls Try.prog 27 #[.string c, .string d] w fun e w' => e = .returned (.bool true) ∧ w' = w := by
  go_enter Try.func27, Try.ntmps27
  go_wp2
  go_ret
  exact ⟨rfl, rfl⟩
theorem has_no (c d : ByteArray) (w : World) (hc : c.size ≤ 1048576) (hd : d.size ≤ 1048576) (h : ¬ (d.size ≤ c.size ∧ ((c.extract 0 d.size).toList == d.toList) = true)) :
    Calls Try.prog 27 #[.string c, .string d] w fun e w' => e = .returned (.bool false) ∧ w' = w := by
  by_cases h1 : d.size ≤ c.size
  · have he : ((c.extract 0 d.size).toList == d.toList) = false := by
      cases h2 : ((c.extract 0 d.size).toList == d.toList)
      · rfl
      · exact absurd ⟨h1, h2⟩ h
    clear h
    go_enter Try.func27, Try.ntmps27
    go_wp2
    go_ret
    exact ⟨rfl, rfl⟩
  · clear h
    go_enter Try.func27, Try.ntmps27
    go_wp2
    go_ret
    exact ⟨rfl, rfl⟩
theorem cut_yes (c d : ByteArray) (w : World) (hc : c.size ≤ 1048576) (h : d.size ≤ c.size) (he : ((c.extract 0 d.size).toList == d.toList) = true) :
    Calls Try.prog 25 #[.string c, .string d] w fun e w' => e = .returned (.tuple #[.string (c.extract d.size c.size), .bool true]) ∧ w' = w := by
  have HE := hide he
  clear he
  go_enter Try.func25, Try.ntmps25
  go_wp2_with (first | (go_at_call 27; refine (has_yes c d _ hc h HE.out).mono ?_; rintro e w1 ⟨rfl, rfl⟩) | go_in)
  go_ret2
  exact ⟨rfl, rfl⟩
theorem cut_no (c d : ByteArray) (w : World) (hc : c.size ≤ 1048576) (hd : d.size ≤ 1048576) (h : ¬ (d.size ≤ c.size ∧ ((c.extract 0 d.size).toList == d.toList) = true)) :
    Calls Try.prog 25 #[.string c, .string d] w fun e w' => e = .returned (.tuple #[.string c, .bool false]) ∧ w' = w := by
  have HE := hide h
  clear h
  go_enter Try.func25, Try.ntmps25
  go_wp2_with (first | (go_at_call 27; refine (has_no c d _ hc hd HE.out).mono ?_; rintro e w1 ⟨rfl, rfl⟩) | go_in)
  go_ret2
  exact ⟨rfl, rfl⟩

theorem ext0 (c : ByteArray) (n : Nat) (h : n < c.size) (h2 : 0 < (c.extract n c.size).size) : (c.extract n c.size)[0].toNat = bt c n := by
  rw [bt_eq _ 0 h2]
  unfold bt
  congr 1
  have e : (c.extract n c.size).data.toList = c.data.toList.drop n := by
    simp [ByteArray.data_extract]
    exact List.take_of_length_le (by simp)
  rw [e, List.getD_eq_getElem?_getD, List.getElem?_drop, List.getD_eq_getElem?_getD]
  simp

set_option maxHeartbeats 400000 in
theorem at_any (c d : ByteArray) (w : World) (hc : c.size ≤ 1048576) (hd : d.size ≤ 1048576) :
    Calls Try.prog 24 #[.string c, .string d] w fun e w' => e = .returned (.bool (wiB c d)) ∧ w' = w := by
  by_cases h : d.size ≤ c.size ∧ ((c.extract 0 d.size).toList == d.toList) = true
  · obtain ⟨h1, he⟩ := h
    have HE := hide he
    clear he
    by_cases hlt : d.size < c.size
    · have hem : (c.extract d.size c.size).toList.isEmpty = false := isEmpty_of _ (by simp; omega)
      have hsz : 0 < (c.extract d.size c.size).size := by simp; omega
      have hx := ext0 c d.size hlt hsz
      by_cases h46 : bt c d.size = 46
      · have h46' : (((c.extract d.size c.size)[0].toNat : Int) == 46) = true := by rw [hx]; simp [h46]
        have HF := hide (wi_yes h1 HE.out (.inr (.inl h46)))
        clear h46 hx
        go_enter Try.func24, Try.ntmps24
        go_wp2_with fail
        refine (cut_yes c d _ hc h1 HE.out).mono ?_
        rintro e w1 ⟨rfl, rfl⟩
        go_wp2
        go_ret
        exact ⟨ret_bool HF.out, rfl⟩
      · have h46' : (((c.extract d.size c.size)[0].toNat : Int) == 46) = false := by rw [hx]; simp; omega
        by_cases h91 : bt c d.size = 91
        · have h91' : (((c.extract d.size c.size)[0].toNat : Int) == 91) = true := by rw [hx]; simp [h91]
          have HF := hide (wi_yes h1 HE.out (.inr (.inr h91)))
          clear h46 h91 hx
          go_enter Try.func24, Try.ntmps24
          go_wp2_with fail
          refine (cut_yes c d _ hc h1 HE.out).mono ?_
          rintro e w1 ⟨rfl, rfl⟩
          go_wp2
          go_ret
          exact ⟨ret_bool HF.out, rfl⟩
        · have h91' : (((c.extract d.size c.size)[0].toNat : Int) == 91) = false := by rw [hx]; simp; omega
          have HF := hide (wi_no_cut (c := c) (d := d) (by omega) h46 h91)
          clear h46 h91 hx
          go_enter Try.func24, Try.ntmps24
          go_wp2_with fail
          refine (cut_yes c d _ hc h1 HE.out).mono ?_
          rintro e w1 ⟨rfl, rfl⟩
          go_wp2
          go_ret
          exact ⟨ret_bool HF.out, rfl⟩
    · have hem : (c.extract d.size c.size).toList.isEmpty = true := by
        rw [List.isEmpty_iff, ByteArray.toList_eq]
        refine List.eq_nil_of_length_eq_zero ?_
        simp
        omega
      have HF := hide (wi_yes h1 HE.out (.inl (by omega)))
      go_enter Try.func24, Try.ntmps24
      go_wp2_with fail
      refine (cut_yes c d _ hc h1 HE.out).mono ?_
      rintro e w1 ⟨rfl, rfl⟩
      go_wp2
      go_ret
      exact ⟨ret_bool HF.out, rfl⟩
  · have hf : wiB c d = false := by
      by_cases h1 : d.size ≤ c.size
      · refine wi_no_eq ?_
        cases h2 : ((c.extract 0 d.size).toList == d.toList)
        · rfl
        · exact absurd ⟨h1, h2⟩ h
      · exact wi_no_len h1
    have HF := hide hf
    have HE := hide h
    clear hf h
    go_enter Try.func24, Try.ntmps24
    go_wp2_with fail
    refine (cut_no c d _ hc hd HE.out).mono ?_
    rintro e w1 ⟨rfl, rfl⟩
    go_wp2
    go_ret
    exact ⟨ret_bool HF.out, rfl⟩
end Go.Proofs.Qxb6603199a
