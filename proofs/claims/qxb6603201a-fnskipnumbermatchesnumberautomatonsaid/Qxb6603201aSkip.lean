/-
  skipNumber (18), ZZskipNumber (13): where the automaton halts.
-/
import Derived.Test.Qxb6603201aLeaf
import Derived.Deep.DeepCutAuto
import Derived.Deep.CutBlock
namespace Go.Proofs.Qxb6603201a.Num
open Go.RowKit
set_option linter.unusedVariables false

theorem ba_pos {t : Nat → Nat} {n i v : Nat} (h : ba t n i = v) (hv : v ≠ 0) : i < n ∧ t i = v := by
  by_cases hi : i < n
  · rw [ba_in hi] at h; exact ⟨hi, h⟩
  · rw [ba_out hi] at h; exact absurd h.symm hv

theorem SD.le {t : Nat → Nat} {n i j : Nat} (h : SD t n i j) (hi : i ≤ n) : j ≤ n := by
  obtain ⟨h1, h2, _⟩ := h
  by_cases e : i = j
  · omega
  · have := (h2 (j - 1) (by omega) (by omega)).1
    omega
theorem dig3 : ∀ c, dig c → stp 3 c = 3 := fun c h => by unfold dig at h; simp [stp]; omega
theorem dig5 : ∀ c, dig c → stp 5 c = 5 := fun c h => by unfold dig at h; simp [stp]; omega
theorem dig45 : ∀ c, dig c → stp 4 c = 5 := fun c h => by unfold dig at h; simp [stp]; omega
theorem dig68 : ∀ c, dig c → stp 6 c = 8 := fun c h => by unfold dig at h; simp only [stp]; rw [if_neg (by omega), if_neg (by omega), if_neg (by omega), if_neg (by omega), if_neg (by omega), if_neg (by omega), if_pos trivial, if_neg (by omega), if_pos h]
theorem dig78 : ∀ c, dig c → stp 7 c = 8 := fun c h => by unfold dig at h; simp [stp]; omega
theorem dig8 : ∀ c, dig c → stp 8 c = 8 := fun c h => by unfold dig at h; simp [stp]; omega

theorem no2 (c : Nat) (h46 : c ≠ 46) (he : ¬ (c = 101 ∨ c = 69)) : stp 2 c = 9 := by
  simp only [stp]; rw [if_neg (by omega), if_neg (by omega), if_pos trivial, if_neg h46, if_neg he]
theorem no3 (c : Nat) (hd : ¬ dig c) (h46 : c ≠ 46) (he : ¬ (c = 101 ∨ c = 69)) : stp 3 c = 9 := by
  unfold dig at hd
  simp only [stp]; rw [if_neg (by omega), if_neg (by omega), if_neg (by omega), if_pos trivial, if_neg hd, if_neg h46, if_neg he]
theorem no4 (c : Nat) (hd : ¬ dig c) : stp 4 c = 9 := by
  unfold dig at hd
  simp only [stp]; rw [if_neg (by omega), if_neg (by omega), if_neg (by omega), if_neg (by omega), if_pos trivial, if_neg hd]
theorem no5 (c : Nat) (hd : ¬ dig c) (he : ¬ (c = 101 ∨ c = 69)) : stp 5 c = 9 := by
  unfold dig at hd
  simp only [stp]; rw [if_neg (by omega), if_neg (by omega), if_neg (by omega), if_neg (by omega), if_neg (by omega), if_pos trivial, if_neg hd, if_neg he]
theorem no6 (c : Nat) (hs : ¬ (c = 43 ∨ c = 45)) (hd : ¬ dig c) : stp 6 c = 9 := by
  unfold dig at hd
  simp only [stp]; rw [if_neg (by omega), if_neg (by omega), if_neg (by omega), if_neg (by omega), if_neg (by omega), if_neg (by omega), if_pos trivial, if_neg hs, if_neg hd]
theorem no7 (c : Nat) (hd : ¬ dig c) : stp 7 c = 9 := by
  unfold dig at hd
  simp only [stp]; rw [if_neg (by omega), if_neg (by omega), if_neg (by omega), if_neg (by omega), if_neg (by omega), if_neg (by omega), if_neg (by omega), if_pos trivial, if_neg hd]
theorem no8 (c : Nat) (hd : ¬ dig c) : stp 8 c = 9 := by
  unfold dig at hd
  simp only [stp]; rw [if_neg (by omega), if_neg (by omega), if_neg (by omega), if_neg (by omega), if_neg (by omega), if_neg (by omega), if_neg (by omega), if_neg (by omega), if_pos trivial, if_neg hd]

/-- Behind the fraction: only an 'e' leads on. -/
def P3 (t : Nat → Nat) (n s i : Nat) : Prop := (s = 2 ∨ s = 3 ∨ s = 5) ∧ (i < n → ¬ (t i = 101 ∨ t i = 69) → stp s (t i) = 9)

set_option maxHeartbeats 2000000 in
theorem skip_any (a : Option Addr) (n c i : Nat) (t : Nat → Nat) (w : World) (h : Row1 w a n t) (hn : n ≤ 1048576) (hi : i ≤ 9223372036854775807) :
    Calls Try.prog 18 #[.slice a n c, .int .i64 i] w fun e w' => (∃ j s : Nat, e = .returned (.tuple #[.int .i64 j, .bool (acc s)]) ∧ To t n 0 i s j ∧ Stuck t n s j) ∧ w = w' := by
  have H := hide h
  clear h
  go_enter Try.func18, Try.ntmps18
  go_wp2_with fail
  refine (byteAt_any a n c i t _ H.out hn hi).mono ?_
  rintro e w1 ⟨rfl, rfl⟩
  go_upto_if 14 with fail
  go_cut [1] (fun v wc => w = wc ∧ ∃ i1 s1 : Nat, v = .int .i64 i1 ∧ i1 ≤ 9223372036854775807 ∧ To t n 0 i s1 i1 ∧ ((s1 = 0 ∧ ba t n i1 ≠ 45) ∨ s1 = 1))
  case first =>
    by_cases h45 : ba t n i = 45
    · have hp := ba_pos h45 (by decide)
      have hb : ((ba t n i : Int) == 45) = true := by simp; omega
      have HP := hide hp
      clear h45
      go_wp2_with fail
      go_meet
      case rel => exact ⟨rfl, i + 1, 1, by go_num, by have := HP.out.1; omega, To.one HP.out.1 (by rw [HP.out.2]; rfl) (by decide), .inr rfl⟩
    · have hb : ((ba t n i : Int) == 45) = false := by simp; omega
      go_wp2_with fail
      go_meet
      case rel => exact ⟨rfl, i, 0, rfl, hi, To.refl _ _ _ _, .inl ⟨rfl, h45⟩⟩
  case rest =>
    obtain ⟨hwc, i1, s1, rfl, hi1, hto1, hs1⟩ := hcut
    subst hwc
    go_wp2_with fail
    refine (byteAt_any a n c i1 t _ H.out hn hi1).mono ?_
    rintro e w1 ⟨rfl, rfl⟩
    go_upto_block 0 with fail
    go_cut [1] (fun v wc => w = wc ∧ ∃ i2 s2 : Nat, v = .int .i64 i2 ∧ i2 ≤ n ∧ To t n 0 i s2 i2 ∧ (s2 = 2 ∨ (s2 = 3 ∧ ¬ (i2 < n ∧ dig (t i2)))))
    case first =>
      by_cases h48 : ba t n i1 = 48
      · have hp := ba_pos h48 (by decide)
        have hb : ((ba t n i1 : Int) == 48) = true := by simp; omega
        have hin := hp.1
        have HT : Hid (To t n 0 i 2 (i1 + 1)) := hide (hto1.snoc hp.1 (by rw [hp.2]; rcases hs1 with ⟨rfl, _⟩ | rfl <;> rfl) (by decide))
        clear h48 hp hto1 hs1
        go_wp2_with fail
        go_meet
        case rel => exact ⟨rfl, i1 + 1, 2, by go_num, by omega, HT.out, .inl rfl⟩
      · by_cases hd : 49 ≤ ba t n i1 ∧ ba t n i1 ≤ 57
        · have hp := ba_pos (rfl : ba t n i1 = ba t n i1) (by omega)
          have hb : ((ba t n i1 : Int) == 48) = false := by simp; omega
          obtain ⟨hd1, hd2⟩ := hd
          have dd : decide ((ba t n i1 : Int) ≤ 57) = true := by simp; omega
          have hin := hp.1
          have HT : Hid (To t n 0 i 3 (i1 + 1)) := hide (hto1.snoc hp.1 (by
            rw [hp.2]
            generalize ba t n i1 = x at *
            rcases hs1 with ⟨rfl, _⟩ | rfl
            · simp only [stp]; rw [if_pos trivial, if_neg (by omega), if_neg (by omega), if_pos (by omega)]
            · simp only [stp]; rw [if_neg (by omega), if_pos trivial, if_neg (by omega), if_pos (by omega)]) (by decide))
          clear h48 hp hto1 hs1
          go_wp2_with fail
          refine (skipDigits_any a n c (i1 + 1) t _ H.out hn (by omega)).mono ?_
          rintro e w1 ⟨⟨j, rfl, hsd⟩, rfl⟩
          have hjn := hsd.le (by omega)
          have HSD := hide hsd
          clear hsd
          go_wp2_with fail
          go_meet
          case rel => exact ⟨rfl, j, 3, rfl, hjn, HT.out.trans (HSD.out.to dig3 (by decide)), .inr ⟨rfl, HSD.out.2.2⟩⟩
        · have hb : ((ba t n i1 : Int) == 48) = false := by simp; omega
          have hk : Stuck t n s1 i1 := fun hx => hx.2 (by
            have e := ba_in (t := t) hx.1
            rw [← e]
            generalize ba t n i1 = x at *
            rcases hs1 with ⟨rfl, h45⟩ | rfl
            · simp only [stp]; rw [if_pos trivial, if_neg (by omega), if_neg (by omega), if_neg (by omega)]
            · simp only [stp]; rw [if_neg (by omega), if_pos trivial, if_neg (by omega), if_neg (by omega)])
          have ha : acc s1 = false := by rcases hs1 with ⟨rfl, _⟩ | rfl <;> rfl
          have HA := hide ha
          have hcs : ba t n i1 < 49 ∨ 57 < ba t n i1 := by omega
          clear hd h48 ha
          rcases hcs with hcs | hcs
          all_goals
            go_wp2_with fail
            go_ret2
            exact ⟨⟨i1, s1, by rw [HA.out]; rfl, hto1, hk⟩, rfl⟩
    case rest =>
      obtain ⟨hwc, i2, s2, rfl, hi2, hto2, hs2⟩ := hcut
      subst hwc
      clear hto1 hs1
      go_wp2_with fail
      refine (byteAt_any a n c i2 t _ H.out hn (by omega)).mono ?_
      rintro e w1 ⟨rfl, rfl⟩
      go_upto_if 40 with fail
      go_cut [1] (fun v wc => w = wc ∧ ∃ i3 s3 : Nat, v = .int .i64 i3 ∧ i3 ≤ n ∧ To t n 0 i s3 i3 ∧ P3 t n s3 i3)
      case first =>
        by_cases h46 : ba t n i2 = 46
        · have hp := ba_pos h46 (by decide)
          have hb : ((ba t n i2 : Int) == 46) = true := by simp; omega
          have hin := hp.1
          have HT : Hid (To t n 0 i 4 (i2 + 1)) := hide (hto2.snoc hp.1 (by rw [hp.2]; rcases hs2 with rfl | ⟨rfl, _⟩ <;> rfl) (by decide))
          clear h46 hp hto2 hs2
          go_wp2_with fail
          refine (skipDigits_any a n c (i2 + 1) t _ H.out hn (by omega)).mono ?_
          rintro e w1 ⟨⟨j, rfl, hsd⟩, rfl⟩
          have hjn := hsd.le (by omega)
          by_cases hj : j = i2 + 1
          · have hk : Stuck t n 4 (i2 + 1) := by
              rw [← hj]
              exact fun hx => hx.2 (no4 _ (fun hd => hsd.2.2 ⟨hx.1, hd⟩))
            have hq : ((j : Int) == ((i2 : Int) + 1)) = true := by simp; omega
            have HJ := hide hj
            clear hsd hj
            go_wp2_with fail
            go_ret2
            exact ⟨⟨i2 + 1, 4, by rw [HJ.out]; rfl, HT.out, hk⟩, rfl⟩
          · have hq : ((j : Int) == ((i2 : Int) + 1)) = false := by simp; omega
            have HP : Hid (To t n 0 i 5 j ∧ P3 t n 5 j) := hide ⟨HT.out.trans (hsd.to' (fun e => hj e.symm) dig45 dig5 (by decide)), .inr (.inr rfl), fun hx he => no5 _ (fun hd => hsd.2.2 ⟨hx, hd⟩) he⟩
            clear hsd hj
            go_wp2_with fail
            go_meet
            case rel => exact ⟨rfl, j, 5, rfl, hjn, HP.out.1, HP.out.2⟩
        · have hb : ((ba t n i2 : Int) == 46) = false := by simp; omega
          have HP : Hid (P3 t n s2 i2) := hide (by
            rcases hs2 with rfl | ⟨rfl, hnd⟩
            · exact ⟨.inl rfl, fun hx he => no2 _ (by rw [← ba_in (t := t) hx]; exact h46) he⟩
            · exact ⟨.inr (.inl rfl), fun hx he => no3 _ (fun hd => hnd ⟨hx, hd⟩) (by rw [← ba_in (t := t) hx]; exact h46) he⟩)
          clear hs2 h46
          go_wp2_with fail
          go_meet
          case rel => exact ⟨rfl, i2, s2, rfl, hi2, hto2, HP.out⟩
      case rest =>
        obtain ⟨hwc, i3, s3, rfl, hi3, hto3, hp3⟩ := hcut
        subst hwc
        clear hto2 hs2
        have HP3 := hide hp3
        clear hp3
        go_wp2_with fail
        refine (byteAt_any a n c i3 t _ H.out hn (by omega)).mono ?_
        rintro e w1 ⟨rfl, rfl⟩
        by_cases he : ba t n i3 = 101 ∨ ba t n i3 = 69
        · have hp := ba_pos (rfl : ba t n i3 = ba t n i3) (by omega)
          have hin := hp.1
          have HT : Hid (To t n 0 i 6 (i3 + 1)) := hide (hto3.snoc hp.1 (by
            rw [hp.2]
            rcases HP3.out.1 with rfl | rfl | rfl <;> rcases he with he | he <;> rw [he] <;> rfl) (by decide))
          have hb : ((ba t n i3 : Int) == 101) = true ∨ (((ba t n i3 : Int) == 101) = false ∧ ((ba t n i3 : Int) == 69) = true) := by
            rcases he with he | he
            · exact .inl (by simp; omega)
            · exact .inr ⟨by simp; omega, by simp; omega⟩
          clear he hp hto3
          have hn1 : i3 + 1 ≤ 9223372036854775807 := by omega
          rcases hb with hb | ⟨hb, hb2⟩
          all_goals
            go_wp2_with fail
            refine (byteAt_any a n c (i3 + 1) t _ H.out hn hn1).mono ?_
            rintro e w1 ⟨rfl, rfl⟩
            by_cases h43 : ba t n (i3 + 1) = 43 ∨ ba t n (i3 + 1) = 45
            · have hp := ba_pos (rfl : ba t n (i3 + 1) = ba t n (i3 + 1)) (by omega)
              have hin2 := hp.1
              have HT4 : Hid (To t n 0 i 7 (i3 + 1 + 1)) := hide (HT.out.snoc hp.1 (by
                rw [hp.2]
                rcases h43 with h43 | h43 <;> rw [h43] <;> rfl) (by decide))
              have hc3 : ((ba t n (i3 + 1) : Int) == 43) = true ∨ (((ba t n (i3 + 1) : Int) == 43) = false ∧ ((ba t n (i3 + 1) : Int) == 45) = true) := by
                rcases h43 with h43 | h43
                · exact .inl (by simp; omega)
                · exact .inr ⟨by simp; omega, by simp; omega⟩
              clear h43 hp HT
              rcases hc3 with hc3 | ⟨hc3, hc4⟩
              all_goals
                go_wp2_with fail
                refine (skipDigits_any a n c (i3 + 1 + 1) t _ H.out hn (by omega)).mono ?_
                rintro e w1 ⟨⟨j, rfl, hsd⟩, rfl⟩
                have hjn := hsd.le (by omega)
                by_cases hj : j = (i3 + 1 + 1)
                · have hk : Stuck t n 7 ((i3 + 1 + 1)) := fun hx => hx.2 (by
                    have hnd : ¬ dig (t ((i3 + 1 + 1))) := fun hd => hsd.2.2 (by rw [hj]; exact ⟨hx.1, hd⟩)
                    exact no7 _ hnd)
                  have hq : ((j : Int) == ((i3 : Int) + 1 + 1)) = true := by simp; omega
                  have HJ := hide hj
                  clear hsd hj
                  go_wp2_with fail
                  go_ret2
                  exact ⟨⟨(i3 + 1 + 1), 7, by rw [← HJ.out]; rfl, HT4.out, hk⟩, rfl⟩
                · have hq : ((j : Int) == ((i3 : Int) + 1 + 1)) = false := by simp; omega
                  have HP : Hid (To t n 0 i 8 j ∧ Stuck t n 8 j) := hide ⟨HT4.out.trans (hsd.to' (fun e => hj e.symm) dig78 dig8 (by decide)), fun hx => hx.2 (no8 _ (fun hd => hsd.2.2 ⟨hx.1, hd⟩))⟩
                  clear hsd hj
                  go_wp2_with fail
                  go_ret2
                  exact ⟨⟨j, 8, rfl, HP.out.1, HP.out.2⟩, rfl⟩
            · have hc3 : ((ba t n (i3 + 1) : Int) == 43) = false := by simp; omega
              have hc4 : ((ba t n (i3 + 1) : Int) == 45) = false := by simp; omega
              have HN4 : Hid (i3 + 1 < n → ¬ (t (i3 + 1) = 43 ∨ t (i3 + 1) = 45)) := hide (fun hx => by rw [← ba_in (t := t) hx]; exact h43)
              have HT4 := HT
              clear h43 HT
              go_wp2_with fail
              refine (skipDigits_any a n c (i3 + 1) t _ H.out hn (by omega)).mono ?_
              rintro e w1 ⟨⟨j, rfl, hsd⟩, rfl⟩
              have hjn := hsd.le (by omega)
              by_cases hj : j = (i3 + 1)
              · have hk : Stuck t n 6 ((i3 + 1)) := fun hx => hx.2 (by
                  have hnd : ¬ dig (t ((i3 + 1))) := fun hd => hsd.2.2 (by rw [hj]; exact ⟨hx.1, hd⟩)
                  exact no6 _ (HN4.out hx.1) hnd)
                have hq : ((j : Int) == ((i3 : Int) + 1)) = true := by simp; omega
                have HJ := hide hj
                clear hsd hj
                go_wp2_with fail
                go_ret2
                exact ⟨⟨(i3 + 1), 6, by rw [← HJ.out]; rfl, HT4.out, hk⟩, rfl⟩
              · have hq : ((j : Int) == ((i3 : Int) + 1)) = false := by simp; omega
                have HP : Hid (To t n 0 i 8 j ∧ Stuck t n 8 j) := hide ⟨HT4.out.trans (hsd.to' (fun e => hj e.symm) dig68 dig8 (by decide)), fun hx => hx.2 (no8 _ (fun hd => hsd.2.2 ⟨hx.1, hd⟩))⟩
                clear hsd hj
                go_wp2_with fail
                go_ret2
                exact ⟨⟨j, 8, rfl, HP.out.1, HP.out.2⟩, rfl⟩
        · have hb1 : ((ba t n i3 : Int) == 101) = false := by simp; omega
          have hb2 : ((ba t n i3 : Int) == 69) = false := by simp; omega
          have hk : Stuck t n s3 i3 := fun hx => hx.2 (HP3.out.2 hx.1 (by rw [← ba_in (t := t) hx.1]; exact he))
          have ha : acc s3 = true := by rcases HP3.out.1 with rfl | rfl | rfl <;> rfl
          have HA := hide ha
          clear he ha
          go_wp2_with fail
          go_ret2
          exact ⟨⟨i3, s3, by rw [HA.out]; rfl, hto3, hk⟩, rfl⟩

theorem zzskip_any (a : Option Addr) (n c i : Nat) (t : Nat → Nat) (w : World) (h : Row1 w a n t) (hn : n ≤ 1048576) (hi : i ≤ 9223372036854775807) :
    Calls Try.prog 13 #[.slice a n c, .int .i64 i] w fun e w' => (∃ j s : Nat, e = .returned (.tuple #[.int .i64 j, .bool (acc s)]) ∧ To t n 0 i s j ∧ Stuck t n s j) ∧ w = w' := by
  have H := hide h
  clear h
  go_enter Try.func13, Try.ntmps13
  go_wp2_with fail
  refine (skip_any a n c i t _ H.out hn hi).mono ?_
  rintro e w1 ⟨⟨j, s, rfl, h1, h2⟩, rfl⟩
  go_wp2_with fail
  go_ret2
  exact ⟨⟨j, s, rfl, h1, h2⟩, rfl⟩
end Go.Proofs.Qxb6603201a.Num
