/-
  outside (function 23) and ZZoutside (18): what is kept, in a row of the call's own.
-/
import Derived.Test.Qxb6603199aKept
namespace Go.Proofs.Qxb6603199a
open Go.RowKit
open Go.Deep
set_option linter.unusedVariables false

/-- What the append does to the relation. -/
theorem rel_keep {w wr w1 : World} {p1 m1 p2 : Nat → ByteArray} {n2 k : Nat} {v v' : Value} {o : Obj} (hown : wr.ownsRow w.heap.size 37 2 v (keptL p1 p2 n2 k).length (cellsK p1 m1 (keptL p1 p2 n2 k))) (hk : false = knownB p2 n2 (p1 k)) (hb : Below w.heap.size w wr)
    (hown' : w1.ownsRow w.heap.size 37 2 v' ((keptL p1 p2 n2 k).length + 1) (cellsK p1 m1 (keptL p1 p2 n2 k) ++ [.string (p1 k), .string (m1 k)])) (hgrow : (wr.alloc o).grownBy w1 v.ownBlock) :
    w1.ownsRow w.heap.size 37 2 v' (keptL p1 p2 n2 (k + 1)).length (cellsK p1 m1 (keptL p1 p2 n2 (k + 1))) ∧ ¬ keptL p1 p2 n2 (k + 1) = [] ∧ Below w.heap.size w w1 := by
  have e := keptL_yes hk.symm
  refine ⟨?_, ?_, ?_⟩
  · rw [e, cellsK_snoc, List.length_append]; exact hown'
  · rw [e]; simp
  · refine (hb.alloc hb.size o).grown hgrow (by have := hb.size; simp; omega) fun b hb2 => ?_
    exact (hown.lt b hb2).1

set_option maxHeartbeats 2000000 in
theorem out_any (a1 a2 : Option Addr) (n1 c1 n2 c2 : Nat) (p1 m1 p2 m2 : Nat → ByteArray) (w : World) (h1 : Row2 w a1 n1 p1 m1) (h2 : Row2 w a2 n2 p2 m2) (hs1 : Small n1 p1 m1) (hs2 : Small n2 p2 m2) (hn1 : n1 ≤ 4096) (hn2 : n2 ≤ 4096) :
    Calls Try.prog 23 #[.slice a1 n1 c1, .slice a2 n2 c2] w fun e w' => ∃ v, e = .returned v ∧ w'.ownsRow w.heap.size 37 2 v (keptL p1 p2 n2 n1).length (cellsK p1 m1 (keptL p1 p2 n2 n1)) ∧ (v = .slice none 0 0 ↔ keptL p1 p2 n2 n1 = []) ∧ Below w.heap.size w w' := by
  obtain ⟨i37, hi, hz0, hz1, hz2⟩ := info_parts info37
  have HI := hide (And.intro hi (And.intro hz0 (And.intro hz1 hz2)))
  clear hi hz0 hz1 hz2
  go_enter Try.func23, Try.ntmps23
  go_wp2
  go_loopg [5, 13] n1 (fun g v k wr => ∃ k' : Nat, g = n1 - k' ∧ k = .int .i64 k' ∧ k' ≤ n1 ∧ wr.ownsRow w.heap.size 37 2 v (keptL p1 p2 n2 k').length (cellsK p1 m1 (keptL p1 p2 n2 k')) ∧ (v = .slice none 0 0 ↔ keptL p1 p2 n2 k' = []) ∧ Below w.heap.size w wr)
  case atStart => exact ⟨0, rfl, rfl, by omega, World.ownsRow_nil _ _ _ _, ⟨fun _ => rfl, fun _ => rfl⟩, Below.refl _ _⟩
  case round =>
    obtain ⟨W0, hW0⟩ : ∃ W0, W0 = wr := ⟨_, rfl⟩
    subst hW0
    obtain ⟨k, hgk, rfl, hk, hown, hnil, hbel⟩ := hrel
    have HG := hide hgk
    have HN := hide hnil
    have HO := hide hown
    clear hgk hnil hown
    by_cases hlt : k < n1
    · obtain ⟨b, off, ha, hb, hc0, hc1, _, _⟩ := h1 k hlt
      have hsk := hs1 k hlt
      subst ha
      have g0 := (hbel.cell (p := ⟨b, off + k * 2, none⟩) hb).trans hc0
      have g1 := (hbel.cell (p := ⟨b, off + k * 2 + 1, none⟩) hb).trans hc1
      have H1 := hide h1
      clear hc0 hc1 h1
      go_wp2
      go_loopg [8, 19] n2 (fun g kn j wr => ∃ (j' : Nat) (bk : Bool), g = n2 - j' ∧ kn = .bool bk ∧ j = .int .i64 j' ∧ bk = knownB p2 j' (p1 k) ∧ j' ≤ n2 ∧ Below (W0.heap.size + 1) (W0.alloc (.cells #[.string (p1 k), .string (m1 k)] 37)) wr)
      case atStart => exact ⟨0, false, rfl, rfl, rfl, rfl, by omega, Below.refl _ _⟩
      case round =>
        obtain ⟨j, bk, hgk2, rfl, rfl, hbk, hj, hbi⟩ := hrel
        have HG2 := hide hgk2
        have HK := hide hbk
        clear hgk2 hbk
        have hz : W0.heap.size < wr.heap.size := by have := hbi.size; simp at this; omega
        have hbw : Below w.heap.size w wr := (hbel.alloc hbel.size _).trans (hbi.mono (by have := hbel.size; omega))
        have q0 : wr.cell? ⟨W0.heap.size, 0, none⟩ = some (.string (p1 k)) := (hbi.cell (p := ⟨W0.heap.size, 0, none⟩) (Nat.lt_succ_self _)).trans (by simp)
        have q1 : wr.cell? ⟨W0.heap.size, 1, none⟩ = some (.string (m1 k)) := (hbi.cell (p := ⟨W0.heap.size, 1, none⟩) (Nat.lt_succ_self _)).trans (by simp)
        clear g0 g1
        by_cases hj2 : j < n2
        · obtain ⟨b2, off2, ha2, hb2, hc0, hc1, _, _⟩ := h2 j hj2
          have hsj := hs2 j hj2
          subst ha2
          have g0 := (hbw.cell (p := ⟨b2, off2 + j * 2, none⟩) hb2).trans hc0
          have g1 := (hbw.cell (p := ⟨b2, off2 + j * 2 + 1, none⟩) hb2).trans hc1
          have H2 := hide h2
          clear hc0 hc1 h2
          cases bk
          · go_wp2_with fail
            refine (at_any (p1 k) (p2 j) _ hsk.1 hsj.1).mono ?_
            rintro e w1 ⟨rfl, hw⟩
            have hw := hw.symm
            subst hw
            go_wp2_with fail
            go_roundg (n2 - (j + 1))
            case rel => exact ⟨j + 1, _, rfl, rfl, by go_num, by rw [knownB_succ, ← HK.out]; rfl, by omega, hbi.alloc (by omega) _⟩
            case measure => have := HG2.out; omega
          · go_wp2_with fail
            go_roundg (n2 - (j + 1))
            case rel => exact ⟨j + 1, _, rfl, rfl, by go_num, by rw [knownB_succ, ← HK.out]; rfl, by omega, hbi.alloc (by omega) _⟩
            case measure => have := HG2.out; omega
        · have hk2 : bk = knownB p2 n2 (p1 k) := by
            have e : j = n2 := by omega
            rw [← e]; exact HK.out
          have hown : wr.ownsRow w.heap.size 37 2 u5 (keptL p1 p2 n2 k).length (cellsK p1 m1 (keptL p1 p2 n2 k)) := owns_below (HO.out.alloc _) (by simpa using hbi)
          have HW := hide hown
          have HK2 := hide hk2
          clear hown hk2 HK h2
          cases bk
          · have hkl := keptL_le p1 p2 n2 k
            go_wp2_with (at_builtin; refine wpList_append_own _ rfl (.tmp 34) (.tmp 36) 32 rfl w.heap.size 37 i37 (.agg #[.string ⟨#[]⟩, .string ⟨#[]⟩]) 2 32 Try.underlying32 HI.out.1 HI.out.2.1 HI.out.2.2.1 HI.out.2.2.2 rfl (by decide) _ _ _ rfl (HW.out.alloc _) ⟨wr.heap.size, 0, none⟩ 1 1 [.string (p1 k), .string (m1 k)] rfl rfl ?c1 ?c2 ?c3 ?c4 ?c5 ?_)
            case c1 =>
              intro j2 u hu
              match j2, hu with
              | 0, hu => simp at hu; subst hu; simp [Addr.add]
              | 1, hu => simp at hu; subst hu; simp [Addr.add]
            case c2 => intro u hu; simp at hu; rcases hu with rfl | rfl <;> rfl
            case c3 => unfold maxLen; omega
            case c4 => omega
            case c5 => have := hbw.size; simp; omega
            · intro v' w1 hown' hgrow hnn
              have R := rel_keep HW.out HK2.out hbw hown' hgrow
              have HR := hide R
              have HNN := hide hnn
              clear R hown' hgrow hnn HW
              go_wp2_with fail
              go_roundg (n1 - (k + 1))
              case rel => exact ⟨k + 1, rfl, by go_num, by omega, HR.out.1, ⟨fun h => absurd h HNN.out, fun h => absurd h HR.out.2.1⟩, HR.out.2.2⟩
              case measure => have := HG.out; omega
          · go_wp2_with fail
            go_roundg (n1 - (k + 1))
            case rel => exact ⟨k + 1, rfl, by go_num, by omega, by rw [keptL_no HK2.out.symm]; exact HW.out, by rw [keptL_no HK2.out.symm]; exact HN.out, hbw⟩
            case measure => have := HG.out; omega
    · have HE := hide (show k = n1 by omega)
      go_wp2
      go_ret
      rw [HE.out] at HO HN
      exact ⟨_, rfl, HO.out, HN.out, hbel⟩

theorem zzout_any (a1 a2 : Option Addr) (n1 c1 n2 c2 : Nat) (p1 m1 p2 m2 : Nat → ByteArray) (w : World) (h1 : Row2 w a1 n1 p1 m1) (h2 : Row2 w a2 n2 p2 m2) (hs1 : Small n1 p1 m1) (hs2 : Small n2 p2 m2) (hn1 : n1 ≤ 4096) (hn2 : n2 ≤ 4096) :
    Calls Try.prog 18 #[.slice a1 n1 c1, .slice a2 n2 c2] w fun e w' => ∃ v, e = .returned v ∧ w'.ownsRow w.heap.size 37 2 v (keptL p1 p2 n2 n1).length (cellsK p1 m1 (keptL p1 p2 n2 n1)) ∧ (v = .slice none 0 0 ↔ keptL p1 p2 n2 n1 = []) ∧ Below w.heap.size w w' := by
  have H1 := hide h1
  have H2 := hide h2
  clear h1 h2
  go_enter Try.func18, Try.ntmps18
  go_wp2_with fail
  refine (out_any a1 a2 n1 c1 n2 c2 p1 m1 p2 m2 _ H1.out H2.out hs1 hs2 hn1 hn2).mono ?_
  rintro e w' ⟨v, rfl, ho, hn, hb⟩
  have HO := hide ho
  have HN := hide hn
  clear ho hn
  go_wp2_with fail
  go_ret
  exact ⟨_, rfl, HO.out, HN.out, hb⟩
end Go.Proofs.Qxb6603199a
