/-
  THE WALK OF FnOutsideExact (function 6).
-/
import Derived.Test.Qxb6603199aOut
namespace Go.Proofs.Qxb6603199a
open Go.RowKit
open Go.Deep
set_option linter.unusedVariables false

/-- The strings p at the places l, in order; then empty ones. -/
def selP (l : List Nat) (p : Nat → ByteArray) (i : Nat) : ByteArray := (l[i]?.map p).getD ⟨#[]⟩
theorem selP_nil (p : Nat → ByteArray) : selP [] p = emp := by
  funext i
  simp [selP, emp]
theorem selP_put (l : List Nat) (p : Nat → ByteArray) (k i : Nat) : put (selP l p) l.length (p k) i = selP (l ++ [k]) p i := by
  unfold put selP
  by_cases h : i = l.length
  · subst h
    simp
  · rw [if_neg h]
    by_cases h2 : i < l.length
    · rw [List.getElem?_append_left h2]
    · rw [List.getElem?_eq_none (by omega), List.getElem?_eq_none (by simp; omega)]
theorem selP_at {l : List Nat} {p : Nat → ByteArray} {i : Nat} (h : i < l.length) : selP l p i = p (l.getD i 0) := by
  unfold selP
  rw [List.getD_eq_getElem?_getD, List.getElem?_eq_getElem h]
  rfl

theorem want_start (w : World) (n : Nat) (p1 m1 p2 : Nat → ByteArray) (n2 : Nat) : (w.alloc (.cells (madeCells #[.string ⟨#[]⟩, .string ⟨#[]⟩] (n * 2)) 35)).rowIs w.heap.size 35 (n * 2) (cellP (selP (keptL p1 p2 n2 0) p1) (selP (keptL p1 p2 n2 0) m1)) := by
  have e : keptL p1 p2 n2 0 = [] := rfl
  rw [e, selP_nil, selP_nil]
  exact made_row w n 35
theorem want_put {w : World} {b n : Nat} {p1 m1 p2 : Nat → ByteArray} {n2 k : Nat} (h : w.rowIs b 35 (n * 2) (cellP (selP (keptL p1 p2 n2 k) p1) (selP (keptL p1 p2 n2 k) m1))) (hk : false = knownB p2 n2 (p1 k)) :
    ((w.setCell ⟨b, (keptL p1 p2 n2 k).length * 2, none⟩ (.string (p1 k))).setCell ⟨b, (keptL p1 p2 n2 k).length * 2 + 1, none⟩ (.string (m1 k))).rowIs b 35 (n * 2) (cellP (selP (keptL p1 p2 n2 (k + 1)) p1) (selP (keptL p1 p2 n2 (k + 1)) m1)) := by
  rw [keptL_yes hk.symm]
  exact (row_put h _ (p1 k) (m1 k)).congr (cellP_congr (fun i _ => selP_put _ _ _ _) (fun i _ => selP_put _ _ _ _))

theorem Row2.drewN {w : World} {a : Option Addr} {n : Nat} {p m : Nat → ByteArray} (h : Row2 w a n p m) (q : Nat) : Row2 (w.drewN q) a n p m := h
theorem drewN_below (w : World) (q : Nat) : Below w.heap.size w (w.drewN q) := ⟨rfl, rfl, rfl, Nat.le_refl _, fun _ _ => rfl⟩

set_option maxHeartbeats 2000000 in
theorem want_any (a1 a2 : Option Addr) (n1 c1 n2 c2 : Nat) (p1 m1 p2 m2 : Nat → ByteArray) (w : World) (h1 : Row2 w a1 n1 p1 m1) (h2 : Row2 w a2 n2 p2 m2) (hn1 : n1 ≤ maxLen) (hn2 : n2 ≤ maxLen) :
    Calls Try.prog 6 #[.slice a1 n1 c1, .slice a2 n2 c2] w fun e w' => e = .returned (.bool true) ∧ Below w.heap.size w w' := by
  have H1 := hide h1
  have H2 := hide h2
  have M1 := hide hn1
  have M2 := hide hn2
  unfold maxLen at hn1 hn2
  clear h1 h2
  go_enter Try.func6, Try.ntmps6
  go_wp2_with fail
  refine (zz_any a1 a2 n1 c1 n2 c2 p1 m1 p2 m2 _ H1.out H2.out M1.out M2.out).mono ?_
  rintro e w1 ⟨⟨b, rfl, hb⟩, hw⟩
  have hw := hw.symm
  subst hw
  cases b
  · go_wp2_with fail
    go_ret
    exact ⟨rfl, Below.refl _ _⟩
  · obtain ⟨hs1, hs2⟩ := hb rfl
    clear hb
    by_cases hl1 : 4096 < n1
    · go_wp2_with fail
      go_ret
      exact ⟨rfl, Below.refl _ _⟩
    · by_cases hl2 : 4096 < n2
      · go_wp2_with fail
        go_ret
        exact ⟨rfl, Below.refl _ _⟩
      · have hm1 : n1 ≤ 4096 := by omega
        have hm2 : n2 ≤ 4096 := by omega
        have d1 : decide (4096 < (n1 : Int)) = false := by simp; omega
        have d2 : decide (4096 < (n2 : Int)) = false := by simp; omega
        clear hl1 hl2 hn1 hn2
        go_wp2_with fail
        refine (pm_any a1 n1 c1 p1 m1 _ H1.out hs1 hm1).mono ?_
        rintro e w1 ⟨⟨x1, rfl, hx1, hx1'⟩, q1, hw⟩
        subst hw
        go_wp2_with fail
        refine (pm_any a2 n2 c2 p2 m2 _ (H2.out.drewN q1) hs2 hm2).mono ?_
        rintro e w1 ⟨⟨x2, rfl, hx2, hx2'⟩, q2, hw⟩
        subst hw
        have hB1 : Below w.heap.size w ((w.drewN q1).drewN q2) := (drewN_below w q1).trans (drewN_below (w.drewN q1) q2)
        have R1 := hide ((H1.out.drewN q1).drewN q2)
        have R2 := hide ((H2.out.drewN q1).drewN q2)
        clear H1 H2
        generalize (w.drewN q1).drewN q2 = W1 at *
        by_cases hx : 1048576 < x1 + x2
        · go_wp2_with fail
          go_ret
          exact ⟨rfl, hB1⟩
        · have dx : decide (1048576 < x1 + x2) = false := by simp; omega
          have hx0 : -9223372036854775808 ≤ x1 + x2 := by omega
          clear hx
          go_wp2_with fail
          clear dx hx0 hx1 hx2 hx1' hx2'
          refine (to_any a1 n1 c1 p1 m1 _ R1.out hs1 hm1).mono ?_
          rintro e W2 ⟨a1', c1', rfl, hr1, hb2⟩
          have S1 := hide hr1
          have S2 := hide (R2.out.below hb2 (Nat.le_refl _))
          have T1 := hide (R1.out.below hb2 (Nat.le_refl _))
          have hB2 : Below w.heap.size w W2 := hB1.trans (hb2.mono hB1.size)
          clear hr1 R1 R2 hB1 hb2
          go_wp2_with fail
          refine (to_any a2 n2 c2 p2 m2 _ S2.out hs2 hm2).mono ?_
          rintro e W3 ⟨a2', c2', rfl, hr2, hb3⟩
          have U2 := hide hr2
          have U1 := hide (S1.out.below hb3 (Nat.le_refl _))
          have V2 := hide (S2.out.below hb3 (Nat.le_refl _))
          have V1 := hide (T1.out.below hb3 (Nat.le_refl _))
          have hB3 : Below w.heap.size w W3 := hB2.trans (hb3.mono hB2.size)
          clear hr2 S1 S2 T1 hB2 hb3
          have hmk := fun w => make_pairs (P := Try.prog) 28 35 Try.underlying28 info35 n1 hm1 w
          go_wp2_with fail
          clear hmk
          go_loopg [8, 9] n1 (fun g nn k wr => ∃ k' : Nat, g = n1 - k' ∧ nn = .int .i64 (keptL p1 p2 n2 k').length ∧ k = .int .i64 k' ∧ k' ≤ n1 ∧ wr.rowIs W3.heap.size 35 (n1 * 2) (cellP (selP (keptL p1 p2 n2 k') p1) (selP (keptL p1 p2 n2 k') m1)) ∧ Below W3.heap.size W3 wr)
          case atStart => exact ⟨0, rfl, rfl, rfl, by omega, want_start W3 n1 p1 m1 p2 n2, (Below.refl _ _).alloc (Nat.le_refl _) _⟩
          case round =>
            obtain ⟨W0, hW0⟩ : ∃ W0, W0 = wr := ⟨_, rfl⟩
            subst hW0
            obtain ⟨k, hgk, rfl, rfl, hk, hrow, hbel⟩ := hrel
            have HG := hide hgk
            have HR := hide hrow
            have hkl := keptL_le p1 p2 n2 k
            clear hgk hrow
            by_cases hlt : k < n1
            · obtain ⟨b, off, ha, hb, hc0, hc1, _, _⟩ := V1.out k hlt
              have hsk := hs1 k hlt
              subst ha
              have g0 := (hbel.cell (p := ⟨b, off + k * 2, none⟩) hb).trans hc0
              have g1 := (hbel.cell (p := ⟨b, off + k * 2 + 1, none⟩) hb).trans hc1
              clear hc0 hc1
              go_wp2_with fail
              go_loopg [10, 11] n2 (fun g kn j wr => ∃ (j' : Nat) (bk : Bool), g = n2 - j' ∧ kn = .bool bk ∧ j = .int .i64 j' ∧ bk = knownB p2 j' (p1 k) ∧ j' ≤ n2 ∧ Below W0.heap.size W0 wr)
              case atStart => exact ⟨0, false, rfl, rfl, rfl, rfl, by omega, Below.refl _ _⟩
              case round =>
                obtain ⟨j, bk, hgk2, rfl, rfl, hbk, hj, hbi⟩ := hrel
                have hb3 : Below W3.heap.size W3 wr := hbel.trans (hbi.mono hbel.size)
                have k0 := (hbi.cell (p := ⟨b, off + k * 2, none⟩) (Nat.lt_of_lt_of_le hb hbel.size)).trans g0
                have k1 := (hbi.cell (p := ⟨b, off + k * 2 + 1, none⟩) (Nat.lt_of_lt_of_le hb hbel.size)).trans g1
                clear g0 g1
                have HG2 := hide hgk2
                have HK := hide hbk
                clear hgk2 hbk
                by_cases hj2 : j < n2
                · obtain ⟨b2, off2, ha2, hb2, hc0, hc1, _, _⟩ := V2.out j hj2
                  have hsj := hs2 j hj2
                  subst ha2
                  have e0 := (hb3.cell (p := ⟨b2, off2 + j * 2, none⟩) hb2).trans hc0
                  have e1 := (hb3.cell (p := ⟨b2, off2 + j * 2 + 1, none⟩) hb2).trans hc1
                  clear hc0 hc1
                  cases hwi : wiB (p1 k) (p2 j)
                  · have HC : Hid (∀ w, Calls Try.prog 17 #[.string (p1 k), .string (p2 j)] w fun e w' => e = .returned (.bool false) ∧ w' = w) := hide fun w => by
                      have := within_any (p1 k) (p2 j) w hsk.1 hsj.1
                      rw [hwi] at this
                      exact this
                    have HWI := hide hwi
                    clear hwi
                    go_wp2_with fail
                    go_quiet ((go_at_call 17; exact Calls.quiet_of_same (HC.out _)))
                    go_wp2_with fail
                    go_roundg (n2 - (j + 1))
                    case rel => exact ⟨j + 1, bk, rfl, rfl, by go_num, by rw [knownB_succ, ← HK.out, HWI.out, Bool.or_false], by omega, hbi.trans ((drewN_below wr nq).mono hbi.size)⟩
                    case measure => have := HG2.out; omega
                  · have HC : Hid (∀ w, Calls Try.prog 17 #[.string (p1 k), .string (p2 j)] w fun e w' => e = .returned (.bool true) ∧ w' = w) := hide fun w => by
                      have := within_any (p1 k) (p2 j) w hsk.1 hsj.1
                      rw [hwi] at this
                      exact this
                    have HWI := hide hwi
                    clear hwi
                    go_wp2_with fail
                    go_quiet ((go_at_call 17; exact Calls.quiet_of_same (HC.out _)))
                    go_wp2_with fail
                    go_roundg (n2 - (j + 1))
                    case rel => exact ⟨j + 1, true, rfl, rfl, by go_num, by rw [knownB_succ, HWI.out, Bool.or_true], by omega, hbi.trans ((drewN_below wr nq).mono hbi.size)⟩
                    case measure => have := HG2.out; omega
                · have hk2 : bk = knownB p2 n2 (p1 k) := by
                    have e : j = n2 := by omega
                    rw [← e]; exact HK.out
                  have HK2 := hide hk2
                  have hrw : wr.rowIs W3.heap.size 35 (n1 * 2) (cellP (selP (keptL p1 p2 n2 k) p1) (selP (keptL p1 p2 n2 k) m1)) := HR.out.of_block (hbi.block _ HR.out.lt)
                  have HRW := hide hrw
                  clear hk2 HK hrw
                  cases bk
                  · have f0 := HRW.out.frozen ((keptL p1 p2 n2 k).length * 2)
                    have f1 := HRW.out.frozen ((keptL p1 p2 n2 k).length * 2 + 1)
                    have e0 := HRW.out.cell (i := (keptL p1 p2 n2 k).length * 2) (by omega)
                    have e1 := HRW.out.cell (i := (keptL p1 p2 n2 k).length * 2 + 1) (by omega)
                    go_wp2_with fail
                    go_roundg (n1 - (k + 1))
                    case rel => exact ⟨k + 1, rfl, by rw [keptL_yes HK2.out.symm, List.length_append]; go_num, by go_num, by omega, want_put HRW.out HK2.out, (hb3.setCell (Nat.le_refl _) _).setCell (Nat.le_refl _) _⟩
                    case measure => have := HG.out; omega
                  · go_wp2_with fail
                    go_roundg (n1 - (k + 1))
                    case rel => exact ⟨k + 1, rfl, by rw [keptL_no HK2.out.symm], by go_num, by omega, by rw [keptL_no HK2.out.symm]; exact HRW.out, hb3⟩
                    case measure => have := HG.out; omega
            · have e : k = n1 := by omega
              subst e
              have hB0 : Below w.heap.size w W0 := hB3.trans (hbel.mono hB3.size)
              have X1 := hide (U1.out.below hbel (Nat.le_refl _))
              have X2 := hide (U2.out.below hbel (Nat.le_refl _))
              clear U1 U2 V1 V2 hk hlt
              go_wp2_with fail
              refine (zzout_any a1' a2' k c1' n2 c2' p1 m1 p2 m2 _ X1.out X2.out hs1 hs2 hm1 hm2).mono ?_
              rintro e W4 ⟨v, rfl, ho, hnl, hb4⟩
              have hrw := HR.out.of_block (hb4.block _ HR.out.lt)
              have hB4 : Below w.heap.size w W4 := hB0.trans (hb4.mono hB0.size)
              have HRW := hide hrw
              have HO := hide ho
              have HN := hide hnl
              clear X1 X2 HR HG hbel hB0 hB3 hb4 hrw ho hnl
              generalize keptL p1 p2 n2 k = K at *
              have hqn : ∀ (w : World) (a : Option Addr) (n c : Nat), (binOp .eql 32 (.slice a n c) (.slice none 0 0)).run Try.prog w = .ok (.bool a.isNone) w := fun w a n c => Lib.run_eql_slice_nil w 32 37 a n c 0 0 Try.underlying32
              by_cases hK : K = []
              · have hv := HN.out.2 hK
                subst hv
                subst hK
                go_wp2_with fail
                go_loopg [13] 0 (fun g kk wr => g = 0 ∧ kk = .int .i64 0 ∧ wr = W4)
                case atStart => exact ⟨rfl, rfl, rfl⟩
                case round =>
                  obtain ⟨hg, rfl, hwr⟩ := hrel
                  subst hwr
                  have HGG := hide hg
                  clear hg
                  go_wp2_with fail
                  go_ret
                  exact ⟨rfl, hB4⟩
              · obtain ⟨g, cap, cur, hv, _⟩ : ∃ g cap cur, v = .slice (some ⟨g, 0, none⟩) K.length cap ∧ W4.heap[g]? = some (.cells cur 37 (0, 0)) := by
                  rcases HO.out.2 with ⟨h, _⟩ | ⟨g, cap, cur, h1, _, h2, _⟩
                  · exact absurd (HN.out.1 h) hK
                  · exact ⟨g, cap, cur, h1, h2⟩
                subst hv
                have hL : ((K.length : Int) == 0) = false := by
                  have : K.length ≠ 0 := fun h => hK (List.eq_nil_of_length_eq_zero h)
                  simp; exact hK
                have hgz : g < W4.heap.size := (HO.out.lt g rfl).2
                go_wp2_with fail
                clear hqn
                go_loopg [13] K.length (fun gg kk wr => ∃ k' : Nat, gg = K.length - k' ∧ kk = .int .i64 k' ∧ k' ≤ K.length ∧ Below W4.heap.size W4 wr)
                case atStart => exact ⟨0, rfl, rfl, by omega, Below.refl _ _⟩
                case round =>
                  obtain ⟨j, hgk, rfl, hj, hbj⟩ := hrel
                  have HG := hide hgk
                  clear hgk
                  by_cases hjl : j < K.length
                  · have s0 := (hbj.cell (p := ⟨g, j * 2, none⟩) hgz).trans ((HO.out.cellAt (j * 2) (by omega)).trans (cellsK_even p1 m1 K j hjl))
                    have s1 := (hbj.cell (p := ⟨g, j * 2 + 1, none⟩) hgz).trans ((HO.out.cellAt (j * 2 + 1) (by omega)).trans (cellsK_odd p1 m1 K j hjl))
                    have t0 := (hbj.cell (p := ⟨W3.heap.size, j * 2, none⟩) HRW.out.lt).trans (HRW.out.cell (i := j * 2) (by omega))
                    have t1 := (hbj.cell (p := ⟨W3.heap.size, j * 2 + 1, none⟩) HRW.out.lt).trans (HRW.out.cell (i := j * 2 + 1) (by omega))
                    rw [cellP_even, selP_at hjl] at t0
                    rw [cellP_odd, selP_at hjl] at t1
                    have hjk : j < k := by omega
                    generalize p1 (K.getD j 0) = x at *
                    generalize m1 (K.getD j 0) = y at *
                    go_wp2_with fail
                    go_quiet (fail)
                    go_wp2_with fail
                    go_roundg (K.length - (j + 1))
                    case rel => exact ⟨j + 1, rfl, by go_num, by omega, hbj.trans ((drewN_below wr nq).mono hbj.size)⟩
                    case measure => have := HG.out; omega
                  · go_wp2_with fail
                    go_ret
                    exact ⟨rfl, hB4.trans (hbj.mono hB4.size)⟩
end Go.Proofs.Qxb6603199a
