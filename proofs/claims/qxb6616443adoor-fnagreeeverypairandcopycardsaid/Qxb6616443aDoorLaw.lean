/- The law's walk. -/
import Derived.Test.Qxb6616443aDoorHelp
import Derived.Deep.RegionHeld3
import Derived.Deep.Cut
namespace Go.Proofs.Qxb6616443aDoor
open Go.RowKit

set_option maxRecDepth 100000 in
set_option maxHeartbeats 4000000 in
theorem law_main (b off n c i j : Nat) (R : Nat → RowD) (w : World) (hg : w.cell? ⟨0, 0, none⟩ = some hnd) (hn : n ≤ maxLen) (hi : i < n) (hj : j < n)
    (hR : ∀ i, i < n → RowAt w b off i (R i) ∧ (R i).Fits) :
    Calls Tryd.prog 3 #[.slice (some ⟨b, off, none⟩) n c, .int .i64 (i : Int), .int .i64 (j : Int)] w fun e w' => e = .returned (.bool true) ∧ Below w.heap.size w w' := by
  have HR : Aside (∀ i, i < n → RowAt w b off i (R i)) := fun i hi => (hR i hi).1
  have hlt0 : 0 < w.heap.size := World.block_lt_of_cell? _ _ hg
  have hG : Aside (∀ W, Below w.heap.size w W → W.cell? ⟨0, 0, none⟩ = some hnd) := fun W hb => (hb.cell (p := ⟨0, 0, none⟩) hlt0).trans hg
  have hA := bytes_any b off n c i j R w hn hR
  have hT := fun h => tooBig_any b off n c R w hn HR.out h
  clear hR hg
  unfold maxLen at hn
  have i1 : (i : Int) < (n : Int) := by omega
  have j1 : (j : Int) < (n : Int) := by omega
  have i0 : ¬ (i : Int) < 0 := by omega
  have j0 : ¬ (j : Int) < 0 := by omega
  go_enter Tryd.func3, Tryd.ntmps3
  go_wp2_with fail
  refine hA.mono ?_
  clear hA
  rintro e w' ⟨hp, hw⟩
  subst hw
  rcases hp with rfl | ⟨rfl, hS⟩
  · clear hT
    go_wp2
    go_ret
    exact ⟨rfl, Below.refl _ _⟩
  go_wp2_with fail
  refine (hT hS).mono ?_
  clear hT hS
  rintro e w1 ⟨hp, b1⟩
  rcases hp with rfl | ⟨rfl, hn1⟩
  · go_wp2
    go_ret
    exact ⟨rfl, b1⟩
  go_wp2_with fail
  have hC := resultsOf_any b off n c R w1 (by omega) (by omega) (fun k hk => (HR.out k hk).later b1)
  refine hC.mono ?_
  clear hC
  rintro e w2 ⟨⟨B1, rfl, hB1, hB1', -, er, hF⟩, hb⟩
  have b2 : Aside (Below w'.heap.size w' w2) := b1.trans (hb.mono b1.size)
  have F2 : Aside (Filled w2 B1 R er n) := hF
  clear hF hb b1
  go_wp2_with fail
  have hC := agree_any B1 0 n n _ _ _ w2 (hG.out _ b2.out) (by omega) (by omega) (Nat.le_refl _) (by omega) F2.out.res
  refine hC.mono ?_
  clear hC
  rintro e w3 ⟨⟨whole, rfl, hr⟩, hb⟩
  have W0 : Aside (whole = true ↔ AllOne (fun i => ((R i).f, (R i).s.toList)) n) := hr.trans (agree_allOne _ _ _)
  have b3 : Aside (Below w'.heap.size w' w3) := b2.out.trans (hb.mono b2.out.size)
  have F3 : Aside (Filled w3 B1 R er n) := F2.out.later hb
  clear hr hb b2 F2
  go_wp2_with fail
  have hRi := (HR.out i hi).later b3.out
  have hRj := (HR.out j hj).later b3.out
  have hK : Aside (∀ w4, Below w3.heap.size w3.drew w4 → RowAt w4 b off i (R i) ∧ RowAt w4 b off j (R j)) := fun w4 hb => ⟨hRi.later ⟨hb.os, hb.tape, hb.output, hb.size, hb.block⟩, hRj.later ⟨hb.os, hb.tape, hb.output, hb.size, hb.block⟩⟩
  obtain ⟨li0, li1, li2, li3, li4, li5⟩ := hRi
  obtain ⟨lj0, lj1, lj2, lj3, lj4, lj5⟩ := hRj
  have i0' : (0 : Int) ≤ (i : Int) := by omega
  have j0' : (0 : Int) ≤ (j : Int) := by omega
  go_region_held3 (fun W => (W.cell? ⟨b, off + i * 6, none⟩ = some (.string (R i).p) ∧ W.cell? ⟨b, off + i * 6 + 1, none⟩ = some (.string (R i).t) ∧ W.cell? ⟨b, off + i * 6 + 2, none⟩ = some (.string (R i).v) ∧ W.cell? ⟨b, off + i * 6 + 3, none⟩ = some (.int .u8 (R i).k) ∧ W.cell? ⟨b, off + i * 6 + 4, none⟩ = some (.string (R i).c) ∧ W.cell? ⟨b, off + i * 6 + 5, none⟩ = some (.string (R i).d)) ∧
      (W.cell? ⟨b, off + j * 6, none⟩ = some (.string (R j).p) ∧ W.cell? ⟨b, off + j * 6 + 1, none⟩ = some (.string (R j).t) ∧ W.cell? ⟨b, off + j * 6 + 2, none⟩ = some (.string (R j).v) ∧ W.cell? ⟨b, off + j * 6 + 3, none⟩ = some (.int .u8 (R j).k) ∧ W.cell? ⟨b, off + j * 6 + 4, none⟩ = some (.string (R j).c) ∧ W.cell? ⟨b, off + j * 6 + 5, none⟩ = some (.string (R j).d)))
    (first | go_keep | exact hK.out _ (by assumption))
    (first | (go_at_call 8; refine (same_any (R i) (R j) _).mono ?_; rintro e w4 ⟨rfl, b4⟩))
  generalize hsm : (!diff (R i).f (R j).f (R i).s (R j).s) = sm
  have SM : Aside ((!diff (R i).f (R j).f (R i).s (R j).s) = sm) := hsm
  clear hsm
  have B4 : Aside (Below w'.heap.size w' w4) := b3.out.trans ((show Below w3.heap.size w3 w4 from ⟨b4.os, b4.tape, b4.output, b4.size, b4.block⟩).mono b3.out.size)
  have F4 : Aside (Filled w4 B1 R er n) := F3.out.later ⟨b4.os, b4.tape, b4.output, b4.size, b4.block⟩
  clear hK li0 li1 li2 li3 li4 li5 lj0 lj1 lj2 lj3 lj4 lj5 b4 b3 F3
  go_wp2_with fail
  obtain ⟨ei0, ei1, ei2, ei3⟩ := F4.out.four hi
  obtain ⟨ej0, ej1, ej2, ej3⟩ := F4.out.four hj
  have hP := fun W => pair_any (R i).p (R i).t (R i).v (er i) (R j).p (R j).t (R j).v (er j) (F4.out i hi).2.ans.one (F4.out j hj).2.ans.one W
  have hK : Aside (∀ W, Below w4.heap.size w4.drew W → Two W B1 i j R er) := fun W hb => F4.out.two hi hj hb
  go_region_held3 (fun W => (W.cell? ⟨B1, i * 4, none⟩ = some (.string (R i).p) ∧ W.cell? ⟨B1, i * 4 + 1, none⟩ = some (.string (R i).t) ∧ W.cell? ⟨B1, i * 4 + 2, none⟩ = some (.string (R i).v) ∧ W.cell? ⟨B1, i * 4 + 3, none⟩ = some (er i)) ∧
      (W.cell? ⟨B1, j * 4, none⟩ = some (.string (R j).p) ∧ W.cell? ⟨B1, j * 4 + 1, none⟩ = some (.string (R j).t) ∧ W.cell? ⟨B1, j * 4 + 2, none⟩ = some (.string (R j).v) ∧ W.cell? ⟨B1, j * 4 + 3, none⟩ = some (er j)))
    (first | go_keep | exact hK.out _ b6 | exact hK.out _ b5)
    (first | (go_at_call 9; refine (hP _).mono ?_; rintro e w5 ⟨⟨B, rfl, e1, e2⟩, b5⟩) | (go_at_call 7; refine (agree_pair F4.out hi hj (hG.out _ B4.out) b5 e1 e2).mono ?_; rintro e w6 ⟨⟨pij, rfl, hij⟩, b6⟩))
  have B6 : Aside (Below w'.heap.size w' w6) := B4.out.trans ((drew_below b6).mono B4.out.size)
  have F6 : Aside (Filled w6 B1 R er n) := F4.out.later (drew_below b6)
  clear hP hK ei0 ei1 ei2 ei3 ej0 ej1 ej2 ej3 b5 b6 e1 e2 F4 B4
  go_wp2_with fail
  obtain ⟨ei0, ei1, ei2, ei3⟩ := F6.out.four hj
  obtain ⟨ej0, ej1, ej2, ej3⟩ := F6.out.four hi
  have hP := fun W => pair_any (R j).p (R j).t (R j).v (er j) (R i).p (R i).t (R i).v (er i) (F6.out j hj).2.ans.one (F6.out i hi).2.ans.one W
  have hK : Aside (∀ W, Below w6.heap.size w6.drew W → Two W B1 j i R er) := fun W hb => F6.out.two hj hi hb
  go_region_held3 (fun W => (W.cell? ⟨B1, j * 4, none⟩ = some (.string (R j).p) ∧ W.cell? ⟨B1, j * 4 + 1, none⟩ = some (.string (R j).t) ∧ W.cell? ⟨B1, j * 4 + 2, none⟩ = some (.string (R j).v) ∧ W.cell? ⟨B1, j * 4 + 3, none⟩ = some (er j)) ∧
      (W.cell? ⟨B1, i * 4, none⟩ = some (.string (R i).p) ∧ W.cell? ⟨B1, i * 4 + 1, none⟩ = some (.string (R i).t) ∧ W.cell? ⟨B1, i * 4 + 2, none⟩ = some (.string (R i).v) ∧ W.cell? ⟨B1, i * 4 + 3, none⟩ = some (er i)))
    (first | go_keep | exact hK.out _ b6 | exact hK.out _ b5)
    (first | (go_at_call 9; refine (hP _).mono ?_; rintro e w5 ⟨⟨B, rfl, e1, e2⟩, b5⟩) | (go_at_call 7; refine (agree_pair F6.out hj hi (hG.out _ B6.out) b5 e1 e2).mono ?_; rintro e w8 ⟨⟨pji, rfl, hji⟩, b6⟩))
  have B8 : Aside (Below w'.heap.size w' w8) := B6.out.trans ((drew_below b6).mono B6.out.size)
  have F8 : Aside (Filled w8 B1 R er n) := F6.out.later (drew_below b6)
  clear hP hK ei0 ei1 ei2 ei3 ej0 ej1 ej2 ej3 b5 b6 e1 e2 F6 B6
  go_wp2_with fail
  have hC := resultsOf_any b off n c R w8 (by omega) (by omega) (fun k hk => (HR.out k hk).later B8.out)
  refine hC.mono ?_
  clear hC
  rintro e w9 ⟨⟨B2, rfl, hB2, hB2', hRB, er2, hF⟩, hb⟩
  have C9 : Aside (Below w8.heap.size w8 w9) := hb
  have G9 : Aside (Filled w9 B2 R er2 n) := hF
  have R9 : Aside (RB w9 B2 (n * 4)) := hRB
  clear hF hb hRB
  obtain ⟨ei0, ei1, ei2, ei3⟩ := G9.out.four hi
  obtain ⟨ej0, ej1, ej2, ej3⟩ := G9.out.four hj
  have hsti := fun a m W => run_store Tryd.prog W a (er2 i) m (G9.out i hi).2.ans.one
  have hstj := fun a m W => run_store Tryd.prog W a (er2 j) m (G9.out j hj).2.ans.one
  go_upto_region 15 with fail
  obtain ⟨hbA, ⟨ca0, ca1, ca2, ca3⟩, ⟨cb0, cb1, cb2, cb3⟩⟩ := two_blocks w9 (.string (R i).p) (.string (R i).t) (.string (R i).v) (er2 i) (.string (R j).p) (.string (R j).t) (.string (R j).v) (er2 j)
  generalize ((w9.alloc (.cells #[.string (R i).p, .string (R i).t, .string (R i).v, er2 i] 37)).alloc (.cells #[.string (R j).p, .string (R j).t, .string (R j).v, er2 j] 37)) = w10 at *
  have C10 : Aside (Below w8.heap.size w8 w10) := C9.out.trans (hbA.mono C9.out.size)
  have G10 : Aside (Filled w10 B2 R er2 n) := G9.out.later hbA
  have R10 : Aside (RB w10 B2 (n * 4)) := R9.out.later hbA hB2'
  clear hbA C9 G9 R9 ei0 ei1 ei2 ei3 ej0 ej1 ej2 ej3
  obtain ⟨u0, u1, u2, u3, ⟨ei0, ei1, ei2, ei3⟩, fi0, fi1, fi2, fi3⟩ := R10.out.four (o := i * 4) (by omega)
  go_upto_region 16 with fail
  rw [show (((w10.setCell ⟨B2, i * 4, none⟩ (.string (R j).p)).setCell ⟨B2, i * 4 + 1, none⟩ (.string (R j).t)).setCell ⟨B2, i * 4 + 2, none⟩ (.string (R j).v)).setCell ⟨B2, i * 4 + 3, none⟩ (er2 j) = set4 w10 B2 (i * 4) (.string (R j).p) (.string (R j).t) (.string (R j).v) (er2 j) from rfl]
  have R11 : RB (set4 w10 B2 (i * 4) (.string (R j).p) (.string (R j).t) (.string (R j).v) (er2 j)) B2 (n * 4) := R10.out.set4 _ _ _ _ _ (by omega)
  have C11 : Below w8.heap.size w8 (set4 w10 B2 (i * 4) (.string (R j).p) (.string (R j).t) (.string (R j).v) (er2 j)) := set4_below C10.out hB2
  have ca := fun k => set4_far w10 B2 (i * 4) (.string (R j).p) (.string (R j).t) (.string (R j).v) (er2 j) ⟨w9.heap.size, k, none⟩ (by left; show w9.heap.size ≠ B2; omega)
  have da0 := (ca 0).trans ca0
  have da1 := (ca 1).trans ca1
  have da2 := (ca 2).trans ca2
  have da3 := (ca 3).trans ca3
  have G11 := Filled.swap G10.out R10.out hi hj
  clear ca ca0 ca1 ca2 ca3 cb0 cb1 cb2 cb3 ei0 ei1 ei2 ei3 fi0 fi1 fi2 fi3 R10 G10 C10 hstj
  generalize (set4 w10 B2 (i * 4) (.string (R j).p) (.string (R j).t) (.string (R j).v) (er2 j)) = w11 at *
  have R11' : Aside (RB w11 B2 (n * 4)) := R11
  have C11' : Aside (Below w8.heap.size w8 w11) := C11
  have G11' : Aside (Filled (set4 w11 B2 (j * 4) (.string (R i).p) (.string (R i).t) (.string (R i).v) (er2 i)) B2 (fun k => R (swapped i j k)) (fun k => er2 (swapped i j k)) n) := G11
  clear R11 C11 G11
  obtain ⟨v0, v1, v2, v3, ⟨ei0, ei1, ei2, ei3⟩, fi0, fi1, fi2, fi3⟩ := R11'.out.four (o := j * 4) (by omega)
  go_upto_region 17 with fail
  rw [show (((w11.setCell ⟨B2, j * 4, none⟩ (.string (R i).p)).setCell ⟨B2, j * 4 + 1, none⟩ (.string (R i).t)).setCell ⟨B2, j * 4 + 2, none⟩ (.string (R i).v)).setCell ⟨B2, j * 4 + 3, none⟩ (er2 i) = set4 w11 B2 (j * 4) (.string (R i).p) (.string (R i).t) (.string (R i).v) (er2 i) from rfl]
  have C12 : Below w8.heap.size w8 (set4 w11 B2 (j * 4) (.string (R i).p) (.string (R i).t) (.string (R i).v) (er2 i)) := set4_below C11'.out hB2
  clear da0 da1 da2 da3 ei0 ei1 ei2 ei3 fi0 fi1 fi2 fi3 R11' C11' hsti
  generalize (set4 w11 B2 (j * 4) (.string (R i).p) (.string (R i).t) (.string (R i).v) (er2 i)) = w12 at *
  have B12 : Aside (Below w'.heap.size w' w12) := B8.out.trans (C12.mono B8.out.size)
  have F12 : Aside (Filled w12 B1 R er n) := F8.out.later C12
  have G12 : Aside (Filled w12 B2 (fun k => R (swapped i j k)) (fun k => er2 (swapped i j k)) n) := G11'.out
  clear C12 G11' B8 F8
  obtain ⟨A, hA, hmk⟩ := make_any (n + 1) (by omega)
  rw [show ((n + 1 : Nat) : Int) = (n : Int) + 1 by omega] at hmk
  have hRB := RB.made w12 A ((n + 1) * 4) hA
  have hb0 : Below w12.heap.size w12 (w12.alloc (.cells A 37)) := (Below.refl _ _).alloc (Nat.le_refl _) _
  -- what the pairs say
  have e1 : pij = sm := by
    have h1 := hij.out
    rw [← SM.out, Bool.eq_iff_iff, h1]
    simp only [Bool.not_eq_true']
    rw [diff_false]
    exact eq_comm
  have e2 : pji = sm := by
    have h1 := hji.out
    rw [← SM.out, Bool.eq_iff_iff, h1]
    simp only [Bool.not_eq_true']
    rw [diff_false]
  have e3 : whole = true → sm = true := by
    intro h
    have h1 := (allOne_two (W0.out.1 h) hi hj)
    rw [← e1]
    exact hij.out.2 h1
  clear hij hji SM
  subst e1
  subst e2
  go_wp2
  go_loopg [16] n (fun gg s16 wr => ∃ kk : Nat, kk ≤ n ∧ n - kk ≤ gg ∧ s16 = .int .i64 kk ∧ Aside (Below w12.heap.size w12 wr) ∧ Aside (w12.heap.size < wr.heap.size) ∧ Aside (RB wr w12.heap.size ((n + 1) * 4)) ∧ Aside (∀ k, k < kk → El wr w12.heap.size 0 k (R k).p (R k).t (R k).v (er k)))
  case atStart => exact ⟨0, Nat.zero_le _, by omega, rfl, hb0, by simp [Aside], hRB, fun k hk => absurd hk (Nat.not_lt_zero _)⟩
  case round =>
    obtain ⟨kk, hkk, hgg, rfl, BW, SZ, RBk, EL⟩ := hrel
    clear hmk hRB hb0
    by_cases hlt : kk < n
    · have hltz : (kk : Int) < (n : Int) := by omega
      have hltz' : (kk : Int) < (n : Int) + 1 := by omega
      obtain ⟨q0, q1, q2, q3⟩ := (F12.out.later BW.out).four hlt
      have hst := fun a m W => run_store Tryd.prog W a (er kk) m (F12.out kk hlt).2.ans.one
      obtain ⟨v0, v1, v2, v3, ⟨ei0, ei1, ei2, ei3⟩, fi0, fi1, fi2, fi3⟩ := RBk.out.four (o := kk * 4) (by omega)
      go_wp2
      go_roundg (n - (kk + 1))
      case measure => omega
      case rel =>
        have hz := SZ.out
        refine ⟨kk + 1, by omega, by omega, by go_num, set4_below BW.out (Nat.le_refl _), ?_, RBk.out.set4 (kk * 4) _ _ _ _ (by omega), fun k hk => ?_⟩
        · show w12.heap.size < (set4 wr w12.heap.size (kk * 4) _ _ _ _).heap.size
          simp [set4, World.setCell]
          omega
        · by_cases e : k = kk
          · subst e
            exact el_at4 (fun m hm => (RBk.out (k * 4 + m) (by omega)).1) rfl
          · exact (EL.out k (by omega)).set4 _ _ _ _ (by omega)
    · have hltz : ¬ (kk : Int) < (n : Int) := by omega
      obtain rfl : kk = n := by omega
      have hltz' : (kk : Int) < (kk : Int) + 1 := by omega
      obtain ⟨q0, q1, q2, q3⟩ := (F12.out.later BW.out).four hi
      have hst := fun a m W => run_store Tryd.prog W a (er i) m (F12.out i hi).2.ans.one
      obtain ⟨v0, v1, v2, v3, ⟨ei0, ei1, ei2, ei3⟩, fi0, fi1, fi2, fi3⟩ := RBk.out.four (o := kk * 4) (by omega)
      go_upto_region 23 with fail
      rw [show (((wr.setCell ⟨w12.heap.size, kk * 4, none⟩ (.string (R i).p)).setCell ⟨w12.heap.size, kk * 4 + 1, none⟩ (.string (R i).t)).setCell ⟨w12.heap.size, kk * 4 + 2, none⟩ (.string (R i).v)).setCell ⟨w12.heap.size, kk * 4 + 3, none⟩ (er i) = set4 wr w12.heap.size (kk * 4) (.string (R i).p) (.string (R i).t) (.string (R i).v) (er i) from rfl]
      have M := more_res F12.out hi BW.out (Nat.le_refl _) RBk.out EL.out
      have D13 : Below w12.heap.size w12 (set4 wr w12.heap.size (kk * 4) (.string (R i).p) (.string (R i).t) (.string (R i).v) (er i)) := set4_below BW.out (Nat.le_refl _)
      clear q0 q1 q2 q3 hst ei0 ei1 ei2 ei3 fi0 fi1 fi2 fi3
      generalize (set4 wr w12.heap.size (kk * 4) (.string (R i).p) (.string (R i).t) (.string (R i).v) (er i)) = w13 at *
      have B13 : Aside (Below w'.heap.size w' w13) := B12.out.trans (D13.mono B12.out.size)
      have G13 := G12.out.later D13
      have hS : ∀ W, Below w13.heap.size w13 W → Calls Tryd.prog 7 #[.slice (some ⟨B2, 0, none⟩) kk kk] W fun e w' => e = .returned (.bool whole) ∧ Below w13.heap.size w13 w' := by
        intro W hb
        refine (agree_any B2 0 kk kk _ _ _ W (hG.out _ (B13.out.trans (hb.mono B13.out.size))) (by omega) (by omega) (Nat.le_refl _) (by omega) (G13.later hb).res).mono ?_
        rintro e w' ⟨⟨r, h1, hr⟩, hb'⟩
        refine ⟨?_, hb.trans (hb'.mono hb.size)⟩
        rw [h1, bool_eq_of_iff (hr.trans (agree_allOne _ _ _)) W0.out (allOne_swapped (fun k => ((R k).f, (R k).s.toList)) kk i j hi hj)]
      have hM : ∀ W, Below w13.heap.size w13 W → Calls Tryd.prog 7 #[.slice (some ⟨w12.heap.size, 0, none⟩) (kk + 1) (kk + 1)] W fun e w' => e = .returned (.bool whole) ∧ Below w13.heap.size w13 w' := by
        intro W hb
        refine (agree_any w12.heap.size 0 (kk + 1) (kk + 1) _ _ _ W (hG.out _ (B13.out.trans (hb.mono B13.out.size))) (by omega) (by omega) (Nat.le_refl _) (by omega) (M.later hb)).mono ?_
        rintro e w' ⟨⟨r, h1, hr⟩, hb'⟩
        refine ⟨?_, hb.trans (hb'.mono hb.size)⟩
        have hall := allOne_more (fun k => ((R k).f, (R k).s.toList)) kk i hi
        have hsame : AllOne (fun k => ((if k < kk then (R k).f else (R i).f), (if k < kk then (R k).s else (R i).s).toList)) (kk + 1) ↔ AllOne (fun k => if k < kk then ((R k).f, (R k).s.toList) else ((R i).f, (R i).s.toList)) (kk + 1) := by
          have : (fun k => ((if k < kk then (R k).f else (R i).f), (if k < kk then (R k).s else (R i).s).toList)) = (fun k => if k < kk then ((R k).f, (R k).s.toList) else ((R i).f, (R i).s.toList)) := by
            funext k
            by_cases h : k < kk <;> simp [h]
          rw [this]
        rw [h1, bool_eq_of_iff (hr.trans (agree_allOne _ _ _)) W0.out (hsame.trans hall)]
      clear M D13 G13 G12 F12 B12 BW SZ RBk EL W0 hG HR
      cases whole with
      | true =>
        obtain rfl := e3 rfl
        go_wp2_with fail
        refine (hS _ (Below.refl _ _)).mono ?_
        rintro e w14 ⟨rfl, b14⟩
        go_wp2_with fail
        refine (hM _ b14).mono ?_
        rintro e w15 ⟨rfl, b15⟩
        go_wp2
        go_ret
        exact ⟨rfl, B13.out.trans (b15.mono B13.out.size)⟩
      | false =>
        clear e3
        cases pji with
        | true =>
          go_wp2_with fail
          refine (hS _ (Below.refl _ _)).mono ?_
          rintro e w14 ⟨rfl, b14⟩
          go_wp2_with fail
          refine (hM _ b14).mono ?_
          rintro e w15 ⟨rfl, b15⟩
          go_wp2
          go_ret
          exact ⟨rfl, B13.out.trans (b15.mono B13.out.size)⟩
        | false =>
          go_wp2_with fail
          refine (hS _ (Below.refl _ _)).mono ?_
          rintro e w14 ⟨rfl, b14⟩
          go_wp2_with fail
          refine (hM _ b14).mono ?_
          rintro e w15 ⟨rfl, b15⟩
          go_wp2
          go_ret
          exact ⟨rfl, B13.out.trans (b15.mono B13.out.size)⟩
end Go.Proofs.Qxb6616443aDoor
