/- FnHasClassFindsInsertedNameAndLosesRemovedOne: the law's walk. -/
import Derived.Test.Qxb6618489aMember
import Derived.Deep.Cut
namespace Go.Proofs.Qxb6618489a
open Go.RowKit

/-- The list with x put in at i. -/
def ins (ss : Nat → ByteArray) (i : Nat) (x : ByteArray) (k : Nat) : ByteArray := if k < i then ss k else if k = i then x else ss (k - 1)

theorem memB_ins (ss : Nat → ByteArray) (n i : Nat) (x : ByteArray) (hi : i ≤ n) : memB (ins ss i x) (n + 1) x = true := by
  rw [memB_iff]
  exact ⟨i, by omega, by simp [ins, eqs]⟩

/-- The first k names, x struck out. -/
def flt (ss : Nat → ByteArray) (x : ByteArray) : Nat → List ByteArray
  | 0 => []
  | k + 1 => if eqs (ss k) x then flt ss x k else flt ss x k ++ [ss k]

theorem flt_le (ss : Nat → ByteArray) (x : ByteArray) : ∀ k, (flt ss x k).length ≤ k
  | 0 => Nat.le_refl _
  | k + 1 => by
    unfold flt
    have := flt_le ss x k
    split
    · omega
    · simp; omega

theorem flt_none (ss : Nat → ByteArray) (x : ByteArray) : ∀ k, ∀ s ∈ flt ss x k, eqs s x = false
  | 0, s, h => by simp [flt] at h
  | k + 1, s, h => by
    unfold flt at h
    split at h
    · exact flt_none ss x k s h
    · rename_i hq
      rcases List.mem_append.1 h with h | h
      · exact flt_none ss x k s h
      · rw [List.mem_singleton.1 h]; simpa using hq

theorem flt_lt (ss : Nat → ByteArray) (x : ByteArray) : ∀ k, (flt ss x k).length < k ↔ ∃ i, i < k ∧ eqs (ss i) x = true
  | 0 => by simp [flt]
  | k + 1 => by
    have ih := flt_lt ss x k
    have hle := flt_le ss x k
    unfold flt
    split
    · rename_i hq
      exact ⟨fun _ => ⟨k, by omega, hq⟩, fun _ => by omega⟩
    · rename_i hq
      rw [List.length_append, List.length_singleton]
      constructor
      · intro h
        obtain ⟨i, hi, hq'⟩ := ih.1 (by omega)
        exact ⟨i, by omega, hq'⟩
      · rintro ⟨i, hi, hq'⟩
        by_cases e : i = k
        · subst e; exact absurd hq' hq
        · have := ih.2 ⟨i, by omega, hq'⟩; omega

theorem memB_flt (ss : Nat → ByteArray) (x : ByteArray) (n : Nat) : memB (fun j => (flt ss x n).getD j ByteArray.empty) (flt ss x n).length x = false := by
  cases h : memB (fun j => (flt ss x n).getD j ByteArray.empty) (flt ss x n).length x
  · rfl
  · obtain ⟨j, hj, hq⟩ := (memB_iff _ _ _).1 h
    have hm : (flt ss x n).getD j ByteArray.empty ∈ flt ss x n := by
      simp [List.getD, List.getElem?_eq_getElem hj]
    rw [flt_none ss x n _ hm] at hq
    cases hq

theorem memB_lt (ss : Nat → ByteArray) (x : ByteArray) (n : Nat) : memB ss n x = decide (((flt ss x n).length : Int) < (n : Int)) := by
  rw [Bool.eq_iff_iff, memB_iff, decide_eq_true_eq, ← flt_lt]
  omega

theorem getD_snoc (l : List ByteArray) (s : ByteArray) (j : Nat) (hj : j < l.length + 1) : (l ++ [s]).getD j ByteArray.empty = if j = l.length then s else l.getD j ByteArray.empty := by
  by_cases e : j = l.length
  · subst e; simp [List.getD]
  · have : j < l.length := by omega
    simp [List.getD, List.getElem?_append_left this, e]

/-- 'append(dst, src...)' within the capacity: what the walk comes to, and what lies there then. -/
theorem app_run (w : World) (b off len : Nat) (f : Nat → ByteArray) (B o m : Nat) (hsrc : ∀ k, k < len → w.cell? ⟨b, off + k, none⟩ = some (.string (f k))) (hRB : RB w B m) (ho : o + len ≤ m) :
    ∃ l : List Value, (loadCellsFrom ⟨b, off, none⟩ 0 len #[]).run Try.prog w = .ok l.toArray w ∧ (storeCells ⟨B, o, none⟩ l).run Try.prog w = .ok () (w.setCells B o l) ∧ RB (w.setCells B o l) B m ∧
      (∀ k, k < len → (w.setCells B o l).cell? ⟨B, o + k, none⟩ = some (.string (f k))) ∧ (∀ k, k < o → (w.setCells B o l).cell? ⟨B, k, none⟩ = w.cell? ⟨B, k, none⟩) ∧
      (∀ N W, N ≤ B → Below N W w → Below N W (w.setCells B o l)) ∧ (w.setCells B o l).heap.size = w.heap.size := by
  refine ⟨(List.range len).map fun k => .string (f k), ?_, ?_, ?_, ?_, ?_, ?_, ?_⟩
  · have := run_loadCells (P := Try.prog) w ⟨b, off, none⟩ len (fun k => .string (f k)) (fun j hj => by rw [WideShapes.add_plain]; exact hsrc j hj)
    simpa [loadCells] using this
  · have := run_storeCells_cells (P := Try.prog) B o ((List.range len).map fun k => .string (f k)) 0 w (fun j hj => by obtain ⟨v, hv⟩ := (hRB (o + j) (by simp at hj; omega)).1; rw [Nat.add_zero, hv]; rfl) (fun j hj => by rw [Nat.add_zero]; exact (hRB (o + j) (by simp at hj; omega)).2) (by simp [Value.oneCell'])
    simpa using this
  · exact hRB.sets _ o (by simpa using ho)
  · intro k hk
    have := World.cell?_setCells_in B ((List.range len).map fun k => Value.string (f k)) o w (fun j hj => by obtain ⟨v, hv⟩ := (hRB (o + j) (by simp at hj; omega)).1; rw [hv]; rfl) k (by simpa using hk)
    simpa using this
  · intro k hk
    exact World.cell?_setCells_out _ _ _ _ _ (fun _ _ => .inl hk)
  · intro N W hN hb
    exact sets_below hN _ _ _ hb
  · exact sets_size _ _ _ _

set_option maxRecDepth 100000 in
set_option maxHeartbeats 4000000 in
theorem insert_main (b off n c i : Nat) (x : ByteArray) (ss : Nat → ByteArray) (w : World) (hn1 : 1 ≤ n) (hn : n ≤ maxLen) (hnc : n ≤ c) (hc : c ≤ maxLen) (hx : x.size ≤ maxLen) (hi : i ≤ n)
    (hR : ∀ k, k < n → w.cell? ⟨b, off + k, none⟩ = some (.string (ss k))) (hS : ∀ i, i < n → (ss i).size ≤ maxLen) :
    Calls Try.prog 4 #[.slice (some ⟨b, off, none⟩) n c, .string x, .int .i64 (i : Int)] w fun e w' => e = .returned (.bool true) ∧ Below w.heap.size w w' := by
  have HR : Aside (StrsAt w (some ⟨b, off, none⟩) n ss) := .inr ⟨b, off, rfl, hR⟩
  have hbk : b < w.heap.size := World.block_lt_of_cell? _ _ (hR 0 (by omega))
  have hA := bytesF_any (some ⟨b, off, none⟩) n c x i ss w hn hx HR.out hS
  have hT := fun t => add_any (some ⟨b, off, none⟩) n c t ss w hn HR.out hS
  have HC : Aside (∀ k, k < n → w.cell? ⟨b, off + k, none⟩ = some (.string (ss k))) := hR
  clear hR hS
  unfold maxLen at hn hx hc
  have i1 : ¬ (n : Int) < (i : Int) := by omega
  have i0 : ¬ (i : Int) < 0 := by omega
  have i2 : (i : Int) ≤ (n : Int) := by omega
  have i3 : (i : Int) ≤ (c : Int) := by omega
  have i4 : (n : Int) ≤ (c : Int) := by omega
  have i5 : (0 : Int) ≤ (i : Int) := by omega
  by_cases hbig : (65536 : Int) < (n : Int)
  · go_enter Try.func4, Try.ntmps4
    go_wp2_with fail
    refine hA.mono ?_
    rintro e w' ⟨⟨r, rfl⟩, hw⟩
    subst hw
    clear hA hT
    cases r
    all_goals
      go_wp2
      go_ret
      exact ⟨rfl, Below.refl _ _⟩
  by_cases hxig : (1048576 : Int) < (x.size : Int)
  · go_enter Try.func4, Try.ntmps4
    go_wp2_with fail
    refine hA.mono ?_
    rintro e w' ⟨⟨r, rfl⟩, hw⟩
    subst hw
    clear hA hT
    cases r
    all_goals
      go_wp2
      go_ret
      exact ⟨rfl, Below.refl _ _⟩
  obtain ⟨A, hA', hmk0⟩ := make_str 0 (n + 1) (by omega) (by omega)
  obtain ⟨A2, hA2, hmk20⟩ := make_str 0 n (by omega) (by omega)
  have hmk : ∀ w : World, (Instr.makeSlice 22 (.int .i64 0) (.int .i64 ((n : Int) + 1))).run Try.prog w = .ok (.slice (some ⟨w.heap.size, 0, none⟩) 0 (n + 1)) (w.alloc (.cells A 9)) := hmk0
  have hmk2 : ∀ w : World, (Instr.makeSlice 22 (.int .i64 0) (.int .i64 (n : Int))).run Try.prog w = .ok (.slice (some ⟨w.heap.size, 0, none⟩) 0 n) (w.alloc (.cells A2 9)) := hmk20
  clear hmk0 hmk20
  obtain ⟨ti, hti, hz0, hz1, hz2⟩ := info_parts Try.info9
  go_enter Try.func4, Try.ntmps4
  go_wp2_with fail
  refine hA.mono ?_
  rintro e w' ⟨⟨r, rfl⟩, hw⟩
  subst hw
  clear hA
  cases r
  · clear hT
    go_wp2
    go_ret
    exact ⟨rfl, Below.refl _ _⟩
  go_wp2_with fail
  refine (hT _).mono ?_
  rintro e w' ⟨⟨z, rfl⟩, hw⟩
  subst hw
  clear hT
  by_cases hz : 1048576 < z
  · go_wp2
    go_ret
    exact ⟨rfl, Below.refl _ _⟩
  go_upto_region 10 with fail
  have hRB := RB.made w' A 9 (n + 1) hA'
  have b1 : Below w'.heap.size w' (w'.alloc (.cells A 9)) := (Below.refl _ _).alloc (Nat.le_refl _) _
  have z1 : w'.heap.size < (w'.alloc (.cells A 9)).heap.size := by simp
  generalize w'.alloc (.cells A 9) = w1 at *
  obtain ⟨l1, L1, S1, RB2, E2, -, BB2, Z2⟩ := app_run w1 b off i ss w'.heap.size 0 (n + 1) (fun k hk => (b1.cell (p := ⟨b, off + k, none⟩) hbk).trans (HC.out k (by omega))) hRB (by omega)
  have b2 := BB2 _ _ (Nat.le_refl _) b1
  go_upto_region 11 with fail
  clear L1 S1 BB2 hRB b1
  generalize w1.setCells w'.heap.size 0 l1 = w2 at *
  have RB2' : Aside (RB w2 w'.heap.size (n + 1)) := RB2
  have E2' : Aside (∀ k, k < i → w2.cell? ⟨w'.heap.size, k, none⟩ = some (.string (ss k))) := fun k hk => by have := E2 k hk; rwa [Nat.zero_add] at this
  have b2' : Aside (Below w'.heap.size w' w2) := b2
  obtain ⟨⟨o0, q0⟩, f0⟩ := RB2 i (by omega)
  have z2 : w'.heap.size < w2.heap.size := by rw [Z2]; exact z1
  have r1 : (i : Int) + 1 ≤ (n : Int) + 1 := by omega
  have r2 : i + 1 ≤ n + 1 := by omega
  clear RB2 E2 b2 Z2 z1
  go_upto_region 12 with fail
  have RB3 : RB ((w2.setCell ⟨w'.heap.size, i, none⟩ (.string x)).alloc (.cells #[.string x] 9)) w'.heap.size (n + 1) :=
    (RB2'.out.sets [.string x] i (by simp; omega)).later ((Below.refl _ _).alloc (Nat.le_refl _) _) (by rw [sets_size]; exact z2)
  have c3 : ∀ k, ((w2.setCell ⟨w'.heap.size, i, none⟩ (.string x)).alloc (.cells #[.string x] 9)).cell? ⟨w'.heap.size, k, none⟩ = (w2.setCells w'.heap.size i [.string x]).cell? ⟨w'.heap.size, k, none⟩ := fun k => World.cell?_alloc_lt _ _ _ (by show w'.heap.size < (w2.setCells w'.heap.size i [.string x]).heap.size; rw [sets_size]; exact z2)
  have E3 : ∀ k, k < i + 1 → ((w2.setCell ⟨w'.heap.size, i, none⟩ (.string x)).alloc (.cells #[.string x] 9)).cell? ⟨w'.heap.size, k, none⟩ = some (.string (ins ss i x k)) := by
    intro k hk
    rw [c3 k]
    by_cases e : k = i
    · subst e
      have hin : ∀ j, j < [Value.string x].length → (w2.cell? ⟨w'.heap.size, k + j, none⟩).isSome = true := by
        intro j hj
        have hj0 : j = 0 := by simpa using hj
        rw [hj0, Nat.add_zero, q0]
        rfl
      have := World.cell?_setCells_in w'.heap.size [.string x] k w2 hin 0 (by simp)
      simpa [ins] using this
    · rw [World.cell?_setCells_out _ _ _ _ _ (fun _ _ => by simp; omega), E2'.out k (by omega)]
      simp [ins, show k < i by omega]
  have b3 : Below w'.heap.size w' ((w2.setCell ⟨w'.heap.size, i, none⟩ (.string x)).alloc (.cells #[.string x] 9)) :=
    (sets_below (Nat.le_refl _) [.string x] i w2 b2'.out).alloc (by rw [sets_size]; exact Nat.le_of_lt z2) _
  clear c3 RB2' E2' b2' q0 f0 z2
  generalize (w2.setCell ⟨w'.heap.size, i, none⟩ (.string x)).alloc (.cells #[.string x] 9) = w3 at *
  by_cases hci : c = i
  · have e1 : n = i := by omega
    subst e1
    have e2 : n = c := by omega
    subst e2
    clear RB3 hci
    go_upto_region 13 with fail
    have b4' : Aside (Below w'.heap.size w' w3) := b3
    have E4' : Aside (∀ k, k < n + 1 → w3.cell? ⟨w'.heap.size, k, none⟩ = some (.string (ins ss n x k))) := E3
    have hRB0 : RB (w3.alloc (.cells A2 9)) w3.heap.size n := RB.made w3 A2 9 n hA2
    have hb0 : Below w3.heap.size w3 (w3.alloc (.cells A2 9)) := (Below.refl _ _).alloc (Nat.le_refl _) _
    clear b3 E3
    go_wp2
    go_loopg [8, 9] n (fun gg s8 s9 wr => ∃ kk : Nat, kk ≤ n ∧ n - kk ≤ gg ∧ s9 = .int .i64 kk ∧ s8 = .slice (some ⟨w3.heap.size, 0, none⟩) (flt ss x kk).length n ∧ Aside (Below w3.heap.size w3 wr) ∧ Aside (w3.heap.size < wr.heap.size) ∧ Aside (RB wr w3.heap.size n) ∧ Aside (∀ j, j < (flt ss x kk).length → wr.cell? ⟨w3.heap.size, j, none⟩ = some (.string ((flt ss x kk).getD j ByteArray.empty))))
    case atStart => exact ⟨0, Nat.zero_le _, by omega, rfl, rfl, hb0, by simp [Aside], hRB0, fun k hk => absurd hk (Nat.not_lt_zero _)⟩
    case round =>
      obtain ⟨kk, hkk, hgg, rfl, rfl, BW, SZ, RBk, EL⟩ := hrel
      clear hmk2 hRB0 hb0
      have hle := flt_le ss x kk
      by_cases hlt : kk < n
      · have hltz : (kk : Int) < (n : Int) := by omega
        have l0 : wr.cell? ⟨b, off + kk, none⟩ = some (.string (ss kk)) := by
          rw [BW.out.cell (p := ⟨b, off + kk, none⟩) (Nat.lt_of_lt_of_le hbk b4'.out.size), b4'.out.cell (p := ⟨b, off + kk, none⟩) hbk]; exact HC.out _ hlt
        by_cases hq : (ss kk).toList = x.toList
        · have hq' : ((ss kk).toList == x.toList) = true := by simp [hq]
          have EF : Aside (flt ss x (kk + 1) = flt ss x kk) := by
            show flt ss x (kk + 1) = flt ss x kk
            simp [flt, eqs, hq]
          clear hq
          generalize flt ss x kk = fl at *
          go_wp2
          go_roundg (n - (kk + 1))
          case measure => omega
          case rel => exact ⟨kk + 1, by omega, by omega, by go_num, by rw [EF.out], BW, SZ, RBk, by rw [EF.out]; exact EL⟩
        · have hq' : ((ss kk).toList == x.toList) = false := by simp [hq]
          have EF : Aside (flt ss x (kk + 1) = flt ss x kk ++ [ss kk]) := by
            show flt ss x (kk + 1) = flt ss x kk ++ [ss kk]
            simp [flt, eqs, hq]
          clear hq
          generalize flt ss x kk = fl at *
          generalize hfl : fl.length = m at *
          have HM : Aside (fl.length = m) := hfl
          clear hfl
          obtain ⟨⟨o1, q1⟩, f1⟩ := RBk.out m (by omega)
          have zr := SZ.out
          have r3 : m + 1 ≤ n := by omega
          go_wp2
          go_roundg (n - (kk + 1))
          case measure => omega
          case rel =>
            have hm := HM.out
            have bset : Below w3.heap.size w3 (wr.setCells w3.heap.size m [.string (ss kk)]) := sets_below (Nat.le_refl _) _ _ _ BW.out
            have zset : w3.heap.size < (wr.setCells w3.heap.size m [.string (ss kk)]).heap.size := by rw [sets_size]; exact zr
            refine ⟨kk + 1, by omega, by omega, by go_num, ?_, ?_, ?_, ?_, ?_⟩
            · rw [EF.out, List.length_append, List.length_singleton, hm]
            · exact bset.alloc (Nat.le_of_lt zset) _
            · show w3.heap.size < ((wr.setCells w3.heap.size m [.string (ss kk)]).alloc _).heap.size
              simp; omega
            · exact (RBk.out.sets [.string (ss kk)] m (by simp; omega)).later ((Below.refl _ _).alloc (Nat.le_refl _) _) zset
            · intro j hj
              rw [EF.out, List.length_append, List.length_singleton] at hj
              rw [EF.out, getD_snoc fl (ss kk) j hj]
              show ((wr.setCells w3.heap.size m [.string (ss kk)]).alloc _).cell? ⟨w3.heap.size, j, none⟩ = _
              rw [World.cell?_alloc_lt _ _ _ zset]
              by_cases e : j = m
              · have hin : ∀ j, j < [Value.string (ss kk)].length → (wr.cell? ⟨w3.heap.size, m + j, none⟩).isSome = true := by
                  intro j hj
                  have hj0 : j = 0 := by simpa using hj
                  rw [hj0, Nat.add_zero, q1]
                  rfl
                have h := World.cell?_setCells_in w3.heap.size [.string (ss kk)] m wr hin 0 (by simp)
                rw [Nat.add_zero] at h
                rw [e, h, hm]
                simp
              · rw [World.cell?_setCells_out _ _ _ _ _ (fun _ _ => by simp; omega), EL.out j (by omega), hm, if_neg e]
      · have hltz : ¬ (kk : Int) < (n : Int) := by omega
        obtain rfl : kk = n := by omega
        have R1 : Aside (∀ W, Below wr.heap.size wr W → StrsAt W (some ⟨w'.heap.size, 0, none⟩) (kk + 1) (ins ss kk x)) := fun W hb => .inr ⟨w'.heap.size, 0, rfl, fun k hk => by
          have h4 : w3.cell? ⟨w'.heap.size, k, none⟩ = some (.string (ins ss kk x k)) := E4'.out k hk
          have hl4 := World.block_lt_of_cell? _ _ h4
          have hr : wr.cell? ⟨w'.heap.size, k, none⟩ = some (.string (ins ss kk x k)) := (BW.out.cell (p := ⟨w'.heap.size, k, none⟩) hl4).trans h4
          rw [Nat.zero_add]
          exact (hb.cell (p := ⟨w'.heap.size, k, none⟩) (World.block_lt_of_cell? _ _ hr)).trans hr⟩
        have R2 : Aside (∀ W, Below wr.heap.size wr W → StrsAt W (some ⟨w3.heap.size, 0, none⟩) (flt ss x kk).length (fun j => (flt ss x kk).getD j ByteArray.empty)) := fun W hb => .inr ⟨w3.heap.size, 0, rfl, fun k hk => by
          rw [Nat.zero_add]
          exact (hb.cell (p := ⟨w3.heap.size, k, none⟩) SZ.out).trans (EL.out k hk)⟩
        have R3 : Aside (∀ W, Below wr.heap.size wr W → StrsAt W (some ⟨b, off, none⟩) kk ss) := fun W hb => ((HR.out.later b4'.out).later BW.out).later hb
        have M1 := memB_ins ss kk kk x (by omega)
        have M2 := memB_flt ss x kk
        have M3 := memB_lt ss x kk
        clear EL RBk E4'
        generalize hfl : flt ss x kk = fl at *
        clear hfl
        go_wp2_with fail
        refine (fund_any (some ⟨w'.heap.size, 0, none⟩) (kk + 1) (kk + 1) (ins ss kk x) wr (by omega) (R1.out _ (Below.refl _ _))).mono ?_
        rintro e wa ⟨⟨Bf, rfl, hE⟩, hb⟩
        have hH := hasClass_any Bf (kk + 1) (kk + 1) (ins ss kk x) x wa (by omega) hE
        have bf : Below wr.heap.size wr wa := (Below.refl wr.heap.size wr).trans (hb.mono (Below.refl wr.heap.size wr).size)
        clear hE hb
        go_wp2_with fail
        refine hH.mono ?_
        clear hH
        rintro e wb ⟨rfl, hb⟩
        have D1 : Aside (Below wr.heap.size wr wb) := bf.trans (hb.mono bf.size)
        clear hb bf
        rw [M1]
        go_wp2_with fail
        refine (fund_any (some ⟨w3.heap.size, 0, none⟩) fl.length kk (fun j => fl.getD j ByteArray.empty) wb (by omega) (R2.out _ D1.out)).mono ?_
        rintro e wc ⟨⟨Bf, rfl, hE⟩, hb⟩
        have hH := hasClass_any Bf fl.length fl.length (fun j => fl.getD j ByteArray.empty) x wc (by omega) hE
        have bf : Below wr.heap.size wr wc := D1.out.trans (hb.mono D1.out.size)
        clear hE hb
        go_wp2_with fail
        refine hH.mono ?_
        clear hH
        rintro e wd ⟨rfl, hb⟩
        have D2 : Aside (Below wr.heap.size wr wd) := bf.trans (hb.mono bf.size)
        clear hb bf
        rw [M2]
        go_wp2_with fail
        refine (fund_any (some ⟨b, off, none⟩) kk kk ss wd (by omega) (R3.out _ D2.out)).mono ?_
        rintro e we ⟨⟨Bf, rfl, hE⟩, hb⟩
        have hH := hasClass_any Bf kk kk ss x we (by omega) hE
        have bf : Below wr.heap.size wr we := D2.out.trans (hb.mono D2.out.size)
        clear hE hb
        go_wp2_with fail
        refine hH.mono ?_
        clear hH
        rintro e wf ⟨rfl, hb⟩
        have D3 : Aside (Below wr.heap.size wr wf) := bf.trans (hb.mono bf.size)
        clear hb bf
        rw [M3]
        clear M1 M2 M3
        go_wp2
        all_goals
          go_ret
          exact ⟨by first | rfl | simp, (b4'.out.trans (BW.out.mono b4'.out.size)).trans (D3.out.mono (Nat.le_trans b4'.out.size BW.out.size))⟩
  · obtain ⟨l4, L4, S4, RB4, E4a, E4b, BB4, Z4⟩ := app_run w3 b (off + i) (n - i) (fun k => ss (i + k)) w'.heap.size (i + 1) (n + 1) (fun k hk => by rw [Nat.add_assoc]; exact (b3.cell (p := ⟨b, off + (i + k), none⟩) hbk).trans (HC.out _ (by omega))) RB3 (by omega)
    have b4 := BB4 _ _ (Nat.le_refl _) b3
    have E4 : ∀ k, k < n + 1 → (w3.setCells w'.heap.size (i + 1) l4).cell? ⟨w'.heap.size, k, none⟩ = some (.string (ins ss i x k)) := by
      intro k hk
      by_cases h : k < i + 1
      · rw [E4b k h]; exact E3 k h
      · have := E4a (k - (i + 1)) (by omega)
        rw [show i + 1 + (k - (i + 1)) = k by omega, show i + (k - (i + 1)) = k - 1 by omega] at this
        rw [this]
        simp [ins, show ¬ k < i by omega, show ¬ k = i by omega]
    have r3 : i + 1 + (n - i) = n + 1 := by omega
    clear RB3 E3 b3 RB4 E4a E4b BB4 Z4
    go_upto_region 13 with fail
    clear L4 S4
    generalize w3.setCells w'.heap.size (i + 1) l4 = w4 at *
    have b4' : Aside (Below w'.heap.size w' w4) := b4
    have E4' : Aside (∀ k, k < n + 1 → w4.cell? ⟨w'.heap.size, k, none⟩ = some (.string (ins ss i x k))) := E4
    have hRB0 : RB (w4.alloc (.cells A2 9)) w4.heap.size n := RB.made w4 A2 9 n hA2
    have hb0 : Below w4.heap.size w4 (w4.alloc (.cells A2 9)) := (Below.refl _ _).alloc (Nat.le_refl _) _
    clear b4 E4
    go_wp2
    go_loopg [8, 9] n (fun gg s8 s9 wr => ∃ kk : Nat, kk ≤ n ∧ n - kk ≤ gg ∧ s9 = .int .i64 kk ∧ s8 = .slice (some ⟨w4.heap.size, 0, none⟩) (flt ss x kk).length n ∧ Aside (Below w4.heap.size w4 wr) ∧ Aside (w4.heap.size < wr.heap.size) ∧ Aside (RB wr w4.heap.size n) ∧ Aside (∀ j, j < (flt ss x kk).length → wr.cell? ⟨w4.heap.size, j, none⟩ = some (.string ((flt ss x kk).getD j ByteArray.empty))))
    case atStart => exact ⟨0, Nat.zero_le _, by omega, rfl, rfl, hb0, by simp [Aside], hRB0, fun k hk => absurd hk (Nat.not_lt_zero _)⟩
    case round =>
      obtain ⟨kk, hkk, hgg, rfl, rfl, BW, SZ, RBk, EL⟩ := hrel
      clear hmk2 hRB0 hb0
      have hle := flt_le ss x kk
      by_cases hlt : kk < n
      · have hltz : (kk : Int) < (n : Int) := by omega
        have l0 : wr.cell? ⟨b, off + kk, none⟩ = some (.string (ss kk)) := by
          rw [BW.out.cell (p := ⟨b, off + kk, none⟩) (Nat.lt_of_lt_of_le hbk b4'.out.size), b4'.out.cell (p := ⟨b, off + kk, none⟩) hbk]; exact HC.out _ hlt
        by_cases hq : (ss kk).toList = x.toList
        · have hq' : ((ss kk).toList == x.toList) = true := by simp [hq]
          have EF : Aside (flt ss x (kk + 1) = flt ss x kk) := by
            show flt ss x (kk + 1) = flt ss x kk
            simp [flt, eqs, hq]
          clear hq
          generalize flt ss x kk = fl at *
          go_wp2
          go_roundg (n - (kk + 1))
          case measure => omega
          case rel => exact ⟨kk + 1, by omega, by omega, by go_num, by rw [EF.out], BW, SZ, RBk, by rw [EF.out]; exact EL⟩
        · have hq' : ((ss kk).toList == x.toList) = false := by simp [hq]
          have EF : Aside (flt ss x (kk + 1) = flt ss x kk ++ [ss kk]) := by
            show flt ss x (kk + 1) = flt ss x kk ++ [ss kk]
            simp [flt, eqs, hq]
          clear hq
          generalize flt ss x kk = fl at *
          generalize hfl : fl.length = m at *
          have HM : Aside (fl.length = m) := hfl
          clear hfl
          obtain ⟨⟨o1, q1⟩, f1⟩ := RBk.out m (by omega)
          have zr := SZ.out
          have r3 : m + 1 ≤ n := by omega
          go_wp2
          go_roundg (n - (kk + 1))
          case measure => omega
          case rel =>
            have hm := HM.out
            have bset : Below w4.heap.size w4 (wr.setCells w4.heap.size m [.string (ss kk)]) := sets_below (Nat.le_refl _) _ _ _ BW.out
            have zset : w4.heap.size < (wr.setCells w4.heap.size m [.string (ss kk)]).heap.size := by rw [sets_size]; exact zr
            refine ⟨kk + 1, by omega, by omega, by go_num, ?_, ?_, ?_, ?_, ?_⟩
            · rw [EF.out, List.length_append, List.length_singleton, hm]
            · exact bset.alloc (Nat.le_of_lt zset) _
            · show w4.heap.size < ((wr.setCells w4.heap.size m [.string (ss kk)]).alloc _).heap.size
              simp; omega
            · exact (RBk.out.sets [.string (ss kk)] m (by simp; omega)).later ((Below.refl _ _).alloc (Nat.le_refl _) _) zset
            · intro j hj
              rw [EF.out, List.length_append, List.length_singleton] at hj
              rw [EF.out, getD_snoc fl (ss kk) j hj]
              show ((wr.setCells w4.heap.size m [.string (ss kk)]).alloc _).cell? ⟨w4.heap.size, j, none⟩ = _
              rw [World.cell?_alloc_lt _ _ _ zset]
              by_cases e : j = m
              · have hin : ∀ j, j < [Value.string (ss kk)].length → (wr.cell? ⟨w4.heap.size, m + j, none⟩).isSome = true := by
                  intro j hj
                  have hj0 : j = 0 := by simpa using hj
                  rw [hj0, Nat.add_zero, q1]
                  rfl
                have h := World.cell?_setCells_in w4.heap.size [.string (ss kk)] m wr hin 0 (by simp)
                rw [Nat.add_zero] at h
                rw [e, h, hm]
                simp
              · rw [World.cell?_setCells_out _ _ _ _ _ (fun _ _ => by simp; omega), EL.out j (by omega), hm, if_neg e]
      · have hltz : ¬ (kk : Int) < (n : Int) := by omega
        obtain rfl : kk = n := by omega
        have R1 : Aside (∀ W, Below wr.heap.size wr W → StrsAt W (some ⟨w'.heap.size, 0, none⟩) (kk + 1) (ins ss i x)) := fun W hb => .inr ⟨w'.heap.size, 0, rfl, fun k hk => by
          have h4 : w4.cell? ⟨w'.heap.size, k, none⟩ = some (.string (ins ss i x k)) := E4'.out k hk
          have hl4 := World.block_lt_of_cell? _ _ h4
          have hr : wr.cell? ⟨w'.heap.size, k, none⟩ = some (.string (ins ss i x k)) := (BW.out.cell (p := ⟨w'.heap.size, k, none⟩) hl4).trans h4
          rw [Nat.zero_add]
          exact (hb.cell (p := ⟨w'.heap.size, k, none⟩) (World.block_lt_of_cell? _ _ hr)).trans hr⟩
        have R2 : Aside (∀ W, Below wr.heap.size wr W → StrsAt W (some ⟨w4.heap.size, 0, none⟩) (flt ss x kk).length (fun j => (flt ss x kk).getD j ByteArray.empty)) := fun W hb => .inr ⟨w4.heap.size, 0, rfl, fun k hk => by
          rw [Nat.zero_add]
          exact (hb.cell (p := ⟨w4.heap.size, k, none⟩) SZ.out).trans (EL.out k hk)⟩
        have R3 : Aside (∀ W, Below wr.heap.size wr W → StrsAt W (some ⟨b, off, none⟩) kk ss) := fun W hb => ((HR.out.later b4'.out).later BW.out).later hb
        have M1 := memB_ins ss kk i x (by omega)
        have M2 := memB_flt ss x kk
        have M3 := memB_lt ss x kk
        clear EL RBk E4'
        generalize hfl : flt ss x kk = fl at *
        clear hfl
        go_wp2_with fail
        refine (fund_any (some ⟨w'.heap.size, 0, none⟩) (kk + 1) (kk + 1) (ins ss i x) wr (by omega) (R1.out _ (Below.refl _ _))).mono ?_
        rintro e wa ⟨⟨Bf, rfl, hE⟩, hb⟩
        have hH := hasClass_any Bf (kk + 1) (kk + 1) (ins ss i x) x wa (by omega) hE
        have bf : Below wr.heap.size wr wa := (Below.refl wr.heap.size wr).trans (hb.mono (Below.refl wr.heap.size wr).size)
        clear hE hb
        go_wp2_with fail
        refine hH.mono ?_
        clear hH
        rintro e wb ⟨rfl, hb⟩
        have D1 : Aside (Below wr.heap.size wr wb) := bf.trans (hb.mono bf.size)
        clear hb bf
        rw [M1]
        go_wp2_with fail
        refine (fund_any (some ⟨w4.heap.size, 0, none⟩) fl.length kk (fun j => fl.getD j ByteArray.empty) wb (by omega) (R2.out _ D1.out)).mono ?_
        rintro e wc ⟨⟨Bf, rfl, hE⟩, hb⟩
        have hH := hasClass_any Bf fl.length fl.length (fun j => fl.getD j ByteArray.empty) x wc (by omega) hE
        have bf : Below wr.heap.size wr wc := D1.out.trans (hb.mono D1.out.size)
        clear hE hb
        go_wp2_with fail
        refine hH.mono ?_
        clear hH
        rintro e wd ⟨rfl, hb⟩
        have D2 : Aside (Below wr.heap.size wr wd) := bf.trans (hb.mono bf.size)
        clear hb bf
        rw [M2]
        go_wp2_with fail
        refine (fund_any (some ⟨b, off, none⟩) kk c ss wd (by omega) (R3.out _ D2.out)).mono ?_
        rintro e we ⟨⟨Bf, rfl, hE⟩, hb⟩
        have hH := hasClass_any Bf kk kk ss x we (by omega) hE
        have bf : Below wr.heap.size wr we := D2.out.trans (hb.mono D2.out.size)
        clear hE hb
        go_wp2_with fail
        refine hH.mono ?_
        clear hH
        rintro e wf ⟨rfl, hb⟩
        have D3 : Aside (Below wr.heap.size wr wf) := bf.trans (hb.mono bf.size)
        clear hb bf
        rw [M3]
        clear M1 M2 M3
        go_wp2
        all_goals
          go_ret
          exact ⟨by first | rfl | simp, (b4'.out.trans (BW.out.mono b4'.out.size)).trans (D3.out.mono (Nat.le_trans b4'.out.size BW.out.size))⟩
end Go.Proofs.Qxb6618489a
