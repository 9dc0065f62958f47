/- Helpers of the law's walk. -/
import Derived.Test.Qxb6616443aDoorPlain
namespace Go.Proofs.Qxb6616443aDoor
open Go.RowKit

theorem Filled.later {w w' : World} {B : Nat} {R : Nat → RowD} {err : Nat → Value} {n : Nat} (h : Filled w B R err n) (hb : Below w.heap.size w w') : Filled w' B R err n :=
  fun i hi => ⟨(h i hi).1.later hb, (h i hi).2.later hb⟩

theorem Filled.res {w : World} {B : Nat} {R : Nat → RowD} {err : Nat → Value} {n : Nat} (h : Filled w B R err n) : Res w B 0 n (fun i => ((R i).p, (R i).t, (R i).v, err i)) (fun i => (R i).f) (fun i => (R i).s) :=
  fun i hi => ⟨(h i hi).1, (h i hi).2.ans⟩

/-- Agree of a pair. -/
theorem agree_two {B : Nat} {p t v : ByteArray} {err : Value} {f : Bool} {s : ByteArray} {p' t' v' : ByteArray} {err' : Value} {f' : Bool} {s' : ByteArray} {w : World} (hg : w.cell? ⟨0, 0, none⟩ = some hnd)
    (e1 : El w B 0 0 p t v err) (e2 : El w B 0 1 p' t' v' err') (a1 : Ans w v err f s) (a2 : Ans w v' err' f' s') :
    Calls Tryd.prog 7 #[.slice (some ⟨B, 0, none⟩) 2 2] w fun e w' => (∃ r : Bool, e = .returned (.bool r) ∧ Aside (r = true ↔ (f', s'.toList) = (f, s.toList))) ∧ Below w.heap.size w w' := by
  refine (agree_any B 0 2 2 (fun k => if k = 0 then (p, t, v, err) else (p', t', v', err')) (fun k => if k = 0 then f else f') (fun k => if k = 0 then s else s') w hg (by omega) (by omega) (Nat.le_refl _) (by omega) ?_).mono ?_
  · intro k hk
    by_cases h : k = 0
    · subst h; exact ⟨e1, a1⟩
    · obtain rfl : k = 1 := by omega
      exact ⟨e2, a2⟩
  · rintro e w' ⟨⟨r, h1, hr⟩, hb⟩
    refine ⟨⟨r, h1, (hr.trans (agree_allOne _ _ _)).trans ?_⟩, hb⟩
    rw [← allOne_pair (f, s.toList) (f', s'.toList)]
    unfold AllOne
    constructor
    · intro h k hk
      have := h k hk
      by_cases e : k = 0
      · simp [e]
      · simpa [e] using this
    · intro h k hk
      have := h k hk
      by_cases e : k = 0
      · simp [e]
      · simpa [e] using this

/-- The cells of two elements, told one by one. -/
def Two (W : World) (B1 i j : Nat) (R : Nat → RowD) (er : Nat → Value) : Prop :=
  (W.cell? ⟨B1, i * 4, none⟩ = some (.string (R i).p) ∧ W.cell? ⟨B1, i * 4 + 1, none⟩ = some (.string (R i).t) ∧ W.cell? ⟨B1, i * 4 + 2, none⟩ = some (.string (R i).v) ∧ W.cell? ⟨B1, i * 4 + 3, none⟩ = some (er i)) ∧
  (W.cell? ⟨B1, j * 4, none⟩ = some (.string (R j).p) ∧ W.cell? ⟨B1, j * 4 + 1, none⟩ = some (.string (R j).t) ∧ W.cell? ⟨B1, j * 4 + 2, none⟩ = some (.string (R j).v) ∧ W.cell? ⟨B1, j * 4 + 3, none⟩ = some (er j))

theorem drew_below {w W : World} (hb : Below w.heap.size w.drew W) : Below w.heap.size w W := ⟨hb.os, hb.tape, hb.output, hb.size, hb.block⟩

theorem Filled.four {W : World} {B1 i n : Nat} {R : Nat → RowD} {er : Nat → Value} (F : Filled W B1 R er n) (hi : i < n) :
    W.cell? ⟨B1, i * 4, none⟩ = some (.string (R i).p) ∧ W.cell? ⟨B1, i * 4 + 1, none⟩ = some (.string (R i).t) ∧ W.cell? ⟨B1, i * 4 + 2, none⟩ = some (.string (R i).v) ∧ W.cell? ⟨B1, i * 4 + 3, none⟩ = some (er i) := by
  have g1 := (F i hi).1
  unfold El at g1
  simp only [Nat.zero_add] at g1
  exact g1

theorem Filled.two {w W : World} {B1 i j n : Nat} {R : Nat → RowD} {er : Nat → Value} (F : Filled w B1 R er n) (hi : i < n) (hj : j < n) (hb : Below w.heap.size w.drew W) : Two W B1 i j R er :=
  ⟨(F.later (drew_below hb)).four hi, (F.later (drew_below hb)).four hj⟩

/-- Agree of the pair that pairOf has made. -/
theorem agree_pair {w W : World} {B B1 i j n : Nat} {R : Nat → RowD} {er : Nat → Value} (F : Filled w B1 R er n) (hi : i < n) (hj : j < n) (hg : w.cell? ⟨0, 0, none⟩ = some hnd) (hb : Below w.heap.size w.drew W)
    (e1 : El W B 0 0 (R i).p (R i).t (R i).v (er i)) (e2 : El W B 0 1 (R j).p (R j).t (R j).v (er j)) :
    Calls Tryd.prog 7 #[.slice (some ⟨B, 0, none⟩) 2 2] W fun e w' => (∃ r : Bool, e = .returned (.bool r) ∧ Aside (r = true ↔ ((R j).f, (R j).s.toList) = ((R i).f, (R i).s.toList))) ∧ Below w.heap.size w.drew w' :=
  have hb' := drew_below hb
  (agree_two ((hb'.cell (p := ⟨0, 0, none⟩) (World.block_lt_of_cell? _ _ hg)).trans hg) e1 e2 ((F i hi).2.ans.later hb') ((F j hj).2.ans.later hb')).mono fun _ _ ⟨h1, h2⟩ => ⟨h1, hb.trans (h2.mono hb.size)⟩

/-- Elements i and j exchanged by two stores. -/
theorem Filled.swap {W : World} {B i j n : Nat} {R : Nat → RowD} {er : Nat → Value} (F : Filled W B R er n) (hRB : RB W B (n * 4)) (hi : i < n) (hj : j < n) :
    Filled (set4 (set4 W B (i * 4) (.string (R j).p) (.string (R j).t) (.string (R j).v) (er j)) B (j * 4) (.string (R i).p) (.string (R i).t) (.string (R i).v) (er i)) B (fun k => R (swapped i j k)) (fun k => er (swapped i j k)) n := by
  have hRB1 : RB (set4 W B (i * 4) (.string (R j).p) (.string (R j).t) (.string (R j).v) (er j)) B (n * 4) := hRB.set4 _ _ _ _ _ (by omega)
  have hat1 := set4_at W B (i * 4) (.string (R j).p) (.string (R j).t) (.string (R j).v) (er j) (fun m hm => (hRB (i * 4 + m) (by omega)).1)
  have hat2 := set4_at (set4 W B (i * 4) (.string (R j).p) (.string (R j).t) (.string (R j).v) (er j)) B (j * 4) (.string (R i).p) (.string (R i).t) (.string (R i).v) (er i) (fun m hm => (hRB1 (j * 4 + m) (by omega)).1)
  have hel1 : El (set4 W B (i * 4) (.string (R j).p) (.string (R j).t) (.string (R j).v) (er j)) B 0 i (R j).p (R j).t (R j).v (er j) := by
    unfold El; simp only [Nat.zero_add]; exact hat1
  intro k hk
  have hans : ∀ m, m < n → AnsN (set4 (set4 W B (i * 4) (.string (R j).p) (.string (R j).t) (.string (R j).v) (er j)) B (j * 4) (.string (R i).p) (.string (R i).t) (.string (R i).v) (er i)) (B + 1) (R m).v (er m) (R m).f (R m).s := fun m hm => ((F m hm).2.set4 (by omega) _ _ _ _).set4 (by omega) _ _ _ _
  refine ⟨?_, hans _ (swapped_lt hi hj hk)⟩
  by_cases h1 : k = j
  · subst h1
    simp only [swapped, if_true]
    unfold El; simp only [Nat.zero_add]; exact hat2
  by_cases h2 : k = i
  · subst h2
    simp only [swapped, if_neg h1, if_true]
    exact hel1.set4 _ _ _ _ (by omega)
  simp only [swapped, if_neg h1, if_neg h2]
  exact ((F k hk).1.set4 _ _ _ _ (by omega)).set4 _ _ _ _ (by omega)

/-- The list with one copy more at its end. -/
theorem more_res {w wr : World} {B B1 n i : Nat} {R : Nat → RowD} {er : Nat → Value} (F : Filled w B1 R er n) (hi : i < n) (hb : Below w.heap.size w wr) (hB : w.heap.size ≤ B) (hRB : RB wr B ((n + 1) * 4))
    (hE : ∀ k, k < n → El wr B 0 k (R k).p (R k).t (R k).v (er k)) :
    Res (set4 wr B (n * 4) (.string (R i).p) (.string (R i).t) (.string (R i).v) (er i)) B 0 (n + 1)
      (fun k => if k < n then ((R k).p, (R k).t, (R k).v, er k) else ((R i).p, (R i).t, (R i).v, er i)) (fun k => if k < n then (R k).f else (R i).f) (fun k => if k < n then (R k).s else (R i).s) := by
  have hF : Filled (set4 wr B (n * 4) (.string (R i).p) (.string (R i).t) (.string (R i).v) (er i)) B1 R er n := F.later (set4_below hb hB)
  have hat := set4_at wr B (n * 4) (.string (R i).p) (.string (R i).t) (.string (R i).v) (er i) (fun m hm => (hRB (n * 4 + m) (by omega)).1)
  intro k hk
  by_cases h : k < n
  · simp only [if_pos h]
    exact ⟨(hE k h).set4 _ _ _ _ (by omega), (hF k h).2.ans⟩
  · obtain rfl : k = n := by omega
    simp only [if_neg h]
    refine ⟨?_, (hF i hi).2.ans⟩
    unfold El; simp only [Nat.zero_add]; exact hat

theorem two_blocks (w : World) (a0 a1 a2 a3 c0 c1 c2 c3 : Value) :
    Below w.heap.size w ((w.alloc (.cells #[a0, a1, a2, a3] 37)).alloc (.cells #[c0, c1, c2, c3] 37)) ∧
    (((w.alloc (.cells #[a0, a1, a2, a3] 37)).alloc (.cells #[c0, c1, c2, c3] 37)).cell? ⟨w.heap.size, 0, none⟩ = some a0 ∧ ((w.alloc (.cells #[a0, a1, a2, a3] 37)).alloc (.cells #[c0, c1, c2, c3] 37)).cell? ⟨w.heap.size, 1, none⟩ = some a1 ∧
      ((w.alloc (.cells #[a0, a1, a2, a3] 37)).alloc (.cells #[c0, c1, c2, c3] 37)).cell? ⟨w.heap.size, 2, none⟩ = some a2 ∧ ((w.alloc (.cells #[a0, a1, a2, a3] 37)).alloc (.cells #[c0, c1, c2, c3] 37)).cell? ⟨w.heap.size, 3, none⟩ = some a3) ∧
    (((w.alloc (.cells #[a0, a1, a2, a3] 37)).alloc (.cells #[c0, c1, c2, c3] 37)).cell? ⟨w.heap.size + 1, 0, none⟩ = some c0 ∧ ((w.alloc (.cells #[a0, a1, a2, a3] 37)).alloc (.cells #[c0, c1, c2, c3] 37)).cell? ⟨w.heap.size + 1, 1, none⟩ = some c1 ∧
      ((w.alloc (.cells #[a0, a1, a2, a3] 37)).alloc (.cells #[c0, c1, c2, c3] 37)).cell? ⟨w.heap.size + 1, 2, none⟩ = some c2 ∧ ((w.alloc (.cells #[a0, a1, a2, a3] 37)).alloc (.cells #[c0, c1, c2, c3] 37)).cell? ⟨w.heap.size + 1, 3, none⟩ = some c3) := by
  refine ⟨((Below.refl _ _).alloc (Nat.le_refl _) _).alloc (by simp) _, ⟨?_, ?_, ?_, ?_⟩, ⟨?_, ?_, ?_, ?_⟩⟩
  iterate 4 (rw [World.cell?_alloc_lt _ _ _ (by simp), World.cell?_alloc_at _ _ _ _ rfl]; rfl)
  iterate 4 (rw [World.cell?_alloc_at _ _ _ _ (by simp)]; rfl)

theorem RB.four {w : World} {B m o : Nat} (h : RB w B m) (ho : o + 4 ≤ m) : ∃ u0 u1 u2 u3, (w.cell? ⟨B, o, none⟩ = some u0 ∧ w.cell? ⟨B, o + 1, none⟩ = some u1 ∧ w.cell? ⟨B, o + 2, none⟩ = some u2 ∧ w.cell? ⟨B, o + 3, none⟩ = some u3) ∧
    (w.frozen? ⟨B, o, none⟩ = false ∧ w.frozen? ⟨B, o + 1, none⟩ = false ∧ w.frozen? ⟨B, o + 2, none⟩ = false ∧ w.frozen? ⟨B, o + 3, none⟩ = false) := by
  obtain ⟨⟨u0, h0⟩, f0⟩ := h o (by omega)
  obtain ⟨⟨u1, h1⟩, f1⟩ := h (o + 1) (by omega)
  obtain ⟨⟨u2, h2⟩, f2⟩ := h (o + 2) (by omega)
  obtain ⟨⟨u3, h3⟩, f3⟩ := h (o + 3) (by omega)
  exact ⟨u0, u1, u2, u3, ⟨h0, h1, h2, h3⟩, f0, f1, f2, f3⟩

theorem el_at4 {w : World} {B o i : Nat} {p t v : ByteArray} {err : Value} (h : ∀ j, j < 4 → ∃ v, w.cell? ⟨B, o + j, none⟩ = some v) (ho : o = i * 4) : El (set4 w B o (.string p) (.string t) (.string v) err) B 0 i p t v err := by
  subst ho
  unfold El; simp only [Nat.zero_add]
  exact set4_at w B (i * 4) _ _ _ _ h
end Go.Proofs.Qxb6616443aDoor
