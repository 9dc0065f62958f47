/- pairOf, resultsOf: rows of results that the call itself makes. -/
import Derived.Test.Qxb6616443aDoorRowOf
namespace Go.Proofs.Qxb6616443aDoor
open Go.RowKit

theorem Ans.one {w : World} {v : ByteArray} {err : Value} {f : Bool} {s : ByteArray} (h : Ans w v err f s) : err.oneCell' = true := by
  rcases h with ⟨rfl, _⟩ | ⟨eb, rfl | rfl, _⟩ <;> rfl

theorem Tryd.make2 (w : World) : (Instr.makeSlice 25 (.int .i64 2) (.int .i64 2)).run Tryd.prog w = .ok (.slice (some ⟨w.heap.size, 0, none⟩) 2 2)
    (w.alloc (.cells #[.string ⟨#[]⟩, .string ⟨#[]⟩, .string ⟨#[]⟩, .nilIface, .string ⟨#[]⟩, .string ⟨#[]⟩, .string ⟨#[]⟩, .nilIface] 37)) := by kernel_rfl

set_option maxHeartbeats 1000000 in
theorem pair_any (p t v : ByteArray) (err : Value) (p' t' v' : ByteArray) (err' : Value) (h1 : err.oneCell' = true) (h2 : err'.oneCell' = true) (w : World) :
    Calls Tryd.prog 9 #[.agg #[.string p, .string t, .string v, err], .agg #[.string p', .string t', .string v', err']] w fun e w' =>
      (∃ B, e = .returned (.slice (some ⟨B, 0, none⟩) 2 2) ∧ El w' B 0 0 p t v err ∧ El w' B 0 1 p' t' v' err') ∧ Below w.heap.size w w' := by
  have hst := fun a m W => run_store Tryd.prog W a err m h1
  have hst' := fun a m W => run_store Tryd.prog W a err' m h2
  have hmk := Tryd.make2
  clear h1 h2
  go_enter Tryd.func9, Tryd.ntmps9
  go_wp2
  go_ret
  refine ⟨⟨w.heap.size + 1 + 1, rfl, ⟨?_, ?_, ?_, ?_⟩, ⟨?_, ?_, ?_, ?_⟩⟩, ?_⟩
  iterate 8 (rw [World.cell?_alloc_at _ _ _ _ (by simp)]; rfl)
  exact (((Below.refl _ _).alloc (Nat.le_refl _) _).alloc (by simp) _).alloc (by simp; omega) _

/-! ### A block of results that is being filled -/
/-- m cells are there, and may be written. -/
def RB (w : World) (B m : Nat) : Prop := ∀ j, j < m → (∃ v, w.cell? ⟨B, j, none⟩ = some v) ∧ w.frozen? ⟨B, j, none⟩ = false

def set4 (w : World) (B o : Nat) (v0 v1 v2 v3 : Value) : World :=
  (((w.setCell ⟨B, o, none⟩ v0).setCell ⟨B, o + 1, none⟩ v1).setCell ⟨B, o + 2, none⟩ v2).setCell ⟨B, o + 3, none⟩ v3

theorem set1_far (w : World) (B o : Nat) (u : Value) (a : Addr) (h : a.block ≠ B ∨ a.off ≠ o) : (w.setCell ⟨B, o, none⟩ u).cell? a = w.cell? a :=
  World.cell?_setCell_other _ _ _ _ (fun e => by subst e; rcases h with h | h <;> exact h rfl)

theorem set4_far (w : World) (B o : Nat) (v0 v1 v2 v3 : Value) (a : Addr) (h : a.block ≠ B ∨ a.off < o ∨ o + 4 ≤ a.off) : (set4 w B o v0 v1 v2 v3).cell? a = w.cell? a := by
  unfold set4
  rw [set1_far _ _ _ _ _ (by omega), set1_far _ _ _ _ _ (by omega), set1_far _ _ _ _ _ (by omega), set1_far _ _ _ _ _ (by omega)]

theorem set4_at (w : World) (B o : Nat) (v0 v1 v2 v3 : Value) (h : ∀ j, j < 4 → ∃ v, w.cell? ⟨B, o + j, none⟩ = some v) :
    (set4 w B o v0 v1 v2 v3).cell? ⟨B, o, none⟩ = some v0 ∧ (set4 w B o v0 v1 v2 v3).cell? ⟨B, o + 1, none⟩ = some v1 ∧ (set4 w B o v0 v1 v2 v3).cell? ⟨B, o + 2, none⟩ = some v2 ∧ (set4 w B o v0 v1 v2 v3).cell? ⟨B, o + 3, none⟩ = some v3 := by
  obtain ⟨u0, h0⟩ := h 0 (by omega)
  obtain ⟨u1, h1⟩ := h 1 (by omega)
  obtain ⟨u2, h2⟩ := h 2 (by omega)
  obtain ⟨u3, h3⟩ := h 3 (by omega)
  rw [Nat.add_zero] at h0
  unfold set4
  refine ⟨?_, ?_, ?_, ?_⟩
  · rw [set1_far _ _ _ _ _ (by simp), set1_far _ _ _ _ _ (by simp), set1_far _ _ _ _ _ (by simp), World.cell?_setCell_same _ _ _ h0]
  · rw [set1_far _ _ _ _ _ (by simp), set1_far _ _ _ _ _ (by simp), World.cell?_setCell_same _ _ _ (by rw [set1_far _ _ _ _ _ (by simp)]; exact h1)]
  · rw [set1_far _ _ _ _ _ (by simp), World.cell?_setCell_same _ _ _ (by rw [set1_far _ _ _ _ _ (by simp), set1_far _ _ _ _ _ (by simp)]; exact h2)]
  · rw [World.cell?_setCell_same _ _ _ (by rw [set1_far _ _ _ _ _ (by simp), set1_far _ _ _ _ _ (by simp), set1_far _ _ _ _ _ (by simp)]; exact h3)]

theorem set4_frozen (w : World) (B o : Nat) (v0 v1 v2 v3 : Value) (a : Addr) : (set4 w B o v0 v1 v2 v3).frozen? a = w.frozen? a := by
  unfold set4
  rw [World.frozen?_setCell, World.frozen?_setCell, World.frozen?_setCell, World.frozen?_setCell]

theorem set4_below {W w : World} {B o : Nat} {v0 v1 v2 v3 : Value} {N : Nat} (h : Below N W w) (hB : N ≤ B) : Below N W (set4 w B o v0 v1 v2 v3) :=
  (((h.setCell (p := ⟨B, o, none⟩) hB _).setCell (p := ⟨B, o + 1, none⟩) hB _).setCell (p := ⟨B, o + 2, none⟩) hB _).setCell (p := ⟨B, o + 3, none⟩) hB _

theorem RB.set4 {w : World} {B m : Nat} (h : RB w B m) (o : Nat) (v0 v1 v2 v3 : Value) (ho : o + 4 ≤ m) : RB (set4 w B o v0 v1 v2 v3) B m := by
  intro j hj
  obtain ⟨⟨u, hu⟩, hf⟩ := h j hj
  refine ⟨?_, by rw [set4_frozen]; exact hf⟩
  have hat := set4_at w B o v0 v1 v2 v3 (fun i hi => (h (o + i) (by omega)).1)
  by_cases e0 : j = o
  · subst e0; exact ⟨_, hat.1⟩
  by_cases e1 : j = o + 1
  · subst e1; exact ⟨_, hat.2.1⟩
  by_cases e2 : j = o + 2
  · subst e2; exact ⟨_, hat.2.2.1⟩
  by_cases e3 : j = o + 3
  · subst e3; exact ⟨_, hat.2.2.2⟩
  exact ⟨u, by rw [set4_far _ _ _ _ _ _ _ _ (by simp; omega)]; exact hu⟩

theorem RB.later {w w' : World} {B m : Nat} (h : RB w B m) (hb : Below w.heap.size w w') (hB : B < w.heap.size) : RB w' B m :=
  fun j hj => ⟨by rw [hb.cell (p := ⟨B, j, none⟩) hB]; exact (h j hj).1, by rw [hb.frozen (p := ⟨B, j, none⟩) hB]; exact (h j hj).2⟩

theorem El.set4 {w : World} {B i o : Nat} {p t v : ByteArray} {err : Value} (h : El w B 0 i p t v err) (v0 v1 v2 v3 : Value) (hne : 0 + i * 4 + 4 ≤ o ∨ o + 4 ≤ 0 + i * 4) : El (set4 w B o v0 v1 v2 v3) B 0 i p t v err := by
  obtain ⟨h0, h1, h2, h3⟩ := h
  exact ⟨by rw [set4_far _ _ _ _ _ _ _ _ (by simp; omega)]; exact h0, by rw [set4_far _ _ _ _ _ _ _ _ (by simp; omega)]; exact h1, by rw [set4_far _ _ _ _ _ _ _ _ (by simp; omega)]; exact h2, by rw [set4_far _ _ _ _ _ _ _ _ (by simp; omega)]; exact h3⟩

theorem AnsN.set4 {w : World} {N B o : Nat} {v : ByteArray} {err : Value} {f : Bool} {s : ByteArray} (h : AnsN w N v err f s) (hB : B < N) (v0 v1 v2 v3 : Value) : AnsN (set4 w B o v0 v1 v2 v3) N v err f s := by
  rcases h with h | ⟨eb, h1, h2, h3, h4⟩
  · exact .inl h
  · exact .inr ⟨eb, h1, h2, by rw [set4_far _ _ _ _ _ _ _ _ (by left; show eb ≠ B; omega)]; exact h3, h4⟩

theorem AnsN.later {w w' : World} {N : Nat} {v : ByteArray} {err : Value} {f : Bool} {s : ByteArray} (h : AnsN w N v err f s) (hb : Below w.heap.size w w') : AnsN w' N v err f s := by
  rcases h with h | ⟨eb, h1, h2, hc, h4⟩
  · exact .inl h
  · exact .inr ⟨eb, h1, h2, (hb.cell (p := ⟨eb, 0, none⟩) (World.block_lt_of_cell? _ _ hc)).trans hc, h4⟩

theorem AnsN.mono {w : World} {N N' : Nat} {v : ByteArray} {err : Value} {f : Bool} {s : ByteArray} (h : AnsN w N v err f s) (hN : N' ≤ N) : AnsN w N' v err f s := by
  rcases h with h | ⟨eb, h1, h2, hc, h4⟩
  · exact .inl h
  · exact .inr ⟨eb, h1, h2, hc, by omega⟩

theorem AnsN.ans {w : World} {N : Nat} {v : ByteArray} {err : Value} {f : Bool} {s : ByteArray} (h : AnsN w N v err f s) : Ans w v err f s := by
  rcases h with h | ⟨eb, h1, h2, hc, h4⟩
  · exact .inl h
  · exact .inr ⟨eb, h1, h2, hc⟩
end Go.Proofs.Qxb6616443aDoor
