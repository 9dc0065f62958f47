/- resultsOf. -/
import Derived.Test.Qxb6616443aDoorRows2
namespace Go.Proofs.Qxb6616443aDoor
open Go.RowKit

/-- A row's six cells at element i of the row that begins at ⟨b, off⟩. -/
def RowAt (w : World) (b off i : Nat) (r : RowD) : Prop :=
  w.cell? ⟨b, off + i * 6, none⟩ = some (.string r.p) ∧ w.cell? ⟨b, off + i * 6 + 1, none⟩ = some (.string r.t) ∧ w.cell? ⟨b, off + i * 6 + 2, none⟩ = some (.string r.v) ∧
  w.cell? ⟨b, off + i * 6 + 3, none⟩ = some (.int .u8 r.k) ∧ w.cell? ⟨b, off + i * 6 + 4, none⟩ = some (.string r.c) ∧ w.cell? ⟨b, off + i * 6 + 5, none⟩ = some (.string r.d)

theorem RowAt.later {w w' : World} {b off i : Nat} {r : RowD} (h : RowAt w b off i r) (hb : Below w.heap.size w w') : RowAt w' b off i r := by
  have hlt : b < w.heap.size := World.block_lt_of_cell? _ _ h.1
  exact ⟨(hb.cell (p := ⟨b, _, none⟩) hlt).trans h.1, (hb.cell (p := ⟨b, _, none⟩) hlt).trans h.2.1, (hb.cell (p := ⟨b, _, none⟩) hlt).trans h.2.2.1, (hb.cell (p := ⟨b, _, none⟩) hlt).trans h.2.2.2.1, (hb.cell (p := ⟨b, _, none⟩) hlt).trans h.2.2.2.2.1, (hb.cell (p := ⟨b, _, none⟩) hlt).trans h.2.2.2.2.2⟩

theorem Tryd.info37 : (Tryd.prog.info? 37).map (fun i => (i.zero, i.size, i.bytes)) = some (some (.agg #[.string ⟨#[]⟩, .string ⟨#[]⟩, .string ⟨#[]⟩, .nilIface]), 4, 64) := by kernel_rfl

/-- make([]ProfileResult, n). -/
theorem make_any (n : Nat) (hn : n ≤ 1000000) : ∃ A : Array Value, A.size = n * 4 ∧ ∀ w : World, (Instr.makeSlice 25 (.int .i64 (n : Int)) (.int .i64 (n : Int))).run Tryd.prog w = .ok (.slice (some ⟨w.heap.size, 0, none⟩) n n) (w.alloc (.cells A 37)) := by
  obtain ⟨i, hi, hz0, hz1, hz2⟩ := info_parts Tryd.info37
  refine ⟨madeCells (Value.cells (.agg #[.string ⟨#[]⟩, .string ⟨#[]⟩, .string ⟨#[]⟩, .nilIface])) (n * 4), size_madeCells _ _, fun w => ?_⟩
  · have := run_make (P := Tryd.prog) w 25 37 i _ Tryd.underlying25 hi hz0 .i64 .i64 (n : Int) (n : Int) (by omega) (Int.le_refl _) (by rw [hz2]; omega) (by omega)
    rw [this]
    simp only [Int.toNat_natCast, hz1]

theorem RB.made (w : World) (A : Array Value) (m : Nat) (h : A.size = m) : RB (w.alloc (.cells A 37)) w.heap.size m := by
  intro j hj
  refine ⟨⟨A[j], ?_⟩, new_thawed _ _ _ _ rfl⟩
  rw [World.cell?_alloc_at _ _ _ _ rfl]
  exact Array.getElem?_eq_getElem _

/-- The results of the first k rows lie in block B of wr. -/
def Filled (wr : World) (B : Nat) (R : Nat → RowD) (err : Nat → Value) (k : Nat) : Prop :=
  ∀ i, i < k → El wr B 0 i (R i).p (R i).t (R i).v (err i) ∧ AnsN wr (B + 1) (R i).v (err i) (R i).f (R i).s

theorem Filled.step {wr w' : World} {B m kk : Nat} {R : Nat → RowD} {err : Nat → Value} {e : Value} (FL : Filled wr B R err kk) (hb : Below wr.heap.size wr w') (hB : B < wr.heap.size) (hRB : RB w' B m) (hm : kk * 4 + 4 ≤ m)
    (hans : AnsN w' wr.heap.size (R kk).v e (R kk).f (R kk).s) :
    Filled (set4 w' B (kk * 4) (.string (R kk).p) (.string (R kk).t) (.string (R kk).v) e) B R (fun i => if i = kk then e else err i) (kk + 1) := by
  intro i hi
  by_cases h : i = kk
  · subst h
    simp only [if_true]
    have hat := set4_at w' B (i * 4) (.string (R i).p) (.string (R i).t) (.string (R i).v) e (fun j hj => (hRB (i * 4 + j) (by omega)).1)
    refine ⟨?_, (hans.mono (by omega)).set4 (by omega) _ _ _ _⟩
    unfold El
    simp only [Nat.zero_add]
    exact hat
  · obtain ⟨h1, h2⟩ := FL i (by omega)
    simp only [if_neg h]
    exact ⟨(h1.later hb).set4 _ _ _ _ (by omega), (h2.later hb).set4 (by omega) _ _ _ _⟩

set_option maxHeartbeats 2000000 in
theorem resultsOf_any (b off n c : Nat) (R : Nat → RowD) (w : World) (hn1 : 1 ≤ n) (hn : n ≤ 1000000) (hR : ∀ i, i < n → RowAt w b off i (R i)) :
    Calls Tryd.prog 6 #[.slice (some ⟨b, off, none⟩) n c] w fun e w' =>
      (∃ B, e = .returned (.slice (some ⟨B, 0, none⟩) n n) ∧ w.heap.size ≤ B ∧ B < w'.heap.size ∧ RB w' B (n * 4) ∧ ∃ err, Filled w' B R err n) ∧ Below w.heap.size w w' := by
  obtain ⟨A, hA, hmk⟩ := make_any n hn
  have hRB := RB.made w A (n * 4) hA
  have hb0 : Below w.heap.size w (w.alloc (.cells A 37)) := (Below.refl _ _).alloc (Nat.le_refl _) _
  have hbk : b < w.heap.size := World.block_lt_of_cell? _ _ (hR 0 (by omega)).1
  go_enter Tryd.func6, Tryd.ntmps6
  go_wp2
  go_loopg [4] n (fun gg s4 wr => ∃ kk : Nat, kk ≤ n ∧ n - kk ≤ gg ∧ s4 = .int .i64 kk ∧ Aside (Below w.heap.size w wr) ∧ Aside (w.heap.size < wr.heap.size) ∧ Aside (RB wr w.heap.size (n * 4)) ∧ Aside (∃ err, Filled wr w.heap.size R err kk))
  case atStart => exact ⟨0, Nat.zero_le _, by omega, rfl, hb0, by simp [Aside], hRB, ⟨fun _ => .nilIface, fun j hj => absurd hj (Nat.not_lt_zero _)⟩⟩
  case round =>
    obtain ⟨kk, hkk, hg, rfl, BW, SZ, RBk, FL⟩ := hrel
    by_cases hlt : kk < n
    · have hltz : (kk : Int) < (n : Int) := by omega
      obtain ⟨l0, l1, l2, l3, l4, l5⟩ := (hR kk hlt).later (BW.out.mono (Nat.le_refl _))
      have hcall := resultOf_any (R kk) wr
      clear hR hmk hRB hb0
      go_wp2_with fail
      refine hcall.mono ?_
      rintro e w' ⟨⟨err, rfl, hans⟩, hb⟩
      have RBw := RBk.out.later hb SZ.out
      obtain ⟨⟨o0, q0⟩, f0⟩ := RBw (kk * 4) (by omega)
      obtain ⟨⟨o1, q1⟩, f1⟩ := RBw (kk * 4 + 1) (by omega)
      obtain ⟨⟨o2, q2⟩, f2⟩ := RBw (kk * 4 + 2) (by omega)
      obtain ⟨⟨o3, q3⟩, f3⟩ := RBw (kk * 4 + 3) (by omega)
      have hst := fun a m W => run_store Tryd.prog W a err m hans.ans.one
      have HB : Aside (RB w' w.heap.size (n * 4)) := RBw
      have HN : Aside (AnsN w' wr.heap.size (R kk).v err (R kk).f (R kk).s) := hans
      have HW : Aside (Below wr.heap.size wr w') := hb
      clear hcall RBw hans hb l0 l1 l2 l3 l4 l5
      go_wp2
      go_roundg (n - (kk + 1))
      case measure => omega
      case rel =>
        obtain ⟨er, hfl⟩ := FL.out
        have hb := HW.out
        have hz := SZ.out
        refine ⟨kk + 1, by omega, by omega, by go_num, ?_, ?_, ?_, ?_⟩
        · exact set4_below (BW.out.trans (hb.mono BW.out.size)) (Nat.le_refl _)
        · show w.heap.size < (set4 w' w.heap.size (kk * 4) _ _ _ _).heap.size
          have := hb.size
          simp [set4, World.setCell]
          omega
        · exact HB.out.set4 (kk * 4) _ _ _ _ (by omega)
        · exact ⟨_, Filled.step hfl hb hz HB.out (by omega) HN.out⟩
    · have hltz : ¬ (kk : Int) < (n : Int) := by omega
      have : kk = n := by omega
      subst this
      clear hR hmk hRB hb0
      go_wp2
      go_ret
      obtain ⟨er, hfl⟩ := FL.out
      exact ⟨⟨w.heap.size, rfl, Nat.le_refl _, SZ.out, RBk.out, er, hfl⟩, BW.out⟩
end Go.Proofs.Qxb6616443aDoor
