/- zzFund: a row of classes that the call itself makes. -/
import Derived.Test.Qxb6618489aClo
namespace Go.Proofs.Qxb6618489a
open Go.RowKit

/-- m cells are there, and may be written. -/
def RB (w : World) (B m : Nat) : Prop := ∀ j, j < m → (∃ v, w.cell? ⟨B, j, none⟩ = some v) ∧ w.frozen? ⟨B, j, none⟩ = false

/-- A row's cells. -/
abbrev clsL (s : ByteArray) : List Value := [.string s, .pointer none, .int .i32 0, .string ⟨#[]⟩, .pointer none, .int .i32 0, .string ⟨#[]⟩, .pointer none, .int .i32 0, .string ⟨#[]⟩, .pointer none, .int .i32 0, .string ⟨#[]⟩, .string ⟨#[]⟩]

theorem new_thawed (w : World) (c : Array Value) (t : TypeId) (a : Addr) (h : a.block = w.heap.size) : (w.alloc (.cells c t)).frozen? a = false := by
  have e1 : (w.alloc (.cells c t)).heap[a.block]? = some (.cells c t) := by rw [h]; exact (MapKept.heap_alloc w _).1
  simp [World.frozen?, e1]

theorem RB.made (w : World) (A : Array Value) (t : TypeId) (m : Nat) (h : A.size = m) : RB (w.alloc (.cells A t)) w.heap.size m := by
  intro j hj
  refine ⟨⟨A[j], ?_⟩, new_thawed _ _ _ _ rfl⟩
  rw [World.cell?_alloc_at _ _ _ _ rfl]
  exact Array.getElem?_eq_getElem _

theorem sets_size (b : Nat) : ∀ (vs : List Value) (o : Nat) (w : World), (w.setCells b o vs).heap.size = w.heap.size
  | [], _, _ => rfl
  | v :: r, o, w => by rw [World.setCells, sets_size b r]; simp [World.setCell]

theorem sets_below {W : World} {b N : Nat} (hN : N ≤ b) : ∀ (vs : List Value) (o : Nat) (w : World), Below N W w → Below N W (w.setCells b o vs)
  | [], _, _, h => h
  | v :: r, o, w, h => by rw [World.setCells]; exact sets_below hN r _ _ (h.setCell (p := ⟨b, o, none⟩) hN v)

theorem RB.sets {w : World} {B m : Nat} (h : RB w B m) (vs : List Value) (o : Nat) (ho : o + vs.length ≤ m) : RB (w.setCells B o vs) B m := by
  intro j hj
  obtain ⟨⟨u, hu⟩, hf⟩ := h j hj
  refine ⟨?_, by rw [World.frozen?_setCells]; exact hf⟩
  by_cases e : o ≤ j ∧ j < o + vs.length
  · have := World.cell?_setCells_in B vs o w (fun i hi => by obtain ⟨v, hv⟩ := (h (o + i) (by omega)).1; rw [hv]; rfl) (j - o) (by omega)
    rw [show o + (j - o) = j by omega] at this
    exact ⟨_, this⟩
  · exact ⟨u, by rw [World.cell?_setCells_out B vs o w _ (fun _ _ => by simp; omega)]; exact hu⟩

theorem RB.later {w w' : World} {B m : Nat} (h : RB w B m) (hb : Below w.heap.size w w') (hB : B < w.heap.size) : RB w' B m :=
  fun j hj => ⟨by rw [hb.cell (p := ⟨B, j, none⟩) hB]; exact (h j hj).1, by rw [hb.frozen (p := ⟨B, j, none⟩) hB]; exact (h j hj).2⟩

theorem ClsAt.at {w : World} {B m i : Nat} {s : ByteArray} (h : RB w B m) (hm : i * 14 + 14 ≤ m) : ClsAt (w.setCells B (i * 14) (clsL s)) B i s := by
  have g := World.cell?_setCells_in B (clsL s) (i * 14) w (fun j hj => by obtain ⟨v, hv⟩ := (h (i * 14 + j) (by simp at hj; omega)).1; rw [hv]; rfl)
  exact ⟨g 0 (by simp), g 1 (by simp), g 2 (by simp), g 3 (by simp), g 4 (by simp), g 5 (by simp), g 6 (by simp), g 7 (by simp), g 8 (by simp), g 9 (by simp), g 10 (by simp), g 11 (by simp), g 12 (by simp), g 13 (by simp)⟩

theorem ClsAt.far {w : World} {B i o : Nat} {s s' : ByteArray} (h : ClsAt w B i s) (ho : i * 14 + 14 ≤ o ∨ o + 14 ≤ i * 14) : ClsAt (w.setCells B o (clsL s')) B i s := by
  have g : ∀ j, j < 14 → (w.setCells B o (clsL s')).cell? ⟨B, i * 14 + j, none⟩ = w.cell? ⟨B, i * 14 + j, none⟩ := fun j hj => World.cell?_setCells_out B _ _ _ _ (fun _ _ => by simp; omega)
  exact ⟨(g 0 (by omega)).trans h.1, (g 1 (by omega)).trans h.2.1, (g 2 (by omega)).trans h.2.2.1, (g 3 (by omega)).trans h.2.2.2.1, (g 4 (by omega)).trans h.2.2.2.2.1, (g 5 (by omega)).trans h.2.2.2.2.2.1, (g 6 (by omega)).trans h.2.2.2.2.2.2.1, (g 7 (by omega)).trans h.2.2.2.2.2.2.2.1, (g 8 (by omega)).trans h.2.2.2.2.2.2.2.2.1, (g 9 (by omega)).trans h.2.2.2.2.2.2.2.2.2.1, (g 10 (by omega)).trans h.2.2.2.2.2.2.2.2.2.2.1, (g 11 (by omega)).trans h.2.2.2.2.2.2.2.2.2.2.2.1, (g 12 (by omega)).trans h.2.2.2.2.2.2.2.2.2.2.2.2.1, (g 13 (by omega)).trans h.2.2.2.2.2.2.2.2.2.2.2.2.2⟩

theorem ClsAt.other {w : World} {B b i o : Nat} {s : ByteArray} (h : ClsAt w B i s) (hb : B ≠ b) (vs : List Value) : ClsAt (w.setCells b o vs) B i s := by
  have g : ∀ j, (w.setCells b o vs).cell? ⟨B, j, none⟩ = w.cell? ⟨B, j, none⟩ := fun j => World.cell?_setCells_out b _ _ _ _ (fun e _ => absurd e hb)
  exact ⟨(g _).trans h.1, (g _).trans h.2.1, (g _).trans h.2.2.1, (g _).trans h.2.2.2.1, (g _).trans h.2.2.2.2.1, (g _).trans h.2.2.2.2.2.1, (g _).trans h.2.2.2.2.2.2.1, (g _).trans h.2.2.2.2.2.2.2.1, (g _).trans h.2.2.2.2.2.2.2.2.1, (g _).trans h.2.2.2.2.2.2.2.2.2.1, (g _).trans h.2.2.2.2.2.2.2.2.2.2.1, (g _).trans h.2.2.2.2.2.2.2.2.2.2.2.1, (g _).trans h.2.2.2.2.2.2.2.2.2.2.2.2.1, (g _).trans h.2.2.2.2.2.2.2.2.2.2.2.2.2⟩

theorem Try.info48 : (Try.prog.info? 48).map (fun i => (i.zero, i.size, i.bytes)) = some (some (cls ⟨#[]⟩), 14, 160) := by kernel_rfl

/-- make([]Class, n). -/
theorem make_any (n : Nat) (hn : n ≤ 1000000) : ∃ A : Array Value, A.size = n * 14 ∧ ∀ w : World, (Instr.makeSlice 28 (.int .i64 (n : Int)) (.int .i64 (n : Int))).run Try.prog w = .ok (.slice (some ⟨w.heap.size, 0, none⟩) n n) (w.alloc (.cells A 48)) := by
  obtain ⟨i, hi, hz0, hz1, hz2⟩ := info_parts Try.info48
  refine ⟨madeCells (Value.cells (cls ⟨#[]⟩)) (n * 14), size_madeCells _ _, fun w => ?_⟩
  have := run_make (P := Try.prog) w 28 48 i _ Try.underlying28 hi hz0 .i64 .i64 (n : Int) (n : Int) (by omega) (Int.le_refl _) (by rw [hz2]; omega) (by omega)
  rw [this]
  simp only [Int.toNat_natCast, hz1]

/-- The names that lie behind a slice of strings. -/
def StrsAt (w : World) (ao : Option Addr) (n : Nat) (ss : Nat → ByteArray) : Prop := n = 0 ∨ ∃ b off, ao = some ⟨b, off, none⟩ ∧ ∀ i, i < n → w.cell? ⟨b, off + i, none⟩ = some (.string (ss i))

/-- The fund's own cells. -/
abbrev fundA : Array Value := #[.string ⟨#[]⟩, .string ⟨#[]⟩, .int .i32 0, .int .i64 0, .int .i64 0, .int .i64 0, .slice none 0 0, .slice none 0 0, .string ⟨#[]⟩, .string ⟨#[]⟩, .string ⟨#[]⟩, .int .i64 0, .slice none 0 0]

set_option maxRecDepth 100000 in
set_option maxHeartbeats 2000000 in
theorem fund_some (b off n c : Nat) (ss : Nat → ByteArray) (w : World) (hn : n ≤ 1000000) (hR : ∀ i, i < n → w.cell? ⟨b, off + i, none⟩ = some (.string (ss i))) (hbk : b < w.heap.size) :
    Calls Try.prog 8 #[.slice (some ⟨b, off, none⟩) n c] w fun e w' =>
      (∃ B, e = .returned (fund (.slice (some ⟨B, 0, none⟩) n n)) ∧ ∀ i, i < n → ClsAt w' B i (ss i)) ∧ Below w.heap.size w w' := by
  obtain ⟨A, hA, hmk⟩ := make_any n hn
  have hb1 : Aside (Below w.heap.size w (w.alloc (.cells fundA 35))) := (Below.refl _ _).alloc (Nat.le_refl _) _
  have hRB : RB ((w.alloc (.cells fundA 35)).alloc (.cells A 48)) (w.heap.size + 1) (n * 14) := by have := RB.made (w.alloc (.cells fundA 35)) A 48 (n * 14) hA; simpa using this
  have hb2 : Below (w.heap.size + 1) (w.alloc (.cells fundA 35)) ((w.alloc (.cells fundA 35)).alloc (.cells A 48)) := (Below.refl _ _).alloc (by simp) _
  have hz2 : w.heap.size + 1 < ((w.alloc (.cells fundA 35)).alloc (.cells A 48)).heap.size := by simp
  have HR : Aside (∀ i, i < n → w.cell? ⟨b, off + i, none⟩ = some (.string (ss i))) := hR
  clear hR
  go_enter Try.func8, Try.ntmps8
  go_wp2
  go_loopg [4] n (fun gg s4 wr => ∃ kk : Nat, kk ≤ n ∧ n - kk ≤ gg ∧ s4 = .int .i64 kk ∧ Aside (Below (w.heap.size + 1) (w.alloc (.cells fundA 35)) wr) ∧ Aside (w.heap.size + 1 < wr.heap.size) ∧ Aside (RB wr (w.heap.size + 1) (n * 14)) ∧ Aside (∀ i, i < kk → ClsAt wr (w.heap.size + 1) i (ss i)))
  case atStart => exact ⟨0, Nat.zero_le _, by omega, rfl, hb2, hz2, hRB, fun j hj => absurd hj (Nat.not_lt_zero _)⟩
  case round =>
    obtain ⟨kk, hkk, hg, rfl, BW, SZ, RBk, EL⟩ := hrel
    clear hmk hRB hb2 hz2
    by_cases hlt : kk < n
    · have hltz : (kk : Int) < (n : Int) := by omega
      have l0 : wr.cell? ⟨b, off + kk, none⟩ = some (.string (ss kk)) := by
        rw [BW.out.cell (p := ⟨b, off + kk, none⟩) (by show b < w.heap.size + 1; omega), hb1.out.cell (p := ⟨b, off + kk, none⟩) hbk]; exact HR.out kk hlt
      obtain ⟨⟨o0, q0⟩, f0⟩ := RBk.out (kk * 14) (by omega)
      obtain ⟨⟨o1, q1⟩, f1⟩ := RBk.out (kk * 14 + 1) (by omega)
      obtain ⟨⟨o2, q2⟩, f2⟩ := RBk.out (kk * 14 + 2) (by omega)
      obtain ⟨⟨o3, q3⟩, f3⟩ := RBk.out (kk * 14 + 3) (by omega)
      obtain ⟨⟨o4, q4⟩, f4⟩ := RBk.out (kk * 14 + 4) (by omega)
      obtain ⟨⟨o5, q5⟩, f5⟩ := RBk.out (kk * 14 + 5) (by omega)
      obtain ⟨⟨o6, q6⟩, f6⟩ := RBk.out (kk * 14 + 6) (by omega)
      obtain ⟨⟨o7, q7⟩, f7⟩ := RBk.out (kk * 14 + 7) (by omega)
      obtain ⟨⟨o8, q8⟩, f8⟩ := RBk.out (kk * 14 + 8) (by omega)
      obtain ⟨⟨o9, q9⟩, f9⟩ := RBk.out (kk * 14 + 9) (by omega)
      obtain ⟨⟨o10, q10⟩, f10⟩ := RBk.out (kk * 14 + 10) (by omega)
      obtain ⟨⟨o11, q11⟩, f11⟩ := RBk.out (kk * 14 + 11) (by omega)
      obtain ⟨⟨o12, q12⟩, f12⟩ := RBk.out (kk * 14 + 12) (by omega)
      obtain ⟨⟨o13, q13⟩, f13⟩ := RBk.out (kk * 14 + 13) (by omega)
      go_wp2
      go_roundg (n - (kk + 1))
      case measure => omega
      case rel =>
        have hz := SZ.out
        refine ⟨kk + 1, by omega, by omega, by go_num, ?_, ?_, ?_, ?_⟩
        · exact sets_below (Nat.le_refl _) (clsL (ss kk)) (kk * 14) wr BW.out
        · show w.heap.size + 1 < (wr.setCells (w.heap.size + 1) (kk * 14) (clsL (ss kk))).heap.size
          rw [sets_size]; exact hz
        · exact RBk.out.sets (clsL (ss kk)) (kk * 14) (by simp; omega)
        · intro i hi
          show ClsAt (wr.setCells (w.heap.size + 1) (kk * 14) (clsL (ss kk))) (w.heap.size + 1) i (ss i)
          by_cases e : i = kk
          · subst e
            exact ClsAt.at RBk.out (by omega)
          · exact (EL.out i (by omega)).far (by omega)
    · have hltz : ¬ (kk : Int) < (n : Int) := by omega
      have : kk = n := by omega
      subst this
      have gc := fun j => (BW.out.cell (p := ⟨w.heap.size, j, none⟩) (by show w.heap.size < w.heap.size + 1; omega)).trans (World.cell?_alloc_at _ _ _ j rfl)
      have gf := fun j => (BW.out.frozen (p := ⟨w.heap.size, j, none⟩) (by show w.heap.size < w.heap.size + 1; omega)).trans (new_thawed _ _ _ _ rfl)
      have g0 := gc 0
      have g1 := gc 1
      have g2 := gc 2
      have g3 := gc 3
      have g4 := gc 4
      have g5 := gc 5
      have g6 := gc 6
      have g7 := gc 7
      have g8 := gc 8
      have g9 := gc 9
      have g10 := gc 10
      have g11 := gc 11
      have g12 := gc 12
      simp only [List.getElem?_toArray, List.getElem?_cons_zero, List.getElem?_cons_succ] at g0 g1 g2 g3 g4 g5 g6 g7 g8 g9 g10 g11 g12
      clear gc
      go_wp2
      refine bodyPost_ret (v := fund (.slice (some ⟨w.heap.size + 1, 0, none⟩) kk kk)) ?_ rfl ⟨⟨w.heap.size + 1, rfl, ?_⟩, ?_⟩
      · simp [results, Try.results8, go_sem, g0, g1, g2, g3, g4, g5, g6, g7, g8, g9, g10, g11, g12]
      · intro i hi
        exact (EL.out i hi).other (b := w.heap.size) (o := 0) (by omega) [.string ⟨#[]⟩, .string ⟨#[]⟩, .int .i32 0, .int .i64 0, .int .i64 0, .int .i64 0, .slice (some ⟨w.heap.size + 1, 0, none⟩) kk kk, .slice none 0 0, .string ⟨#[]⟩, .string ⟨#[]⟩, .string ⟨#[]⟩, .int .i64 0, .slice none 0 0]
      · exact sets_below (b := w.heap.size) (Nat.le_refl _) [.string ⟨#[]⟩, .string ⟨#[]⟩, .int .i32 0, .int .i64 0, .int .i64 0, .int .i64 0, .slice (some ⟨w.heap.size + 1, 0, none⟩) kk kk, .slice none 0 0, .string ⟨#[]⟩, .string ⟨#[]⟩, .string ⟨#[]⟩, .int .i64 0, .slice none 0 0] 0 wr (hb1.out.trans (BW.out.mono (by omega)))

set_option maxRecDepth 100000 in
set_option maxHeartbeats 1000000 in
theorem fund_none (ao : Option Addr) (c : Nat) (ss : Nat → ByteArray) (w : World) :
    Calls Try.prog 8 #[.slice ao 0 c] w fun e w' =>
      (∃ B, e = .returned (fund (.slice (some ⟨B, 0, none⟩) 0 0)) ∧ ∀ i, i < 0 → ClsAt w' B i (ss i)) ∧ Below w.heap.size w w' := by
  obtain ⟨A, hA, hmk0⟩ := make_any 0 (by omega)
  have hmk : ∀ w : World, (Instr.makeSlice 28 (.int .i64 0) (.int .i64 0)).run Try.prog w = .ok (.slice (some ⟨w.heap.size, 0, none⟩) 0 0) (w.alloc (.cells A 48)) := hmk0
  clear hmk0
  go_enter Try.func8, Try.ntmps8
  go_wp2
  refine wp_loop_rounds 1 ?_
  rw [rounds_succ]
  go_wp2
  refine bodyPost_ret (v := fund (.slice (some ⟨w.heap.size + 1, 0, none⟩) 0 0)) ?_ rfl ⟨⟨w.heap.size + 1, rfl, fun i hi => absurd hi (Nat.not_lt_zero _)⟩, ?_⟩
  · simp [results, Try.results8, go_sem]
  · exact ((Below.refl _ _).alloc (Nat.le_refl _) _).alloc (by simp) _

/-- zzFund, at every slice of strings. -/
theorem fund_any (ao : Option Addr) (n c : Nat) (ss : Nat → ByteArray) (w : World) (hn : n ≤ 1000000) (h : StrsAt w ao n ss) :
    Calls Try.prog 8 #[.slice ao n c] w fun e w' =>
      (∃ B, e = .returned (fund (.slice (some ⟨B, 0, none⟩) n n)) ∧ ∀ i, i < n → ClsAt w' B i (ss i)) ∧ Below w.heap.size w w' := by
  by_cases h0 : n = 0
  · subst h0; exact fund_none ao c ss w
  rcases h with h | ⟨b, off, rfl, hc⟩
  · exact absurd h h0
  · exact fund_some b off n c ss w hn hc (World.block_lt_of_cell? _ _ (hc 0 (by omega)))
end Go.Proofs.Qxb6618489a
