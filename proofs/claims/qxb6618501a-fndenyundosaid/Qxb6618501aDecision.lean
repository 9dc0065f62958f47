/- zzDecision: the decision as the law builds it. -/
import Derived.Test.Qxb6618501aDeny
import Derived.Deep.RegionHeld3
namespace Go.Proofs.Qxb6618501a
open Go.RowKit

/-- Rule result i of block B. -/
def RuleAt (w : World) (B i : Nat) (s f : ByteArray) : Prop :=
  w.cell? ⟨B, i * 3, none⟩ = some (.string s) ∧ w.cell? ⟨B, i * 3 + 1, none⟩ = some (.bool f.toList.isEmpty) ∧ w.cell? ⟨B, i * 3 + 2, none⟩ = some (.string f)

theorem RuleAt.later {w w' : World} {B i : Nat} {s f : ByteArray} (h : RuleAt w B i s f) (hb : Below w.heap.size w w') : RuleAt w' B i s f := by
  have hlt : B < w.heap.size := World.block_lt_of_cell? _ _ h.1
  exact ⟨(hb.cell (p := ⟨B, _, none⟩) hlt).trans h.1, (hb.cell (p := ⟨B, _, none⟩) hlt).trans h.2.1, (hb.cell (p := ⟨B, _, none⟩) hlt).trans h.2.2⟩

/-- A rule result's cells. -/
abbrev ruleL (s f : ByteArray) : List Value := [.string s, .bool f.toList.isEmpty, .string f]

theorem RuleAt.at {w : World} {B m i : Nat} {s f : ByteArray} (h : RB w B m) (hm : i * 3 + 3 ≤ m) : RuleAt (w.setCells B (i * 3) (ruleL s f)) B i s f := by
  have g := World.cell?_setCells_in B (ruleL s f) (i * 3) w (fun j hj => by obtain ⟨v, hv⟩ := (h (i * 3 + j) (by simp at hj; omega)).1; rw [hv]; rfl)
  exact ⟨g 0 (by simp), g 1 (by simp), g 2 (by simp)⟩

theorem RuleAt.far {w : World} {B i o : Nat} {s f s' f' : ByteArray} (h : RuleAt w B i s f) (ho : i * 3 + 3 ≤ o ∨ o + 3 ≤ i * 3) : RuleAt (w.setCells B o (ruleL s' f')) B i s f := by
  have g : ∀ j, j < 3 → (w.setCells B o (ruleL s' f')).cell? ⟨B, i * 3 + j, none⟩ = w.cell? ⟨B, i * 3 + j, none⟩ := fun j hj => World.cell?_setCells_out B _ _ _ _ (fun _ _ => by simp; omega)
  exact ⟨(g 0 (by omega)).trans h.1, (g 1 (by omega)).trans h.2.1, (g 2 (by omega)).trans h.2.2⟩

theorem RuleAt.other {w : World} {B b i o : Nat} {s f : ByteArray} (h : RuleAt w B i s f) (hb : B ≠ b) (vs : List Value) : RuleAt (w.setCells b o vs) B i s f := by
  have g : ∀ j, (w.setCells b o vs).cell? ⟨B, j, none⟩ = w.cell? ⟨B, j, none⟩ := fun j => World.cell?_setCells_out b _ _ _ _ (fun e _ => absurd e hb)
  exact ⟨(g _).trans h.1, (g _).trans h.2.1, (g _).trans h.2.2⟩

theorem RuleAt.drewN {w : World} {B i : Nat} {s f : ByteArray} (h : RuleAt w B i s f) (n : Nat) : RuleAt (w.drewN n) B i s f := h

theorem Try.info42 : (Try.prog.info? 42).map (fun i => (i.zero, i.size, i.bytes)) = some (some (.agg #[.string ⟨#[]⟩, .bool false, .string ⟨#[]⟩]), 3, 40) := by kernel_rfl

/-- make([]RuleResult, n). -/
theorem make_any (n : Nat) (hn : n ≤ 1048576) : ∃ A : Array Value, A.size = n * 3 ∧ ∀ w : World, (Instr.makeSlice 30 (.int .i64 (n : Int)) (.int .i64 (n : Int))).run Try.prog w = .ok (.slice (some ⟨w.heap.size, 0, none⟩) n n) (w.alloc (.cells A 42)) := by
  obtain ⟨i, hi, hz0, hz1, hz2⟩ := info_parts Try.info42
  refine ⟨madeCells (Value.cells (.agg #[.string ⟨#[]⟩, .bool false, .string ⟨#[]⟩])) (n * 3), size_madeCells _ _, fun w => ?_⟩
  have := run_make (P := Try.prog) w 30 42 i _ Try.underlying30 hi hz0 .i64 .i64 (n : Int) (n : Int) (by omega) (Int.le_refl _) (by rw [hz2]; omega) (by omega)
  rw [this]
  simp only [Int.toNat_natCast, hz1]

/-- The zero decision's cells. -/
abbrev zeroA : Array Value := decA false ⟨#[]⟩ ⟨#[]⟩ ⟨#[]⟩ (.slice none 0 0) (.slice none 0 0) (.slice none 0 0)

set_option maxHeartbeats 1000000 in
theorem decision_nil (al : Bool) (r d k : ByteArray) (prA mtA : Option Addr) (prn prc mtn mtc : Nat) (ao : Option Addr) (c : Nat) (w : World) :
    Calls Try.prog 9 #[.bool al, .string r, .string d, .string k, .slice prA prn prc, .slice mtA mtn mtc, .slice none 0 0, .slice ao 0 c] w fun e w' => e = .returned (dec al r d k (.slice prA prn prc) (.slice mtA mtn mtc) (.slice none 0 0)) ∧ Below w.heap.size w w' := by
  have hq := fun W => run_neq_slice_nil_any (P := Try.prog) W 22 9 none 0 0 0 0 Try.underlying22
  simp only [Option.isNone_none, Bool.not_true] at hq
  go_enter Try.func9, Try.ntmps9
  go_wp2
  refine bodyPost_ret (v := dec al r d k (.slice prA prn prc) (.slice mtA mtn mtc) (.slice none 0 0)) ?_ rfl ⟨rfl, ?_⟩
  · simp [results, Try.results9, go_sem]
  · exact (Below.refl _ _).alloc (Nat.le_refl _) _

set_option maxRecDepth 100000 in
set_option maxHeartbeats 4000000 in
theorem decision_some (al : Bool) (r d k : ByteArray) (prA mtA : Option Addr) (prn prc mtn mtc : Nat) (b6 o6 n c6 b7 o7 c7 : Nat) (s6 s7 : Nat → ByteArray) (w : World) (hn : n ≤ 1048576) (h6b : b6 < w.heap.size) (h7b : b7 < w.heap.size)
    (h6 : ∀ i, i < n → w.cell? ⟨b6, o6 + i, none⟩ = some (.string (s6 i))) (h7 : ∀ i, i < n → w.cell? ⟨b7, o7 + i, none⟩ = some (.string (s7 i))) :
    Calls Try.prog 9 #[.bool al, .string r, .string d, .string k, .slice prA prn prc, .slice mtA mtn mtc, .slice (some ⟨b6, o6, none⟩) n c6, .slice (some ⟨b7, o7, none⟩) n c7] w fun e w' =>
      (∃ B, e = .returned (dec al r d k (.slice prA prn prc) (.slice mtA mtn mtc) (.slice (some ⟨B, 0, none⟩) n n)) ∧ ∀ i, i < n → RuleAt w' B i (s6 i) (s7 i)) ∧ Below w.heap.size w w' := by
  have hq := fun W => run_neq_slice_nil_any (P := Try.prog) W 22 9 (some ⟨b6, o6, none⟩) n c6 0 0 Try.underlying22
  simp only [Option.isNone_some, Bool.not_false] at hq
  obtain ⟨A, hA, hmk⟩ := make_any n hn
  have hb1 : Aside (Below w.heap.size w (w.alloc (.cells zeroA 32))) := (Below.refl _ _).alloc (Nat.le_refl _) _
  have hRB : RB ((w.alloc (.cells zeroA 32)).alloc (.cells A 42)) (w.heap.size + 1) (n * 3) := by have := RB.made (w.alloc (.cells zeroA 32)) A 42 (n * 3) hA; simpa using this
  have hb2 : Below (w.heap.size + 1) (w.alloc (.cells zeroA 32)) ((w.alloc (.cells zeroA 32)).alloc (.cells A 42)) := (Below.refl _ _).alloc (by simp) _
  have hz2 : w.heap.size + 1 < ((w.alloc (.cells zeroA 32)).alloc (.cells A 42)).heap.size := by simp
  have H6 : Aside (∀ i, i < n → w.cell? ⟨b6, o6 + i, none⟩ = some (.string (s6 i))) := h6
  have H7 : Aside (∀ i, i < n → w.cell? ⟨b7, o7 + i, none⟩ = some (.string (s7 i))) := h7
  clear h6 h7
  go_enter Try.func9, Try.ntmps9
  go_wp2
  go_loopg [18] n (fun gg s18 wr => ∃ kk : Nat, kk ≤ n ∧ n - kk ≤ gg ∧ s18 = .int .i64 kk ∧ Aside (Below (w.heap.size + 1) (w.alloc (.cells zeroA 32)) wr) ∧ Aside (w.heap.size + 1 < wr.heap.size) ∧ Aside (RB wr (w.heap.size + 1) (n * 3)) ∧ Aside (∀ i, i < kk → RuleAt wr (w.heap.size + 1) i (s6 i) (s7 i)))
  case atStart => exact ⟨0, Nat.zero_le _, by omega, rfl, hb2, hz2, hRB, fun j hj => absurd hj (Nat.not_lt_zero _)⟩
  case round =>
    obtain ⟨kk, hkk, hg, rfl, BW, SZ, RBk, EL⟩ := hrel
    clear hmk hRB hb2 hz2 hq
    by_cases hlt : kk < n
    · have hltz : (kk : Int) < (n : Int) := by omega
      have hltz0 : (0 : Int) ≤ (kk : Int) := by omega
      have l6 : wr.cell? ⟨b6, o6 + kk, none⟩ = some (.string (s6 kk)) := by
        rw [BW.out.cell (p := ⟨b6, o6 + kk, none⟩) (by show b6 < w.heap.size + 1; omega), hb1.out.cell (p := ⟨b6, o6 + kk, none⟩) h6b]; exact H6.out kk hlt
      have l7 : wr.cell? ⟨b7, o7 + kk, none⟩ = some (.string (s7 kk)) := by
        rw [BW.out.cell (p := ⟨b7, o7 + kk, none⟩) (by show b7 < w.heap.size + 1; omega), hb1.out.cell (p := ⟨b7, o7 + kk, none⟩) h7b]; exact H7.out kk hlt
      obtain ⟨⟨u0, q0⟩, f0⟩ := RBk.out (kk * 3) (by omega)
      obtain ⟨⟨u1, q1⟩, f1⟩ := RBk.out (kk * 3 + 1) (by omega)
      obtain ⟨⟨u2, q2⟩, f2⟩ := RBk.out (kk * 3 + 2) (by omega)
      have ne6 : ¬ b6 = w.heap.size + 1 := by omega
      have ne7 : ¬ b7 = w.heap.size + 1 := by omega
      have K6 := (World.cell?_setCells_out (w.heap.size + 1) (ruleL (s6 kk) (s7 kk)) (kk * 3) wr ⟨b6, o6 + kk, none⟩ (fun e _ => absurd e ne6)).trans l6
      have K7 := (World.cell?_setCells_out (w.heap.size + 1) (ruleL (s6 kk) (s7 kk)) (kk * 3) wr ⟨b7, o7 + kk, none⟩ (fun e _ => absurd e ne7)).trans l7
      have HK : Aside ((((wr.setCell ⟨w.heap.size + 1, kk * 3, none⟩ (.string (s6 kk))).setCell ⟨w.heap.size + 1, kk * 3 + 1, none⟩ (.bool (s7 kk).toList.isEmpty)).setCell ⟨w.heap.size + 1, kk * 3 + 2, none⟩ (.string (s7 kk))).drew.cell? ⟨b6, o6 + kk, none⟩ = some (.string (s6 kk)) ∧ (((wr.setCell ⟨w.heap.size + 1, kk * 3, none⟩ (.string (s6 kk))).setCell ⟨w.heap.size + 1, kk * 3 + 1, none⟩ (.bool (s7 kk).toList.isEmpty)).setCell ⟨w.heap.size + 1, kk * 3 + 2, none⟩ (.string (s7 kk))).drew.cell? ⟨b7, o7 + kk, none⟩ = some (.string (s7 kk))) := ⟨K6, K7⟩
      clear K6 K7 ne6 ne7
      go_wp2
      go_region_held3 (fun W => W.cell? ⟨b6, o6 + kk, none⟩ = some (.string (s6 kk)) ∧ W.cell? ⟨b7, o7 + kk, none⟩ = some (.string (s7 kk))) (first | exact HK.out | go_keep) (fail)
      go_wp2
      go_roundg (n - (kk + 1))
      case measure => omega
      case rel =>
        have hz := SZ.out
        refine ⟨kk + 1, by omega, by omega, by go_num, ?_, ?_, ?_, ?_⟩
        · exact (sets_below (Nat.le_refl _) (ruleL (s6 kk) (s7 kk)) (kk * 3) wr BW.out).drew
        · show w.heap.size + 1 < (wr.setCells (w.heap.size + 1) (kk * 3) (ruleL (s6 kk) (s7 kk))).heap.size
          rw [sets_size]; exact hz
        · exact RBk.out.sets (ruleL (s6 kk) (s7 kk)) (kk * 3) (by simp; omega)
        · intro i hi
          show RuleAt (wr.setCells (w.heap.size + 1) (kk * 3) (ruleL (s6 kk) (s7 kk))) (w.heap.size + 1) i (s6 i) (s7 i)
          by_cases e : i = kk
          · subst e
            exact RuleAt.at RBk.out (by omega)
          · exact (EL.out i (by omega)).far (by omega)
    · have hltz : ¬ (kk : Int) < (n : Int) := by omega
      have : kk = n := by omega
      subst this
      have gc := fun j => (BW.out.cell (p := ⟨w.heap.size, j, none⟩) (by show w.heap.size < w.heap.size + 1; omega)).trans (World.cell?_alloc_at _ _ _ j rfl)
      have gf := fun j => (BW.out.frozen (p := ⟨w.heap.size, j, none⟩) (by show w.heap.size < w.heap.size + 1; omega)).trans (new_thawed _ _ _ _ rfl)
      have g0 := gc 0
      have g1 := gc 1
      have g2 := gc 2
      have g3 := gc 3
      have g4 := gc 4
      have g5 := gc 5
      have g6 := gc 6
      have g7 := gc 7
      have g8 := gc 8
      have g9 := gc 9
      have g10 := gc 10
      have g11 := gc 11
      have g12 := gc 12
      simp only [List.getElem?_toArray, List.getElem?_cons_zero, List.getElem?_cons_succ] at g0 g1 g2 g3 g4 g5 g6 g7 g8 g9 g10 g11 g12
      clear gc
      go_wp2
      refine bodyPost_ret (v := dec al r d k (.slice prA prn prc) (.slice mtA mtn mtc) (.slice (some ⟨w.heap.size + 1, 0, none⟩) kk kk)) ?_ rfl ⟨⟨w.heap.size + 1, rfl, ?_⟩, ?_⟩
      · simp [results, Try.results9, go_sem, g0, g1, g2, g3, g4, g5, g6, g7, g8, g9, g10, g11, g12]
      · intro i hi
        exact (EL.out i hi).other (b := w.heap.size) (o := 0) (by omega) (decA al r d k (.slice prA prn prc) (.slice mtA mtn mtc) (.slice (some ⟨w.heap.size + 1, 0, none⟩) kk kk)).toList
      · exact sets_below (b := w.heap.size) (Nat.le_refl _) (decA al r d k (.slice prA prn prc) (.slice mtA mtn mtc) (.slice (some ⟨w.heap.size + 1, 0, none⟩) kk kk)).toList 0 wr (hb1.out.trans (BW.out.mono (by omega)))

set_option maxRecDepth 100000 in
set_option maxHeartbeats 1000000 in
theorem decision_zero (al : Bool) (r d k : ByteArray) (prA mtA : Option Addr) (prn prc mtn mtc : Nat) (a6 : Addr) (c6 : Nat) (ao7 : Option Addr) (c7 : Nat) (s6 s7 : Nat → ByteArray) (w : World) :
    Calls Try.prog 9 #[.bool al, .string r, .string d, .string k, .slice prA prn prc, .slice mtA mtn mtc, .slice (some a6) 0 c6, .slice ao7 0 c7] w fun e w' =>
      (∃ B, e = .returned (dec al r d k (.slice prA prn prc) (.slice mtA mtn mtc) (.slice (some ⟨B, 0, none⟩) 0 0)) ∧ ∀ i, i < 0 → RuleAt w' B i (s6 i) (s7 i)) ∧ Below w.heap.size w w' := by
  have hq := fun W => run_neq_slice_nil_any (P := Try.prog) W 22 9 (some a6) 0 c6 0 0 Try.underlying22
  simp only [Option.isNone_some, Bool.not_false] at hq
  obtain ⟨A, hA, hmk0⟩ := make_any 0 (by omega)
  have hmk : ∀ w : World, (Instr.makeSlice 30 (.int .i64 0) (.int .i64 0)).run Try.prog w = .ok (.slice (some ⟨w.heap.size, 0, none⟩) 0 0) (w.alloc (.cells A 42)) := hmk0
  clear hmk0
  go_enter Try.func9, Try.ntmps9
  go_wp2
  refine wp_loop_rounds 1 ?_
  rw [rounds_succ]
  go_wp2
  refine bodyPost_ret (v := dec al r d k (.slice prA prn prc) (.slice mtA mtn mtc) (.slice (some ⟨w.heap.size + 1, 0, none⟩) 0 0)) ?_ rfl ⟨⟨w.heap.size + 1, rfl, fun i hi => absurd hi (Nat.not_lt_zero _)⟩, ?_⟩
  · simp [results, Try.results9, go_sem]
  · exact ((Below.refl _ _).alloc (Nat.le_refl _) _).alloc (by simp) _
end Go.Proofs.Qxb6618501a
