/- deny, ZZDeny: a decision with another reason and detail. -/
import Derived.Test.Qxb6618501aBase
namespace Go.Proofs.Qxb6618501a
open Go.RowKit

/-- m cells are there, and may be written. -/
def RB (w : World) (B m : Nat) : Prop := ∀ j, j < m → (∃ v, w.cell? ⟨B, j, none⟩ = some v) ∧ w.frozen? ⟨B, j, none⟩ = false

theorem new_thawed (w : World) (c : Array Value) (t : TypeId) (a : Addr) (h : a.block = w.heap.size) : (w.alloc (.cells c t)).frozen? a = false := by
  have e1 : (w.alloc (.cells c t)).heap[a.block]? = some (.cells c t) := by rw [h]; exact (MapKept.heap_alloc w _).1
  simp [World.frozen?, e1]

theorem RB.made (w : World) (A : Array Value) (t : TypeId) (m : Nat) (h : A.size = m) : RB (w.alloc (.cells A t)) w.heap.size m := by
  intro j hj
  refine ⟨⟨A[j], ?_⟩, new_thawed _ _ _ _ rfl⟩
  rw [World.cell?_alloc_at _ _ _ _ rfl]
  exact Array.getElem?_eq_getElem _

theorem sets_size (b : Nat) : ∀ (vs : List Value) (o : Nat) (w : World), (w.setCells b o vs).heap.size = w.heap.size
  | [], _, _ => rfl
  | v :: r, o, w => by rw [World.setCells, sets_size b r]; simp [World.setCell]

theorem sets_below {W : World} {b N : Nat} (hN : N ≤ b) : ∀ (vs : List Value) (o : Nat) (w : World), Below N W w → Below N W (w.setCells b o vs)
  | [], _, _, h => h
  | v :: r, o, w, h => by rw [World.setCells]; exact sets_below hN r _ _ (h.setCell (p := ⟨b, o, none⟩) hN v)

theorem RB.sets {w : World} {B m : Nat} (h : RB w B m) (vs : List Value) (o : Nat) (ho : o + vs.length ≤ m) : RB (w.setCells B o vs) B m := by
  intro j hj
  obtain ⟨⟨u, hu⟩, hf⟩ := h j hj
  refine ⟨?_, by rw [World.frozen?_setCells]; exact hf⟩
  by_cases e : o ≤ j ∧ j < o + vs.length
  · have := World.cell?_setCells_in B vs o w (fun i hi => by obtain ⟨v, hv⟩ := (h (o + i) (by omega)).1; rw [hv]; rfl) (j - o) (by omega)
    rw [show o + (j - o) = j by omega] at this
    exact ⟨_, this⟩
  · exact ⟨u, by rw [World.cell?_setCells_out B vs o w _ (fun _ _ => by simp; omega)]; exact hu⟩

theorem RB.later {w w' : World} {B m : Nat} (h : RB w B m) (hb : Below w.heap.size w w') (hB : B < w.heap.size) : RB w' B m :=
  fun j hj => ⟨by rw [hb.cell (p := ⟨B, j, none⟩) hB]; exact (h j hj).1, by rw [hb.frozen (p := ⟨B, j, none⟩) hB]; exact (h j hj).2⟩

/-- A decision's cells. -/
abbrev decA (al : Bool) (r d k : ByteArray) (pr mt ru : Value) : Array Value := #[.bool al, .string r, .string d, .string ⟨#[]⟩, .string k, pr, .int .i64 0, .int .i64 0, .slice none 0 0, .string ⟨#[]⟩, .slice none 0 0, mt, ru]
/-- A decision. -/
abbrev dec (al : Bool) (r d k : ByteArray) (pr mt ru : Value) : Value := .agg (decA al r d k pr mt ru)

/-- A decision lies in block B. -/
def DecAt (w : World) (B : Nat) (al : Bool) (r d k : ByteArray) (pr mt ru : Value) : Prop :=
  w.cell? ⟨B, 0, none⟩ = some (.bool al) ∧ w.cell? ⟨B, 1, none⟩ = some (.string r) ∧ w.cell? ⟨B, 2, none⟩ = some (.string d) ∧ w.cell? ⟨B, 3, none⟩ = some (.string ⟨#[]⟩) ∧ w.cell? ⟨B, 4, none⟩ = some (.string k) ∧ w.cell? ⟨B, 5, none⟩ = some (pr) ∧ w.cell? ⟨B, 6, none⟩ = some (.int .i64 0) ∧ w.cell? ⟨B, 7, none⟩ = some (.int .i64 0) ∧ w.cell? ⟨B, 8, none⟩ = some (.slice none 0 0) ∧ w.cell? ⟨B, 9, none⟩ = some (.string ⟨#[]⟩) ∧ w.cell? ⟨B, 10, none⟩ = some (.slice none 0 0) ∧ w.cell? ⟨B, 11, none⟩ = some (mt) ∧ w.cell? ⟨B, 12, none⟩ = some (ru)

theorem DecAt.later {w w' : World} {B : Nat} {al : Bool} {r d k : ByteArray} {pr mt ru : Value} (h : DecAt w B al r d k pr mt ru) (hb : Below w.heap.size w w') : DecAt w' B al r d k pr mt ru := by
  have hlt : B < w.heap.size := World.block_lt_of_cell? _ _ h.1
  exact ⟨(hb.cell (p := ⟨B, _, none⟩) hlt).trans h.1, (hb.cell (p := ⟨B, _, none⟩) hlt).trans h.2.1, (hb.cell (p := ⟨B, _, none⟩) hlt).trans h.2.2.1, (hb.cell (p := ⟨B, _, none⟩) hlt).trans h.2.2.2.1, (hb.cell (p := ⟨B, _, none⟩) hlt).trans h.2.2.2.2.1, (hb.cell (p := ⟨B, _, none⟩) hlt).trans h.2.2.2.2.2.1, (hb.cell (p := ⟨B, _, none⟩) hlt).trans h.2.2.2.2.2.2.1, (hb.cell (p := ⟨B, _, none⟩) hlt).trans h.2.2.2.2.2.2.2.1, (hb.cell (p := ⟨B, _, none⟩) hlt).trans h.2.2.2.2.2.2.2.2.1, (hb.cell (p := ⟨B, _, none⟩) hlt).trans h.2.2.2.2.2.2.2.2.2.1, (hb.cell (p := ⟨B, _, none⟩) hlt).trans h.2.2.2.2.2.2.2.2.2.2.1, (hb.cell (p := ⟨B, _, none⟩) hlt).trans h.2.2.2.2.2.2.2.2.2.2.2.1, (hb.cell (p := ⟨B, _, none⟩) hlt).trans h.2.2.2.2.2.2.2.2.2.2.2.2⟩

theorem DecAt.new (w : World) (al : Bool) (r d k : ByteArray) (pr mt ru : Value) : DecAt (w.alloc (.cells (decA al r d k pr mt ru) 32)) w.heap.size al r d k pr mt ru := by
  have g := fun j => World.cell?_alloc_at (w := w) (decA al r d k pr mt ru) 32 w.heap.size j rfl
  exact ⟨g 0, g 1, g 2, g 3, g 4, g 5, g 6, g 7, g 8, g 9, g 10, g 11, g 12⟩

set_option maxHeartbeats 1000000 in
theorem deny_any (al : Bool) (r d k : ByteArray) (prA mtA ruA : Option Addr) (prn prc mtn mtc run ruc : Nat) (r' d' : ByteArray) (w : World) :
    Calls Try.prog 16 #[dec al r d k (.slice prA prn prc) (.slice mtA mtn mtc) (.slice ruA run ruc), .string r', .string d'] w fun e w' => e = .returned (dec al r' d' k (.slice prA prn prc) (.slice mtA mtn mtc) (.slice ruA run ruc)) ∧ Below w.heap.size w w' := by
  go_enter Try.func16, Try.ntmps16
  go_wp2
  refine bodyPost_ret (v := dec al r' d' k (.slice prA prn prc) (.slice mtA mtn mtc) (.slice ruA run ruc)) ?_ rfl ⟨rfl, ?_⟩
  · simp [results, Try.results16, go_sem]
  · exact ((Below.refl _ _).alloc (Nat.le_refl _) _).alloc (by simp) _

set_option maxHeartbeats 1000000 in
theorem zzdeny_any (al : Bool) (r d k : ByteArray) (prA mtA ruA : Option Addr) (prn prc mtn mtc run ruc : Nat) (r' d' : ByteArray) (w : World) :
    Calls Try.prog 10 #[dec al r d k (.slice prA prn prc) (.slice mtA mtn mtc) (.slice ruA run ruc), .string r', .string d'] w fun e w' => e = .returned (dec al r' d' k (.slice prA prn prc) (.slice mtA mtn mtc) (.slice ruA run ruc)) ∧ Below w.heap.size w w' := by
  have hD := deny_any al r d k prA mtA ruA prn prc mtn mtc run ruc r' d'
  go_enter Try.func10, Try.ntmps10
  go_wp2_with fail
  refine (hD _).mono ?_
  clear hD
  rintro e w' ⟨rfl, hb⟩
  have hsz := hb.size
  simp at hsz
  have hb0 : Below w.heap.size w w' := (((Below.refl _ _).alloc (Nat.le_refl _) _).alloc (by simp) _).trans (hb.mono (by simp; omega))
  have gc := fun j => (hb.cell (p := ⟨w.heap.size + 1, j, none⟩) (by simp)).trans (World.cell?_alloc_at _ _ _ j (by simp))
  have gf := fun j => (hb.frozen (p := ⟨w.heap.size + 1, j, none⟩) (by simp)).trans (new_thawed _ _ _ _ (by simp))
  have g0 := gc 0
  have g1 := gc 1
  have g2 := gc 2
  have g3 := gc 3
  have g4 := gc 4
  have g5 := gc 5
  have g6 := gc 6
  have g7 := gc 7
  have g8 := gc 8
  have g9 := gc 9
  have g10 := gc 10
  have g11 := gc 11
  have g12 := gc 12
  simp only [List.getElem?_toArray, List.getElem?_cons_zero, List.getElem?_cons_succ] at g0 g1 g2 g3 g4 g5 g6 g7 g8 g9 g10 g11 g12
  clear gc hb
  go_wp2
  refine bodyPost_ret (v := dec al r' d' k (.slice prA prn prc) (.slice mtA mtn mtc) (.slice ruA run ruc)) ?_ rfl ⟨rfl, ?_⟩
  · simp [results, Try.results10, go_sem, g0, g1, g2, g3, g4, g5, g6, g7, g8, g9, g10, g11, g12]
  · exact sets_below (b := w.heap.size + 1) (by omega) (decA al r' d' k (.slice prA prn prc) (.slice mtA mtn mtc) (.slice ruA run ruc)).toList 0 w' hb0
end Go.Proofs.Qxb6618501a
