/- (ProfileResult).answer by its three ways. -/
import Derived.Test.Qxb6616443aDoorAsHit
import Derived.WalkSpells
namespace Go.Proofs.Qxb6616443aDoor
open Go.RowKit

theorem Tryd.nilAheadError71 (a : Addr) (w : World) : (nilAhead 217 71 (.pointer (some a)) "Error").run Tryd.prog w = .ok (some false) w := by kernel_rfl
theorem Tryd.methodError71 (a : Addr) (w : World) : (method 217 71 (.pointer (some a)) "Error").run Tryd.prog w = .ok (49, .pointer (some a)) w := by kernel_rfl

/-- The handle that errors.errorType holds. -/
abbrev hnd : Value := .iface 75 (.agg #[.pointer (some ⟨1, 35, none⟩)])

/-- errors.As, the hit, told by what has turned. -/
theorem as_hit2 (e t : Addr) (old : Value) (w : World) (hg : w.cell? ⟨0, 0, none⟩ = some hnd) (ht0 : w.cell? t = some old) (hf0 : w.frozen? t = false) :
    Calls Tryd.prog 18 #[.iface 49 (.pointer (some e)), .iface 51 (.pointer (some t))] w fun ev w' => ev = .returned (.bool true) ∧ w.grownBy w' (some t.block) ∧ w'.cell? t = some (.pointer (some e)) := by
  refine (as_hit e t old w hg ht0 hf0).mono fun ev w' ⟨h1, h2⟩ => ⟨h1, ?_, ?_⟩
  · subst h2
    refine ⟨rfl, rfl, rfl, by simp [World.setCell]; omega, fun k hk hne => ?_⟩
    rw [Below.heap_setCell _ _ _ _ (by intro h; exact hne (by rw [h])), Below.heap_alloc _ _ _ (by simp; omega), Below.heap_alloc _ _ _ (by simp; omega), Below.heap_alloc _ _ _ (by simp; omega), Below.heap_alloc _ _ _ hk]
  · subst h2
    have htl : t.block < w.heap.size := World.block_lt_of_cell? _ _ ht0
    refine World.cell?_setCell_same (u := old) _ _ _ ?_
    rw [World.cell?_alloc_lt _ _ t (by simp; omega), World.cell?_alloc_lt _ _ t (by simp; omega), World.cell?_alloc_lt _ _ t (by simp; omega), World.cell?_alloc_lt _ _ t htl]
    exact ht0

theorem as_miss2 (e t : Addr) (w : World) (hg : w.cell? ⟨0, 0, none⟩ = some hnd) :
    Calls Tryd.prog 18 #[.iface 71 (.pointer (some e)), .iface 51 (.pointer (some t))] w fun ev w' => ev = .returned (.bool false) ∧ w.grownBy w' none := by
  refine (as_miss e t w hg).mono fun ev w' ⟨h1, h2⟩ => ⟨h1, ?_⟩
  subst h2
  exact ⟨rfl, rfl, rfl, by simp; omega, fun k hk _ => by rw [Below.heap_alloc _ _ _ (by simp; omega), Below.heap_alloc _ _ _ (by simp; omega), Below.heap_alloc _ _ _ hk]⟩

set_option maxHeartbeats 400000 in
theorem ans_nil (p t v : ByteArray) (w : World) :
    Calls Tryd.prog 12 #[.agg #[.string p, .string t, .string v, .nilIface]] w fun e w' => e = .returned (.agg #[.bool false, .string v]) ∧ Below w.heap.size w w' := by
  go_enter Tryd.func12, Tryd.ntmps12
  go_wp2
  exact bodyPost_ret (v := .agg #[.bool false, .string v]) (by simp [results, Tryd.results12, go_sem]) rfl ⟨rfl, ((Below.refl _ _).alloc (Nat.le_refl _) _).alloc (by simp) _⟩

/-- A cell of a block of cells that has just been laid may be written. -/
theorem new_thawed (w : World) (c : Array Value) (t : TypeId) (a : Addr) (h : a.block = w.heap.size) : (w.alloc (.cells c t)).frozen? a = false := by
  have e1 : (w.alloc (.cells c t)).heap[a.block]? = some (.cells c t) := by rw [h]; exact (MapKept.heap_alloc w _).1
  simp [World.frozen?, e1]

/-- The three blocks that answer lays ahead of errors.As. -/
theorem three (p t v : ByteArray) (err : Value) (w : World) :
    Below w.heap.size w (((w.alloc (.cells #[.string p, .string t, .string v, err] 37)).alloc (.cells #[.bool false, .string { data := #[] }] 41)).alloc (.cells #[.pointer none] 49)) :=
  (((Below.refl _ _).alloc (Nat.le_refl _) _).alloc (by simp) _).alloc (by simp; omega) _

set_option maxHeartbeats 400000 in
theorem ans_err (p t v c : ByteArray) (eb : Nat) (w : World) (hg : w.cell? ⟨0, 0, none⟩ = some hnd) (hc : w.cell? ⟨eb, 0, none⟩ = some (.string c)) :
    Calls Tryd.prog 12 #[.agg #[.string p, .string t, .string v, .iface 49 (.pointer (some ⟨eb, 0, none⟩))]] w fun e w' => e = .returned (.agg #[.bool true, .string c]) ∧ Below w.heap.size w w' := by
  have hlt : 0 < w.heap.size := World.block_lt_of_cell? _ _ hg
  have hel : eb < w.heap.size := World.block_lt_of_cell? _ _ hc
  have h3 := three p t v (.iface 49 (.pointer (some ⟨eb, 0, none⟩))) w
  have hA := fun hg' ht' hf' => as_hit2 ⟨eb, 0, none⟩ ⟨w.heap.size + 1 + 1, 0, none⟩ (.pointer none) (((w.alloc (.cells #[.string p, .string t, .string v, .iface 49 (.pointer (some ⟨eb, 0, none⟩))] 37)).alloc (.cells #[.bool false, .string { data := #[] }] 41)).alloc (.cells #[.pointer none] 49)) hg' ht' hf'
  have hA := hA ((h3.cell (p := ⟨0, 0, none⟩) hlt).trans hg) (by rw [World.cell?_alloc_at _ _ _ _ (by simp)]; rfl) (new_thawed _ _ _ _ (by simp))
  have q1 : (((w.alloc (.cells #[.string p, .string t, .string v, .iface 49 (.pointer (some ⟨eb, 0, none⟩))] 37)).alloc (.cells #[.bool false, .string { data := #[] }] 41)).alloc (.cells #[.pointer none] 49)).cell? ⟨w.heap.size + 1, 0, none⟩ = some (.bool false) := by
    rw [World.cell?_alloc_lt _ _ _ (by simp)]; simp
  have q2 : (((w.alloc (.cells #[.string p, .string t, .string v, .iface 49 (.pointer (some ⟨eb, 0, none⟩))] 37)).alloc (.cells #[.bool false, .string { data := #[] }] 41)).alloc (.cells #[.pointer none] 49)).cell? ⟨w.heap.size + 1, 1, none⟩ = some (.string { data := #[] }) := by
    rw [World.cell?_alloc_lt _ _ _ (by simp)]; simp
  have f1 : ∀ o, (((w.alloc (.cells #[.string p, .string t, .string v, .iface 49 (.pointer (some ⟨eb, 0, none⟩))] 37)).alloc (.cells #[.bool false, .string { data := #[] }] 41)).alloc (.cells #[.pointer none] 49)).frozen? ⟨w.heap.size + 1, o, none⟩ = false := by
    intro o; rw [World.frozen?_alloc_old _ _ _ (by simp)]; simp
  have hs3 : (((w.alloc (.cells #[.string p, .string t, .string v, .iface 49 (.pointer (some ⟨eb, 0, none⟩))] 37)).alloc (.cells #[.bool false, .string { data := #[] }] 41)).alloc (.cells #[.pointer none] 49)).heap.size = w.heap.size + 3 := by simp
  go_enter Tryd.func12, Tryd.ntmps12
  go_wp2_with fail
  generalize (((w.alloc (.cells #[.string p, .string t, .string v, .iface 49 (.pointer (some ⟨eb, 0, none⟩))] 37)).alloc (.cells #[.bool false, .string { data := #[] }] 41)).alloc (.cells #[.pointer none] 49)) = W at *
  refine hA.mono ?_
  clear hA
  rintro e w' ⟨rfl, hgr, hcell⟩
  have hb : Below w.heap.size w w' := h3.trans ⟨hgr.os, hgr.tape, hgr.output, hgr.size, fun k hk => hgr.block k (by omega) (by simp; omega)⟩
  have r1 : w'.cell? ⟨w.heap.size + 1, 0, none⟩ = some (.bool false) := (World.cell?_of_block (hgr.block (w.heap.size + 1) (by omega) (by simp))).trans q1
  have r2 : w'.cell? ⟨w.heap.size + 1, 1, none⟩ = some (.string { data := #[] }) := (World.cell?_of_block (hgr.block (w.heap.size + 1) (by omega) (by simp))).trans q2
  have r3 : ∀ o, w'.frozen? ⟨w.heap.size + 1, o, none⟩ = false := fun o => (World.frozen?_of_block (hgr.block (w.heap.size + 1) (by omega) (by simp))).trans (f1 o)
  have r4 : w'.cell? ⟨eb, 0, none⟩ = some (.string c) := (hb.cell (p := ⟨eb, 0, none⟩) hel).trans hc
  have hsz := hgr.size
  clear hgr q1 q2 f1 hg h3
  go_wp2
  refine bodyPost_ret (v := .agg #[.bool true, .string c]) (by simp [results, Tryd.results12, go_sem, r1, r2]) rfl ⟨rfl, ?_⟩
  exact (hb.setCell (by simp) _).setCell (by simp) _
set_option maxHeartbeats 400000 in
theorem ans_plain (p t v c : ByteArray) (eb : Nat) (w : World) (hg : w.cell? ⟨0, 0, none⟩ = some hnd) (hc : w.cell? ⟨eb, 0, none⟩ = some (.string c)) :
    Calls Tryd.prog 12 #[.agg #[.string p, .string t, .string v, .iface 71 (.pointer (some ⟨eb, 0, none⟩))]] w fun e w' => e = .returned (.agg #[.bool true, .string c]) ∧ Below w.heap.size w w' := by
  have hlt : 0 < w.heap.size := World.block_lt_of_cell? _ _ hg
  have hel : eb < w.heap.size := World.block_lt_of_cell? _ _ hc
  have h3 := three p t v (.iface 71 (.pointer (some ⟨eb, 0, none⟩))) w
  have n1 := Tryd.nilAheadError71
  have n2 := Tryd.methodError71
  have hA := as_miss2 ⟨eb, 0, none⟩ ⟨w.heap.size + 1 + 1, 0, none⟩ (((w.alloc (.cells #[.string p, .string t, .string v, .iface 71 (.pointer (some ⟨eb, 0, none⟩))] 37)).alloc (.cells #[.bool false, .string { data := #[] }] 41)).alloc (.cells #[.pointer none] 49)) ((h3.cell (p := ⟨0, 0, none⟩) hlt).trans hg)
  have q3 : (((w.alloc (.cells #[.string p, .string t, .string v, .iface 71 (.pointer (some ⟨eb, 0, none⟩))] 37)).alloc (.cells #[.bool false, .string { data := #[] }] 41)).alloc (.cells #[.pointer none] 49)).cell? ⟨w.heap.size, 3, none⟩ = some (.iface 71 (.pointer (some ⟨eb, 0, none⟩))) := by
    rw [World.cell?_alloc_lt _ _ _ (by simp; omega), World.cell?_alloc_lt _ _ _ (by simp)]; simp
  have q1 : (((w.alloc (.cells #[.string p, .string t, .string v, .iface 71 (.pointer (some ⟨eb, 0, none⟩))] 37)).alloc (.cells #[.bool false, .string { data := #[] }] 41)).alloc (.cells #[.pointer none] 49)).cell? ⟨w.heap.size + 1, 0, none⟩ = some (.bool false) := by
    rw [World.cell?_alloc_lt _ _ _ (by simp)]; simp
  have q2 : (((w.alloc (.cells #[.string p, .string t, .string v, .iface 71 (.pointer (some ⟨eb, 0, none⟩))] 37)).alloc (.cells #[.bool false, .string { data := #[] }] 41)).alloc (.cells #[.pointer none] 49)).cell? ⟨w.heap.size + 1, 1, none⟩ = some (.string { data := #[] }) := by
    rw [World.cell?_alloc_lt _ _ _ (by simp)]; simp
  have f1 : ∀ o, (((w.alloc (.cells #[.string p, .string t, .string v, .iface 71 (.pointer (some ⟨eb, 0, none⟩))] 37)).alloc (.cells #[.bool false, .string { data := #[] }] 41)).alloc (.cells #[.pointer none] 49)).frozen? ⟨w.heap.size + 1, o, none⟩ = false := by
    intro o; rw [World.frozen?_alloc_old _ _ _ (by simp)]; simp
  have hs3 : (((w.alloc (.cells #[.string p, .string t, .string v, .iface 71 (.pointer (some ⟨eb, 0, none⟩))] 37)).alloc (.cells #[.bool false, .string { data := #[] }] 41)).alloc (.cells #[.pointer none] 49)).heap.size = w.heap.size + 3 := by simp
  go_enter Tryd.func12, Tryd.ntmps12
  go_wp2_with fail
  generalize (((w.alloc (.cells #[.string p, .string t, .string v, .iface 71 (.pointer (some ⟨eb, 0, none⟩))] 37)).alloc (.cells #[.bool false, .string { data := #[] }] 41)).alloc (.cells #[.pointer none] 49)) = W at *
  refine hA.mono ?_
  clear hA
  rintro e w' ⟨rfl, hgr⟩
  have hb : Below w.heap.size w w' := h3.trans ⟨hgr.os, hgr.tape, hgr.output, hgr.size, fun k hk => hgr.block k (by omega) (by simp)⟩
  have r1 : w'.cell? ⟨w.heap.size + 1, 0, none⟩ = some (.bool false) := (World.cell?_of_block (hgr.block (w.heap.size + 1) (by omega) (by simp))).trans q1
  have r2 : w'.cell? ⟨w.heap.size + 1, 1, none⟩ = some (.string { data := #[] }) := (World.cell?_of_block (hgr.block (w.heap.size + 1) (by omega) (by simp))).trans q2
  have r3 : ∀ o, w'.frozen? ⟨w.heap.size + 1, o, none⟩ = false := fun o => (World.frozen?_of_block (hgr.block (w.heap.size + 1) (by omega) (by simp))).trans (f1 o)
  have r5 : w'.cell? ⟨w.heap.size, 3, none⟩ = some (.iface 71 (.pointer (some ⟨eb, 0, none⟩))) := (World.cell?_of_block (hgr.block w.heap.size (by omega) (by simp))).trans q3
  have r4 : w'.cell? ⟨eb, 0, none⟩ = some (.string c) := (hb.cell (p := ⟨eb, 0, none⟩) hel).trans hc
  have hsz := hgr.size
  clear hgr q1 q2 q3 f1 hg h3
  go_wp2
  refine bodyPost_ret (v := .agg #[.bool true, .string c]) (by simp [results, Tryd.results12, go_sem, r1, r2]) rfl ⟨rfl, ?_⟩
  exact (hb.setCell (by simp) _).setCell (by simp) _

/-- WHAT A RESULT ANSWERS in w: 'f': it failed; 's': its text. ('v': its value text; 'err': its error.) -/
def Ans (w : World) (v : ByteArray) (err : Value) (f : Bool) (s : ByteArray) : Prop :=
  (err = .nilIface ∧ f = false ∧ s = v) ∨ (∃ eb, (err = .iface 49 (.pointer (some ⟨eb, 0, none⟩)) ∨ err = .iface 71 (.pointer (some ⟨eb, 0, none⟩))) ∧ f = true ∧ w.cell? ⟨eb, 0, none⟩ = some (.string s))

theorem ans_any (p t v : ByteArray) (err : Value) (f : Bool) (s : ByteArray) (w : World) (hg : w.cell? ⟨0, 0, none⟩ = some hnd) (h : Ans w v err f s) :
    Calls Tryd.prog 12 #[.agg #[.string p, .string t, .string v, err]] w fun e w' => e = .returned (.agg #[.bool f, .string s]) ∧ Below w.heap.size w w' := by
  rcases h with ⟨rfl, rfl, rfl⟩ | ⟨eb, rfl | rfl, rfl, hc⟩
  · exact ans_nil p t s w
  · exact ans_err p t v s eb w hg hc
  · exact ans_plain p t v s eb w hg hc

theorem Ans.later {w w' : World} {v : ByteArray} {err : Value} {f : Bool} {s : ByteArray} (h : Ans w v err f s) (hb : Below w.heap.size w w') : Ans w' v err f s := by
  rcases h with h | ⟨eb, h1, h2, hc⟩
  · exact .inl h
  · exact .inr ⟨eb, h1, h2, (hb.cell (p := ⟨eb, 0, none⟩) (World.block_lt_of_cell? _ _ hc)).trans hc⟩
end Go.Proofs.Qxb6616443aDoor
