/- A row's expected answer; the result that is made of a row. -/
import Derived.Test.Qxb6616443aDoorAgree
namespace Go.Proofs.Qxb6616443aDoor
open Go.RowKit

/-- A row, as plain data. -/
structure RowD where
  p : ByteArray
  t : ByteArray
  v : ByteArray
  k : Int
  c : ByteArray
  d : ByteArray

/-- It failed. -/
def RowD.f (r : RowD) : Bool := if r.k = 0 then false else true
/-- Its text. -/
def RowD.s (r : RowD) : ByteArray := if r.k = 0 then r.v else if r.k = 1 then r.c else r.d

set_option maxHeartbeats 400000 in
theorem expected_any (r : RowD) (w : World) :
    Calls Tryd.prog 15 #[.agg #[.string r.p, .string r.t, .string r.v, .int .u8 r.k, .string r.c, .string r.d]] w fun e w' => e = .returned (.tuple #[.bool r.f, .string r.s]) ∧ Below w.heap.size w w' := by
  obtain ⟨p, t, v, k, c, d⟩ := r
  by_cases h0 : k = 0
  · subst h0
    go_enter Tryd.func15, Tryd.ntmps15
    go_wp2
    go_region
    all_goals (go_wp2; go_ret2; exact ⟨rfl, ((Below.refl _ _).alloc (Nat.le_refl _) _).drew⟩)
  by_cases h1 : k = 1
  · subst h1
    go_enter Tryd.func15, Tryd.ntmps15
    go_wp2
    go_region
    all_goals (go_wp2; go_ret2; exact ⟨rfl, ((Below.refl _ _).alloc (Nat.le_refl _) _).drew⟩)
  have e0 : (k == 0) = false := by simp [h0]
  have e1 : (k == 1) = false := by simp [h1]
  have ef : RowD.f ⟨p, t, v, k, c, d⟩ = true := by simp [RowD.f, h0]
  have es : RowD.s ⟨p, t, v, k, c, d⟩ = d := by simp [RowD.s, h0, h1]
  rw [ef, es]
  clear ef es h0 h1
  go_enter Tryd.func15, Tryd.ntmps15
  go_wp2
  go_region
  all_goals (go_wp2; go_ret2; exact ⟨rfl, ((Below.refl _ _).alloc (Nat.le_refl _) _).drew⟩)

set_option maxHeartbeats 400000 in
theorem same_any (a b : RowD) (w : World) :
    Calls Tryd.prog 8 #[.agg #[.string a.p, .string a.t, .string a.v, .int .u8 a.k, .string a.c, .string a.d], .agg #[.string b.p, .string b.t, .string b.v, .int .u8 b.k, .string b.c, .string b.d]] w fun e w' => e = .returned (.bool (!diff a.f b.f a.s b.s)) ∧ Below w.heap.size w w' := by
  have hA := expected_any a
  have hB := expected_any b
  have hd : (!diff a.f b.f a.s b.s) = (a.f == b.f && (a.s.toList == b.s.toList)) := by simp [diff]
  rw [hd]
  clear hd
  obtain ⟨ap, at', av, ak, ac, ad⟩ := a
  obtain ⟨bp, bt, bv, bk, bc, bd⟩ := b
  generalize RowD.f ⟨ap, at', av, ak, ac, ad⟩ = fa at *
  generalize RowD.f ⟨bp, bt, bv, bk, bc, bd⟩ = fb at *
  generalize RowD.s ⟨ap, at', av, ak, ac, ad⟩ = sa at *
  generalize RowD.s ⟨bp, bt, bv, bk, bc, bd⟩ = sb at *
  go_enter Tryd.func8, Tryd.ntmps8
  go_wp2_with fail
  refine (hA _).mono ?_
  rintro e w' ⟨rfl, hb⟩
  have hsz := hb.size
  have hb0 : Below w.heap.size w w' := (((Below.refl _ _).alloc (Nat.le_refl _) _).alloc (by simp) _).trans (hb.mono (by simp; omega))
  have cB := fun j => hb.cell (p := ⟨w.heap.size + 1, j, none⟩) (by simp)
  have q0 := (cB 0).trans (World.cell?_alloc_at _ _ _ 0 (by simp))
  have q1 := (cB 1).trans (World.cell?_alloc_at _ _ _ 1 (by simp))
  have q2 := (cB 2).trans (World.cell?_alloc_at _ _ _ 2 (by simp))
  have q3 := (cB 3).trans (World.cell?_alloc_at _ _ _ 3 (by simp))
  have q4 := (cB 4).trans (World.cell?_alloc_at _ _ _ 4 (by simp))
  have q5 := (cB 5).trans (World.cell?_alloc_at _ _ _ 5 (by simp))
  simp only [List.getElem?_toArray, List.getElem?_cons_zero, List.getElem?_cons_succ] at q0 q1 q2 q3 q4 q5
  clear cB hb hsz hA
  go_wp2_with fail
  refine (hB _).mono ?_
  rintro e w'' ⟨rfl, hb⟩
  have hb1 : Below w.heap.size w w'' := hb0.trans (hb.mono hb0.size)
  clear hb hb0 hB q0 q1 q2 q3 q4 q5
  cases fa <;> cases fb
  all_goals (go_wp2; go_ret; exact ⟨by simp, hb1⟩)

set_option maxHeartbeats 400000 in
theorem failed_any (p t v c d : ByteArray) (w : World) :
    Calls Tryd.prog 16 #[.string p, .string t, .string v, .string c, .string d] w fun e w' => (∃ eb, e = .returned (.agg #[.string p, .string t, .string v, .iface 49 (.pointer (some ⟨eb, 0, none⟩))]) ∧ w'.cell? ⟨eb, 0, none⟩ = some (.string c) ∧ w.heap.size ≤ eb) ∧ Below w.heap.size w w' := by
  go_enter Tryd.func16, Tryd.ntmps16
  go_wp2
  refine bodyPost_ret (v := .agg #[.string p, .string t, .string v, .iface 49 (.pointer (some ⟨w.heap.size + 1, 0, none⟩))]) ?_ rfl ⟨⟨_, rfl, ?_, by omega⟩, ?_⟩
  · simp [results, Tryd.results16, go_sem]
  · rw [World.cell?_alloc_at _ _ _ _ (by simp)]; rfl
  · exact ((Below.refl _ _).alloc (Nat.le_refl _) _).alloc (by simp) _

set_option maxHeartbeats 400000 in
theorem new_any (s : ByteArray) (w : World) :
    Calls Tryd.prog 20 #[.string s] w fun e w' => e = .returned (.iface 71 (.pointer (some ⟨w.heap.size, 0, none⟩))) ∧ w' = w.alloc (.cells #[.string s] 73) := by
  go_enter Tryd.func20, Tryd.ntmps20
  go_wp2
  go_ret
  exact ⟨rfl, rfl⟩

set_option maxHeartbeats 400000 in
theorem plain_any (p t v d : ByteArray) (w : World) :
    Calls Tryd.prog 17 #[.string p, .string t, .string v, .string d] w fun e w' => (∃ eb, e = .returned (.agg #[.string p, .string t, .string v, .iface 71 (.pointer (some ⟨eb, 0, none⟩))]) ∧ w'.cell? ⟨eb, 0, none⟩ = some (.string d) ∧ w.heap.size ≤ eb) ∧ Below w.heap.size w w' := by
  go_enter Tryd.func17, Tryd.ntmps17
  go_wp2_with fail
  refine (new_any d _).mono ?_
  rintro e w' ⟨rfl, rfl⟩
  go_wp2
  refine bodyPost_ret (v := .agg #[.string p, .string t, .string v, .iface 71 (.pointer (some ⟨w.heap.size + 1, 0, none⟩))]) ?_ rfl ⟨⟨_, rfl, ?_, by omega⟩, ?_⟩
  · simp [results, Tryd.results17, go_sem]
  · rw [World.cell?_alloc_at _ _ _ _ (by simp)]; rfl
  · exact ((Below.refl _ _).alloc (Nat.le_refl _) _).alloc (by simp) _

/-- Four cells of one block, stored one behind the other. -/
theorem set4_cell {w : World} {b o : Nat} {v0 v1 v2 v3 : Value} {a : Addr} (h : a.block ≠ b) :
    ((((w.setCell ⟨b, o, none⟩ v0).setCell ⟨b, o + 1, none⟩ v1).setCell ⟨b, o + 2, none⟩ v2).setCell ⟨b, o + 3, none⟩ v3).cell? a = w.cell? a := by
  have ne : ∀ j, (⟨b, j, none⟩ : Addr) ≠ a := fun j e => h (by rw [← e])
  rw [World.cell?_setCell_other _ _ _ _ (ne _), World.cell?_setCell_other _ _ _ _ (ne _), World.cell?_setCell_other _ _ _ _ (ne _), World.cell?_setCell_other _ _ _ _ (ne _)]

/-- Behind two new blocks and a call that turned nothing old: the second block's cells. -/
theorem two_facts {w w' : World} {A B : Array Value} {tA tB : TypeId} (hb : Below ((w.alloc (.cells A tA)).alloc (.cells B tB)).heap.size ((w.alloc (.cells A tA)).alloc (.cells B tB)) w') :
    w.heap.size + 1 < w'.heap.size ∧ Below w.heap.size w w' ∧ (∀ i, w'.cell? ⟨w.heap.size + 1, i, none⟩ = B[i]?) ∧ (∀ i, w'.frozen? ⟨w.heap.size + 1, i, none⟩ = false) := by
  refine ⟨by have := hb.size; simp at this; omega, (((Below.refl _ _).alloc (Nat.le_refl _) _).alloc (by simp) _).trans (hb.mono (by simp; omega)), fun i => ?_, fun i => ?_⟩
  · exact (hb.cell (p := ⟨w.heap.size + 1, i, none⟩) (by simp)).trans (World.cell?_alloc_at _ _ _ i (by simp))
  · exact (hb.frozen (p := ⟨w.heap.size + 1, i, none⟩) (by simp)).trans (new_thawed _ _ _ _ (by simp))

/-- As 'Ans', the error's object lying at block N or behind it. -/
def AnsN (w : World) (N : Nat) (v : ByteArray) (err : Value) (f : Bool) (s : ByteArray) : Prop :=
  (err = .nilIface ∧ f = false ∧ s = v) ∨ (∃ eb, (err = .iface 49 (.pointer (some ⟨eb, 0, none⟩)) ∨ err = .iface 71 (.pointer (some ⟨eb, 0, none⟩))) ∧ f = true ∧ w.cell? ⟨eb, 0, none⟩ = some (.string s) ∧ N ≤ eb)

set_option maxHeartbeats 1000000 in
theorem resultOf_any (r : RowD) (w : World) :
    Calls Tryd.prog 11 #[.agg #[.string r.p, .string r.t, .string r.v, .int .u8 r.k, .string r.c, .string r.d]] w fun e w' => (∃ err, e = .returned (.agg #[.string r.p, .string r.t, .string r.v, err]) ∧ AnsN w' w.heap.size r.v err r.f r.s) ∧ Below w.heap.size w w' := by
  obtain ⟨p, t, v, k, c, d⟩ := r
  by_cases h0 : k = 0
  · subst h0
    go_enter Tryd.func11, Tryd.ntmps11
    go_wp2
    refine bodyPost_ret (v := .agg #[.string p, .string t, .string v, .nilIface]) ?_ rfl ⟨⟨_, rfl, .inl ⟨rfl, rfl, rfl⟩⟩, ?_⟩
    · simp [results, Tryd.results11, go_sem]
    · exact ((Below.refl _ _).alloc (Nat.le_refl _) _).alloc (by simp) _
  by_cases h1 : k = 1
  · subst h1
    have hF := failed_any p t v c d
    go_enter Tryd.func11, Tryd.ntmps11
    go_wp2_with fail
    refine (hF _).mono ?_
    clear hF
    rintro e w' ⟨⟨eb, rfl, hc, he⟩, hb⟩
    obtain ⟨hsz, hb0, hcl, hfr⟩ := two_facts hb
    have hne : eb ≠ w.heap.size + 1 ∧ w.heap.size ≤ eb := by simp at he; omega
    have q0 := hcl 0
    have q1 := hcl 1
    have q2 := hcl 2
    have q3 := hcl 3
    simp only [List.getElem?_toArray, List.getElem?_cons_zero, List.getElem?_cons_succ] at q0 q1 q2 q3
    clear hcl hb he
    go_wp2
    refine bodyPost_ret (v := .agg #[.string p, .string t, .string v, .iface 49 (.pointer (some ⟨eb, 0, none⟩))]) ?_ rfl ⟨⟨_, rfl, .inr ⟨eb, .inl rfl, rfl, ?_, hne.2⟩⟩, ?_⟩
    · simp [results, Tryd.results11, go_sem, q0, q1, q2, q3]
    · rw [set4_cell (o := 0) (by simpa using hne.1)]; exact hc
    · exact (((hb0.setCell (by simp) _).setCell (by simp) _).setCell (by simp) _).setCell (by simp) _
  have e0 : (k == 0) = false := by simp [h0]
  have e1 : (k == 1) = false := by simp [h1]
  have ef : RowD.f ⟨p, t, v, k, c, d⟩ = true := by simp [RowD.f, h0]
  have es : RowD.s ⟨p, t, v, k, c, d⟩ = d := by simp [RowD.s, h0, h1]
  rw [ef, es]
  clear ef es h0 h1
  have hF := plain_any p t v d
  go_enter Tryd.func11, Tryd.ntmps11
  go_wp2_with fail
  refine (hF _).mono ?_
  clear hF
  rintro e w' ⟨⟨eb, rfl, hc, he⟩, hb⟩
  obtain ⟨hsz, hb0, hcl, hfr⟩ := two_facts hb
  have hne : eb ≠ w.heap.size + 1 ∧ w.heap.size ≤ eb := by simp at he; omega
  have q0 := hcl 0
  have q1 := hcl 1
  have q2 := hcl 2
  have q3 := hcl 3
  simp only [List.getElem?_toArray, List.getElem?_cons_zero, List.getElem?_cons_succ] at q0 q1 q2 q3
  clear hcl hb he
  go_wp2
  refine bodyPost_ret (v := .agg #[.string p, .string t, .string v, .iface 71 (.pointer (some ⟨eb, 0, none⟩))]) ?_ rfl ⟨⟨_, rfl, .inr ⟨eb, .inr rfl, rfl, ?_, hne.2⟩⟩, ?_⟩
  · simp [results, Tryd.results11, go_sem, q0, q1, q2, q3]
  · rw [set4_cell (o := 0) (by simpa using hne.1)]; exact hc
  · exact (((hb0.setCell (by simp) _).setCell (by simp) _).setCell (by simp) _).setCell (by simp) _
end Go.Proofs.Qxb6616443aDoor
