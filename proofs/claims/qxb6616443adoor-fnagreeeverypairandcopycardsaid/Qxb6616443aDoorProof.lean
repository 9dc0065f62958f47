/- 'Rows.FnAgreeEveryPairAndCopyCardSaid': the row proved, then the tied card round it. -/
import Derived.Test.Qxb6616443aDoorRows
import Derived.Test.Qxb6616443aDoorCards
import Derived.Test.Qxb6616443aDoorTie
import Derived.Test.Qxb6616443aDoorLawAll
import Derived.WalkKit
import Derived.ProofKit
import Derived.OpenShut
import Derived.ChangeOld
import Derived.ChangeVars
import Derived.Below
import Derived.Deep.Slices
import Derived.LaidLaws
import Derived.LaidHandle
import Derived.Stop.Joined
import Derived.SevenTiedAt
namespace Go.Proofs.Qxb6616443aDoor
open Go.ChangeShapes Go.WideShapes Go.ChangeAt Go.RowKit
set_option linter.unusedVariables false

theorem own : ownKnob Tryd.prog.godebug = none := by kernel_rfl
theorem laidOut : laidOutB Tryd.prog = true := by kernel_rfl
theorem Tryd.cells30 : Tryd.prog.cellsOf 30 = 6 := by kernel_rfl
theorem Tryd.cells9 : Tryd.prog.cellsOf 9 = 1 := by kernel_rfl
theorem Tryd.cells5 : Tryd.prog.cellsOf 5 = 1 := by kernel_rfl

/-! ### What the listed variable's reading gives the walk -/
theorem Tryd.et : Tryd.prog.globalNamed "errors.errorType" = some 0 := by kernel_rfl
theorem Tryd.size : Tryd.prog.types.size = 117 := by kernel_rfl
theorem Tryd.oneRow : ((List.range 117).filter fun t => Tryd.prog.rowNamed t [101, 114, 114, 111, 114]) = [35] := by kernel_rfl

theorem handle_of_laid {W : World} (h : laidMetH Tryd.prog Rows.fnAgreeEveryPairAndCopyRow.laid W) : W.cell? ⟨0, 0, none⟩ = some hnd := by
  have h' : laidMet Tryd.prog [] W ∧ handlesMet Tryd.prog Rows.fnAgreeEveryPairAndCopyRow.laid W := h
  obtain ⟨name, u, ty, e1, e2, e3, e4, e5⟩ := h'.2 _ (List.mem_singleton.2 rfl)
  have en : name = [101, 114, 114, 111, 114] := (Option.some.inj e1).symm
  subst en
  have hu : (some 75 : Option TypeId) = some u := Eq.trans (by kernel_rfl) e2
  obtain rfl := Option.some.inj hu
  have hm : ty ∈ (List.range 117).filter fun t => Tryd.prog.rowNamed t [101, 114, 114, 111, 114] := List.mem_filter.2 ⟨List.mem_range.2 (by rw [← Tryd.size]; exact e3), e4⟩
  rw [Tryd.oneRow] at hm
  obtain rfl := List.mem_singleton.1 hm
  have hh : typeHandle Tryd.prog 35 = .pointer (some ⟨1, 35, none⟩) := by kernel_rfl
  rw [hh] at e5
  simpa using World.var?_cell Tryd.et e5 0

/-! ### A slice of rows, opened -/
theorem open_row {H : Type} {enc : TypeId × Value → H} {w : World} {base : Nat} {spare : Nat → Bool} {held : Bool} {n : Nat} {cs : List Value} {x : DataW H × List MemPlace}
    (h : DataW.trod enc Tryd.prog w base spare held n 30 cs = some x) : ∃ r : RowD, cs = [.string r.p, .string r.t, .string r.v, .int .u8 r.k, .string r.c, .string r.d] ∧ r.Fits := by
  obtain ⟨xs, m, _, rfl, hl, hlen, hf⟩ := DataW.trod_struct Tryd.underlying30 h
  rw [Tryd.cells30] at hl
  match cs, hl with
  | [c0, c1, c2, c3, c4, c5], _ =>
    match xs, hlen with
    | [y0, y1, y2, y3, y4, y5], _ =>
      have g0 : DataW.trod enc Tryd.prog w base spare held m 9 (([c0, c1, c2, c3, c4, c5].drop 0).take (Tryd.prog.cellsOf 9)) = some y0 := hf 0 _ rfl
      have g1 : DataW.trod enc Tryd.prog w base spare held m 9 (([c0, c1, c2, c3, c4, c5].drop 1).take (Tryd.prog.cellsOf 9)) = some y1 := hf 1 _ rfl
      have g2 : DataW.trod enc Tryd.prog w base spare held m 9 (([c0, c1, c2, c3, c4, c5].drop 2).take (Tryd.prog.cellsOf 9)) = some y2 := hf 2 _ rfl
      have g3 : DataW.trod enc Tryd.prog w base spare held m 5 (([c0, c1, c2, c3, c4, c5].drop 3).take (Tryd.prog.cellsOf 5)) = some y3 := hf 3 _ rfl
      have g4 : DataW.trod enc Tryd.prog w base spare held m 9 (([c0, c1, c2, c3, c4, c5].drop 4).take (Tryd.prog.cellsOf 9)) = some y4 := hf 4 _ rfl
      have g5 : DataW.trod enc Tryd.prog w base spare held m 9 (([c0, c1, c2, c3, c4, c5].drop 5).take (Tryd.prog.cellsOf 9)) = some y5 := hf 5 _ rfl
      rw [Tryd.cells9] at g0 g1 g2 g4 g5
      rw [Tryd.cells5] at g3
      obtain ⟨s0, e0, _, m0⟩ := DataW.trod_string Tryd.underlying9 g0
      obtain ⟨s1, e1, _, m1⟩ := DataW.trod_string Tryd.underlying9 g1
      obtain ⟨s2, e2, _, m2⟩ := DataW.trod_string Tryd.underlying9 g2
      obtain ⟨k, e3, _, _⟩ := DataW.trod_int Tryd.underlying5 g3
      obtain ⟨s4, e4, _, m4⟩ := DataW.trod_string Tryd.underlying9 g4
      obtain ⟨s5, e5, _, m5⟩ := DataW.trod_string Tryd.underlying9 g5
      simp at e0 e1 e2 e3 e4 e5
      subst e0 e1 e2 e3 e4 e5
      exact ⟨⟨s0, s1, s2, k, s4, s5⟩, rfl, m0, m1, m2, m4, m5⟩

/-- A slice of rows that came in: nil; or so many rows lie behind its address. -/
theorem open_rows {H : Type} {enc : TypeId × Value → H} {W : World} {fuel : Nat} {a0 : Option Addr} {len cap : Nat} {x : DataW H × List MemPlace}
    (h : DataW.trod enc Tryd.prog W 0 (fun _ => true) true fuel 22 [.slice a0 len cap] = some x) :
    len = 0 ∨ ∃ (b off : Nat) (R : Nat → RowD), a0 = some ⟨b, off, none⟩ ∧ len ≤ maxLen ∧ ∀ i, i < len → RowAt W b off i (R i) ∧ (R i).Fits := by
  rcases Deep.open_slice Tryd.underlying22 h with ⟨hcs, _⟩ | ⟨a, l, c, m, n, D, Pl, hcs, _, hl, hm, hmm, _, hx⟩
  · simp at hcs
    exact .inl hcs.2.1
  · simp at hcs
    obtain ⟨rfl, rfl, rfl⟩ := hcs
    simp only [if_true] at hmm
    subst hmm
    by_cases h0 : len = 0
    · exact .inl h0
    right
    have each : ∀ i, i < len → ∃ r : RowD, (W.cells? 0 (a.add (i * 6)) 6 = some [.string r.p, .string r.t, .string r.v, .int .u8 r.k, .string r.c, .string r.d]) ∧ r.Fits := by
      intro i hi
      obtain ⟨cs', h1, h2⟩ := hx i (by omega)
      rw [Tryd.cells30] at h1
      obtain ⟨r, rfl, hr⟩ := open_row h2
      exact ⟨r, h1, hr⟩
    have : Inhabited RowD := ⟨⟨⟨#[]⟩, ⟨#[]⟩, ⟨#[]⟩, 0, ⟨#[]⟩, ⟨#[]⟩⟩⟩
    obtain ⟨R, hR⟩ := Deep.choose_lt each
    obtain ⟨b, off, spot⟩ := a
    have hc0 := (World.cells?_some (hR 0 (by omega)).1).2.2 0 (by omega)
    have hspot : spot = none := by simpa [Addr.add] using World.cell?_spot hc0
    subst hspot
    refine ⟨b, off, R, rfl, by omega, fun i hi => ⟨?_, (hR i hi).2⟩⟩
    have hc := (World.cells?_some (hR i hi).1).2.2
    have k0 := hc 0 (by omega)
    have k1 := hc 1 (by omega)
    have k2 := hc 2 (by omega)
    have k3 := hc 3 (by omega)
    have k4 := hc 4 (by omega)
    have k5 := hc 5 (by omega)
    rw [add_plain, add_plain] at k0 k1 k2 k3 k4 k5
    exact ⟨k0, k1, k2, k3, k4, k5⟩

/-! ### The law at every input -/
theorem walk (a0 : Option Addr) (len cap : Nat) (i j : Int) (W : World) (hg : W.cell? ⟨0, 0, none⟩ = some hnd)
    (h : len = 0 ∨ ∃ (b off : Nat) (R : Nat → RowD), a0 = some ⟨b, off, none⟩ ∧ len ≤ maxLen ∧ ∀ i, i < len → RowAt W b off i (R i) ∧ (R i).Fits) :
    Calls Tryd.prog 3 #[.slice a0 len cap, .int .i64 i, .int .i64 j] W fun e w' => e = .returned (.bool true) ∧ Below W.heap.size W w' := by
  rcases h with rfl | ⟨b, off, R, rfl, hm, hR⟩
  · exact law_none a0 cap i j W
  by_cases hin : (0 ≤ i ∧ i < len) ∧ 0 ≤ j ∧ j < len
  · obtain ⟨⟨hi0, hi⟩, hj0, hj⟩ := hin
    obtain ⟨i, rfl⟩ := Int.eq_ofNat_of_zero_le hi0
    obtain ⟨j, rfl⟩ := Int.eq_ofNat_of_zero_le hj0
    exact law_main b off len cap i j R W hg hm (by omega) (by omega) hR
  · exact law_out b off len cap i j R W hm (by omega) hR

set_option maxRecDepth 100000 in
theorem lifted (os : Os) (started : os.Started) (H : Type) (enc : TypeId × Value → H) :
    ReturnsInHanded {} Tryd.checked os 3 .any (fun w args => (Rows.fnAgreeEveryPairAndCopySpec.pre enc Tryd.prog Tryd.f3 [] false w args ∧ laidMetH Tryd.prog Rows.fnAgreeEveryPairAndCopyRow.laid w) ∧ sizedMet enc Tryd.prog Tryd.f3 (OpenSpec.ofChange Rows.fnAgreeEveryPairAndCopySpec) false w args)
      (Rows.fnAgreeEveryPairAndCopySpec.post enc Tryd.prog Tryd.f3 false true false false) := by
  refine returnsInHanded_of_change_and (C := Tryd.checked) (X := fun w _ => laidMetH Tryd.prog Rows.fnAgreeEveryPairAndCopyRow.laid w) (fun _ _ _ hh h => h.of_heap hh) own started (by kernel_rfl) Tryd.func3
    (ChangeSpec.witness_at (enc := enc) (C := Tryd.checked) (os := os) (X := fun w _ => laidMetH Tryd.prog Rows.fnAgreeEveryPairAndCopyRow.laid w) false
      { World.holding Tryd.prog os ⟨#[], #[], []⟩ with heap := (World.holding Tryd.prog os ⟨#[], #[], []⟩).heap.modify 0 fun
        | .cells _ t frozen => .cells #[hnd] t frozen
        | o => o }
      #[.slice none 0 0, .int .i64 0, .int .i64 0] 8 rfl (by kernel_rfl) (by kernel_rfl) (by kernel_rfl) (by kernel_rfl) (by kernel_rfl) (laidMetH_of_parts (laidMet_nil _ _) (by kernel_rfl))) ?_
  intro W base args ds gs before hval0 hW _ _ hL _
  have hval : ∀ (j : Nat) t v, Tryd.f3.params[j]? = some t → args[j]? = some v → Value.okWide Tryd.prog W .any base t v := hval0
  have hW' := hW
  obtain ⟨p, q, hA0, hV0, rfl, hfz, hnd'⟩ := hW
  have hA : DataW.TrodAll enc Tryd.prog W 0 (fun _ => true) true Tryd.f3.params.toList args.toList ds p := hA0
  have hV : DataW.TrodVars enc Tryd.prog W (fun _ => true) [] gs q := hV0
  rw [Tryd.params3] at hA hval
  obtain ⟨v0, vs0, d0, ds0, p0, q0, hargs, rfl, rfl, h0, r0⟩ := trodAll_cons hA
  obtain ⟨v1, vs1, d1, ds1, p1, q1, rfl, rfl, rfl, h1, r1⟩ := trodAll_cons r0
  obtain ⟨v2, vs2, d2, ds2, p2, q2, rfl, rfl, rfl, h2, r2⟩ := trodAll_cons r1
  obtain ⟨rfl, rfl, rfl⟩ := trodAll_nil r2
  obtain rfl : args = #[v0, v1, v2] := by cases args; simp_all
  obtain ⟨rfl, rfl⟩ := trodVars_none hV
  obtain ⟨a0, len0, cap0, rfl⟩ := okWide_slice Tryd.underlying22 (hval 0 22 v0 rfl rfl)
  have k0 := h0
  have lt0 : ∀ x ∈ p0, x.block < W.heap.size := by obtain ⟨m, hm⟩ := k0; exact DataW.trod_lt m _ _ _ hm
  have w0 : len0 = 0 ∨ ∃ (b off : Nat) (R : Nat → RowD), a0 = some ⟨b, off, none⟩ ∧ len0 ≤ maxLen ∧ ∀ i, i < len0 → RowAt W b off i (R i) ∧ (R i).Fits := by
    obtain ⟨fuel, hf⟩ := h0
    exact open_rows (by simpa [Value.cells] using hf)
  obtain ⟨a1, rfl, rfl, rfl, w1⟩ := open_int Tryd.underlying3 (hval 1 3 v1 rfl rfl) h1
  obtain ⟨a2, rfl, rfl, rfl, w2⟩ := open_int Tryd.underlying3 (hval 2 3 v2 rfl rfl) h2
  have hg := handle_of_laid hL
  clear hA0 hval0
  refine (walk a0 len0 cap0 a1 a2 W hg w0).mono fun e W' ⟨he, bel⟩ => ?_
  subst he
  exact ⟨_, rfl, _, _, _, [], _, [], hW', trodAll_mk1 (shut_bool Tryd.underlying4 _), (trodAll_cons_mk (Below.trod laidOut (by kernel_rfl) (of_decide_eq_true (by kernel_rfl)) k0 bel lt0) (trodAll_cons_mk (shut_int Tryd.underlying3 w1) (trodAll_cons_mk (shut_int Tryd.underlying3 w2) trodAll_mk0))), rfl, bel.frame _, fun h => by cases h⟩

theorem row_holds : Rows.FnAgreeEveryPairAndCopySaid :=
  OpenClaim.holds_of_wide 3 Tryd.f3 rfl rfl rfl rfl rfl rfl rfl ⟨rfl, rfl, rfl, rfl, rfl⟩ rfl rfl rfl rfl rfl (by kernel_rfl) Tryd.func3 (by kernel_rfl)
    (of_decide_eq_true (by kernel_rfl)) (by unfold Func.isWrapper; rw [if_neg (of_decide_eq_false (by kernel_rfl))]; exact ⟨rfl, rfl⟩)
    (fun os started H enc _ => lifted os started H enc)

theorem card_proved : Rows.FnAgreeEveryPairAndCopyCardSaid :=
  Claim7.holds_tied_plain_at .later [] [.handle] true Rows.fnAgreeEveryPairAndCopyCard.stood.harness true
    row_holds (fun _ h => by cases h) (by kernel_rfl) (fun _ h => by cases h) fnAgreeEveryPairAndCopy_row_tie rfl ⟨rfl, rfl⟩ (by kernel_rfl) rfl
    (fun f fn hf hfn => by
      have h3 : Tryd.prog.funcNamed Rows.fnAgreeEveryPairAndCopyRow.func = some 3 := by kernel_rfl
      obtain rfl : f = 3 := (Option.some.inj (h3.symm.trans hf)).symm
      obtain rfl : fn = Tryd.f3 := (Option.some.inj (Tryd.func3.symm.trans hfn)).symm
      exact ⟨by kernel_rfl, fun j t ht => by
        rw [Tryd.params3] at ht
        have hm : t ∈ [22, 3, 3] := by simpa using Array.mem_of_getElem? ht
        have hall : ([22, 3, 3].all fun u => !Tryd.prog.wantsStandIn u) = true := by kernel_rfl
        exact (show Tryd.prog.wantsStandIn t = false by simpa using List.all_eq_true.1 hall t hm)⟩)
    (by kernel_rfl)
end Go.Proofs.Qxb6616443aDoor
