/- 'Rows.FnHasClassFindsInsertedNameAndLosesRemovedOneSaid' PROVED. -/
import Derived.Test.Qxb6618489aRows
import Derived.Test.Qxb6618489aInsertAll
import Derived.WalkKit
import Derived.ProofKit
import Derived.OpenShut
import Derived.ShutString
import Derived.ChangeOld
import Derived.Below
import Derived.Deep.Strs
namespace Go.Proofs.Qxb6618489a.fnHasClassFindsInsertedNameAndLosesRemovedOne
open Go.ChangeShapes Go.WideShapes Go.ChangeAt Go.RowKit
open Go.ChangeMaps (open_string shut_string)
set_option linter.unusedVariables false

theorem own : ownKnob Try.prog.godebug = none := by kernel_rfl
theorem laidOut : laidOutB Try.prog = true := by kernel_rfl
theorem cells9 : Try.prog.cellsOf 9 = 1 := by kernel_rfl

/-- WHAT THE WALK IS TOLD OF A SLICE OF STRINGS THAT CAME IN. -/
def IsStrs (W : World) (a0 : Option Addr) (len cap : Nat) (ss : Nat → ByteArray) : Prop :=
  (a0 = none ∧ len = 0 ∧ cap = 0) ∨ ∃ a, a0 = some a ∧ len ≤ cap ∧ cap ≤ maxLen ∧ (∀ i, i < len → (ss i).size ≤ maxLen) ∧ (len = 0 ∨ ∃ b off, a = ⟨b, off, none⟩ ∧ ∀ i, i < len → W.cell? ⟨b, off + i, none⟩ = some (.string (ss i)))

theorem open_names {H : Type} {enc : TypeId × Value → H} {W : World} {fuel : Nat} {a0 : Option Addr} {len cap : Nat} {x : DataW H × List MemPlace}
    (h : DataW.trod enc Try.prog W 0 (fun _ => true) true fuel 22 [.slice a0 len cap] = some x) : ∃ ss, IsStrs W a0 len cap ss := by
  rcases Deep.open_strs Try.underlying22 Try.underlying9 cells9 h with ⟨hcs, _⟩ | ⟨a, l, c, m, Sx, hcs, _, hl, hm, hmm, _, hx⟩
  · simp at hcs
    exact ⟨fun _ => ByteArray.empty, .inl hcs⟩
  · simp at hcs
    obtain ⟨rfl, rfl, rfl⟩ := hcs
    simp only [if_true] at hmm
    subst hmm
    refine ⟨Sx, .inr ⟨a, rfl, hl, hm, fun i hi => (hx i (by omega)).2, ?_⟩⟩
    by_cases h0 : len = 0
    · exact .inl h0
    right
    obtain ⟨b, off, spot⟩ := a
    have hspot : spot = none := by simpa [Addr.add] using World.cell?_spot (hx 0 (by omega)).1
    subst hspot
    exact ⟨b, off, rfl, fun i hi => by rw [← add_plain]; exact (hx i (by omega)).1⟩

theorem walk (a0 : Option Addr) (len cap : Nat) (ss : Nat → ByteArray) (x : ByteArray) (i : Int) (W : World) (h : IsStrs W a0 len cap ss) (hx : x.size ≤ maxLen) :
    Calls Try.prog 4 #[.slice a0 len cap, .string x, .int .i64 i] W fun e w' => e = .returned (.bool true) ∧ Below W.heap.size W w' := by
  rcases h with ⟨rfl, rfl, rfl⟩ | ⟨a, rfl, hl, hm, hS, hc⟩
  · by_cases hi : i = 0
    · subst hi; exact insert_nil x ss W hx
    · exact insert_out none 0 0 x i ss W (Nat.zero_le _) hx (.inl rfl) (fun i hi => absurd hi (Nat.not_lt_zero _)) (by omega)
  by_cases h0 : len = 0
  · subst h0
    by_cases hi : i = 0
    · subst hi; exact insert_empty a cap x ss W hx
    · exact insert_out (some a) 0 cap x i ss W (Nat.zero_le _) hx (.inl rfl) hS (by omega)
  rcases hc with h | ⟨b, off, rfl, hR⟩
  · exact absurd h h0
  by_cases hi : 0 ≤ i ∧ i ≤ len
  · obtain ⟨hi0, hi1⟩ := hi
    obtain ⟨i, rfl⟩ := Int.eq_ofNat_of_zero_le hi0
    exact insert_main b off len cap i x ss W (by omega) (by omega) hl hm hx (by omega) hR hS
  · exact insert_out (some ⟨b, off, none⟩) len cap x i ss W (by omega) hx (.inr ⟨b, off, rfl, hR⟩) hS (by omega)

set_option maxRecDepth 100000 in
theorem lifted (os : Os) (started : os.Started) (H : Type) (enc : TypeId × Value → H) :
    ReturnsInHanded {} Try.checked os 4 .any (Rows.fnHasClassFindsInsertedNameAndLosesRemovedOneSpec.pre6 enc Try.prog Try.f4 Rows.fnHasClassFindsInsertedNameAndLosesRemovedOneRow.domain false) (Rows.fnHasClassFindsInsertedNameAndLosesRemovedOneSpec.post enc Try.prog Try.f4 false true false false) := by
  refine returnsInHanded_of_change (C := Try.checked) own started (by kernel_rfl) Try.func4
    (ChangeSpec.witness6 (enc := enc) (C := Try.checked) false ⟨#[], #[.slice none 0 0, .string ByteArray.empty, .int .i64 0], []⟩ 8 (by kernel_rfl) (by kernel_rfl) (by kernel_rfl) (by kernel_rfl)) ?_
  intro W base args ds gs before hval0 hW hcnd _
  have hval : ∀ (j : Nat) t v, Try.f4.params[j]? = some t → args[j]? = some v → Value.okWide Try.prog W .any base t v := hval0
  have hW' := hW
  obtain ⟨p, q, hA0, hV, rfl, hfz, hnd⟩ := hW
  have hA : DataW.TrodAll enc Try.prog W 0 (fun _ => true) true Try.f4.params.toList args.toList ds p := hA0
  rw [Try.params4] at hA hval
  obtain ⟨v0, vs0, d0, ds0, p0, q0, hargs, rfl, rfl, h0, r0⟩ := trodAll_cons hA
  obtain ⟨v1, vs1, d1, ds1, p1, q1, rfl, rfl, rfl, h1, r1⟩ := trodAll_cons r0
  obtain ⟨v2, vs2, d2, ds2, p2, q2, rfl, rfl, rfl, h2, r2⟩ := trodAll_cons r1
  obtain ⟨rfl, rfl, rfl⟩ := trodAll_nil r2
  obtain rfl : args = #[v0, v1, v2] := by cases args; simp_all
  obtain ⟨rfl, rfl⟩ := trodVars_none hV
  obtain ⟨a0, len0, cap0, rfl⟩ := okWide_slice Try.underlying22 (hval 0 22 v0 rfl rfl)
  have k0 := h0
  have lt0 : ∀ x ∈ p0, x.block < W.heap.size := by obtain ⟨m, hm⟩ := k0; exact DataW.trod_lt m _ _ _ hm
  obtain ⟨ss, w0⟩ : ∃ ss, IsStrs W a0 len0 cap0 ss := by
    obtain ⟨fuel, hf⟩ := h0
    exact open_names (by simpa [Value.cells] using hf)
  obtain ⟨a1, rfl, rfl, rfl, w1⟩ := open_string Try.underlying9 (hval 1 9 v1 rfl rfl) h1
  obtain ⟨a2, rfl, rfl, rfl, w2⟩ := open_int Try.underlying3 (hval 2 3 v2 rfl rfl) h2
  clear hA0 hval0
  refine (walk a0 len0 cap0 ss a1 a2 W w0 w1).mono fun e W' ⟨he, bel⟩ => ?_
  subst he
  exact ⟨_, rfl, _, _, _, [], _, [], hW', trodAll_mk1 (shut_bool Try.underlying4 _), (trodAll_cons_mk (Below.trod laidOut (by kernel_rfl) (of_decide_eq_true (by kernel_rfl)) k0 bel lt0) (trodAll_cons_mk (shut_string Try.underlying9 w1) (trodAll_cons_mk (shut_int Try.underlying3 w2) trodAll_mk0))), rfl, bel.frame _, fun h => by cases h⟩

theorem proved : Rows.FnHasClassFindsInsertedNameAndLosesRemovedOneSaid :=
  OpenClaim.holds_of_wide 4 Try.f4 rfl rfl rfl rfl rfl rfl rfl ⟨rfl, rfl, rfl, rfl, rfl⟩ rfl rfl rfl rfl rfl (by kernel_rfl) Try.func4 (by kernel_rfl)
    (of_decide_eq_true (by kernel_rfl)) (by unfold Func.isWrapper; first | (rw [if_pos (by decide +kernel)]; kernel_rfl) | (rw [if_neg (by decide +kernel)]; exact ⟨rfl, rfl⟩))
    (fun os started H enc _ => lifted os started H enc)
end Go.Proofs.Qxb6618489a.fnHasClassFindsInsertedNameAndLosesRemovedOne
