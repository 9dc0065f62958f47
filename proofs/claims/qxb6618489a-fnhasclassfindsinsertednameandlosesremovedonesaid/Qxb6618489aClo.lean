/- HasClass: the closure, slices.IndexFunc and slices.ContainsFunc at Class, hasClass, HasClass. -/
import Derived.Test.Qxb6618489aRows
import Derived.WalkKit
import Derived.WalkSpells
import Derived.WalkLawsBesides
import Derived.Deep.LoopGhost
namespace Go.Proofs.Qxb6618489a
open Go.RowKit

/-- A row of which the name alone is set. -/
abbrev cls (s : ByteArray) : Value := .agg #[.string s, .pointer none, .int .i32 0, .string ⟨#[]⟩, .pointer none, .int .i32 0, .string ⟨#[]⟩, .pointer none, .int .i32 0, .string ⟨#[]⟩, .pointer none, .int .i32 0, .string ⟨#[]⟩, .string ⟨#[]⟩]

/-- Class i of block B bears the name s, and nothing else. -/
def ClsAt (w : World) (B i : Nat) (s : ByteArray) : Prop :=
  w.cell? ⟨B, i * 14, none⟩ = some (.string s) ∧ w.cell? ⟨B, i * 14 + 1, none⟩ = some (.pointer none) ∧ w.cell? ⟨B, i * 14 + 2, none⟩ = some (.int .i32 0) ∧ w.cell? ⟨B, i * 14 + 3, none⟩ = some (.string ⟨#[]⟩) ∧ w.cell? ⟨B, i * 14 + 4, none⟩ = some (.pointer none) ∧ w.cell? ⟨B, i * 14 + 5, none⟩ = some (.int .i32 0) ∧ w.cell? ⟨B, i * 14 + 6, none⟩ = some (.string ⟨#[]⟩) ∧ w.cell? ⟨B, i * 14 + 7, none⟩ = some (.pointer none) ∧ w.cell? ⟨B, i * 14 + 8, none⟩ = some (.int .i32 0) ∧ w.cell? ⟨B, i * 14 + 9, none⟩ = some (.string ⟨#[]⟩) ∧ w.cell? ⟨B, i * 14 + 10, none⟩ = some (.pointer none) ∧ w.cell? ⟨B, i * 14 + 11, none⟩ = some (.int .i32 0) ∧ w.cell? ⟨B, i * 14 + 12, none⟩ = some (.string ⟨#[]⟩) ∧ w.cell? ⟨B, i * 14 + 13, none⟩ = some (.string ⟨#[]⟩)

theorem ClsAt.later {w w' : World} {B i : Nat} {s : ByteArray} (h : ClsAt w B i s) (hb : Below w.heap.size w w') : ClsAt w' B i s := by
  have hlt : B < w.heap.size := World.block_lt_of_cell? _ _ h.1
  exact ⟨(hb.cell (p := ⟨B, _, none⟩) hlt).trans h.1, (hb.cell (p := ⟨B, _, none⟩) hlt).trans h.2.1, (hb.cell (p := ⟨B, _, none⟩) hlt).trans h.2.2.1, (hb.cell (p := ⟨B, _, none⟩) hlt).trans h.2.2.2.1, (hb.cell (p := ⟨B, _, none⟩) hlt).trans h.2.2.2.2.1, (hb.cell (p := ⟨B, _, none⟩) hlt).trans h.2.2.2.2.2.1, (hb.cell (p := ⟨B, _, none⟩) hlt).trans h.2.2.2.2.2.2.1, (hb.cell (p := ⟨B, _, none⟩) hlt).trans h.2.2.2.2.2.2.2.1, (hb.cell (p := ⟨B, _, none⟩) hlt).trans h.2.2.2.2.2.2.2.2.1, (hb.cell (p := ⟨B, _, none⟩) hlt).trans h.2.2.2.2.2.2.2.2.2.1, (hb.cell (p := ⟨B, _, none⟩) hlt).trans h.2.2.2.2.2.2.2.2.2.2.1, (hb.cell (p := ⟨B, _, none⟩) hlt).trans h.2.2.2.2.2.2.2.2.2.2.2.1, (hb.cell (p := ⟨B, _, none⟩) hlt).trans h.2.2.2.2.2.2.2.2.2.2.2.2.1, (hb.cell (p := ⟨B, _, none⟩) hlt).trans h.2.2.2.2.2.2.2.2.2.2.2.2.2⟩

/-- Two names are one. -/
def eqs (a b : ByteArray) : Bool := a.toList == b.toList

set_option maxHeartbeats 400000 in
theorem clo_any (s x : ByteArray) (FB : Nat) (w : World) (h0 : w.cell? ⟨FB, 0, none⟩ = some (.string x)) :
    Calls Try.prog 13 #[cls s, .pointer (some ⟨FB, 0, none⟩)] w fun e w' => e = .returned (.bool (eqs s x)) ∧ Below w.heap.size w w' := by
  have hfb : FB < w.heap.size := World.block_lt_of_cell? _ _ h0
  unfold eqs
  go_enter Try.func13, Try.ntmps13
  go_wp2
  go_ret
  exact ⟨rfl, (Below.refl _ _).alloc (Nat.le_refl _) _⟩

set_option maxHeartbeats 2000000 in
theorem index_any (B n c FB : Nat) (ss : Nat → ByteArray) (x : ByteArray) (w : World) (hn : n ≤ 1000000) (hE : ∀ i, i < n → ClsAt w B i (ss i)) (h0 : w.cell? ⟨FB, 0, none⟩ = some (.string x)) :
    Calls Try.prog 14 #[.slice (some ⟨B, 0, none⟩) n c, .func (.func 13) #[] #[.pointer (some ⟨FB, 0, none⟩)]] w fun e w' =>
      (∃ r : Int, e = .returned (.int .i64 r) ∧ (0 ≤ r ↔ ∃ i, i < n ∧ eqs (ss i) x = true)) ∧ Below w.heap.size w w' := by
  have hfb : FB < w.heap.size := World.block_lt_of_cell? _ _ h0
  have hC : ∀ W, Below w.heap.size w W → ∀ i, i < n → Calls Try.prog 13 #[cls (ss i), .pointer (some ⟨FB, 0, none⟩)] W fun e w' => e = .returned (.bool (eqs (ss i) x)) ∧ Below w.heap.size w w' := fun W hb i hi =>
    (clo_any (ss i) x FB W ((hb.cell (p := ⟨FB, 0, none⟩) hfb).trans h0)).mono fun e w' ⟨h1, h2⟩ => ⟨h1, hb.trans (h2.mono hb.size)⟩
  have hL : ∀ W, Below w.heap.size w W → ∀ i, i < n → ClsAt W B i (ss i) := fun W hb i hi => (hE i hi).later hb
  clear hE h0
  go_enter Try.func14, Try.ntmps14
  go_wp2
  go_loopg [5, 8] n (fun gg _ s8 wr => ∃ kk : Nat, kk ≤ n ∧ n - kk ≤ gg ∧ s8 = .int .i64 kk ∧ Aside (Below w.heap.size w wr) ∧ Aside (∀ j, j < kk → eqs (ss j) x = false))
  case atStart => exact ⟨0, Nat.zero_le _, by omega, rfl, Below.refl _ w, fun j hj => absurd hj (Nat.not_lt_zero _)⟩
  case round =>
    obtain ⟨kk, hkk, hg, rfl, BW, A⟩ := hrel
    by_cases hlt : kk < n
    · have hltz : (kk : Int) < (n : Int) := by omega
      obtain ⟨l0, l1, l2, l3, l4, l5, l6, l7, l8, l9, l10, l11, l12, l13⟩ := hL wr BW.out kk hlt
      have hcall := hC wr BW.out kk hlt
      clear hL hC
      generalize hq : eqs (ss kk) x = r at hcall
      have Q : Aside (eqs (ss kk) x = r) := hq
      clear hq
      cases r with
      | true =>
        go_wp2_with fail
        refine hcall.mono ?_
        rintro e w' ⟨rfl, hb'⟩
        go_wp2
        go_ret
        exact ⟨⟨_, rfl, fun _ => ⟨kk, hlt, Q.out⟩, fun _ => by omega⟩, hb'⟩
      | false =>
        go_wp2_with fail
        refine hcall.mono ?_
        rintro e w' ⟨rfl, hb'⟩
        go_wp2
        go_roundg (n - (kk + 1))
        case measure => omega
        case rel =>
          refine ⟨kk + 1, by omega, by omega, by go_num, hb', (show Aside _ from fun j hj => ?_)⟩
          by_cases e : j = kk
          · subst e
            exact Q.out
          · exact A.out j (by omega)
    · have hltz : ¬ (kk : Int) < (n : Int) := by omega
      have : kk = n := by omega
      subst this
      clear hL hC
      go_wp2
      go_ret
      refine ⟨⟨-1, rfl, fun h => absurd h (by decide), fun ⟨i, hi, hq⟩ => ?_⟩, BW.out⟩
      rw [A.out i hi] at hq
      cases hq

/-- x is among the first n names. -/
def memB (ss : Nat → ByteArray) (n : Nat) (x : ByteArray) : Bool := (List.range n).any fun i => eqs (ss i) x

theorem memB_iff (ss : Nat → ByteArray) (n : Nat) (x : ByteArray) : memB ss n x = true ↔ ∃ i, i < n ∧ eqs (ss i) x = true := by
  unfold memB
  rw [List.any_eq_true]
  constructor
  · rintro ⟨i, hi, h⟩; exact ⟨i, List.mem_range.1 hi, h⟩
  · rintro ⟨i, hi, h⟩; exact ⟨i, List.mem_range.2 hi, h⟩

set_option maxHeartbeats 400000 in
theorem contains_any (B n c FB : Nat) (ss : Nat → ByteArray) (x : ByteArray) (w : World) (hn : n ≤ 1000000) (hE : ∀ i, i < n → ClsAt w B i (ss i)) (h0 : w.cell? ⟨FB, 0, none⟩ = some (.string x)) :
    Calls Try.prog 12 #[.slice (some ⟨B, 0, none⟩) n c, .func (.func 13) #[] #[.pointer (some ⟨FB, 0, none⟩)]] w fun e w' => e = .returned (.bool (memB ss n x)) ∧ Below w.heap.size w w' := by
  have hI := index_any B n c FB ss x w hn hE h0
  clear hE h0
  go_enter Try.func12, Try.ntmps12
  go_wp2_with fail
  refine hI.mono ?_
  rintro e w' ⟨⟨r, rfl, hr⟩, hb⟩
  have HR : Aside (decide (0 ≤ r) = memB ss n x) := by
    show decide (0 ≤ r) = memB ss n x
    rw [Bool.eq_iff_iff, memB_iff, decide_eq_true_eq]; exact hr
  clear hr hI
  go_wp2
  go_ret
  exact ⟨by rw [← HR.out]; rfl, hb⟩

set_option maxHeartbeats 400000 in
theorem has_any (B n c : Nat) (ss : Nat → ByteArray) (x : ByteArray) (w : World) (hn : n ≤ 1000000) (hE : ∀ i, i < n → ClsAt w B i (ss i)) :
    Calls Try.prog 11 #[.slice (some ⟨B, 0, none⟩) n c, .string x] w fun e w' => e = .returned (.bool (memB ss n x)) ∧ Below w.heap.size w w' := by
  have hb0 : Below w.heap.size w (w.alloc (.cells #[.string x] 9)) := (Below.refl _ _).alloc (Nat.le_refl _) _
  have hI := contains_any B n c w.heap.size ss x (w.alloc (.cells #[.string x] 9)) hn (fun i hi => (hE i hi).later hb0) (by rw [World.cell?_alloc_at _ _ _ _ rfl]; rfl)
  clear hE
  go_enter Try.func11, Try.ntmps11
  go_wp2_with fail
  refine hI.mono ?_
  rintro e w' ⟨rfl, hb⟩
  clear hI
  go_wp2
  go_ret
  exact ⟨rfl, hb0.trans (hb.mono (by simp))⟩

/-- A fund of which the classes alone are set. -/
abbrev fund (v : Value) : Value := .agg #[.string ⟨#[]⟩, .string ⟨#[]⟩, .int .i32 0, .int .i64 0, .int .i64 0, .int .i64 0, v, .slice none 0 0, .string ⟨#[]⟩, .string ⟨#[]⟩, .string ⟨#[]⟩, .int .i64 0, .slice none 0 0]

set_option maxHeartbeats 400000 in
theorem hasClass_any (B n c : Nat) (ss : Nat → ByteArray) (x : ByteArray) (w : World) (hn : n ≤ 1000000) (hE : ∀ i, i < n → ClsAt w B i (ss i)) :
    Calls Try.prog 9 #[fund (.slice (some ⟨B, 0, none⟩) n c), .string x] w fun e w' => e = .returned (.bool (memB ss n x)) ∧ Below w.heap.size w w' := by
  have hI : ∀ W, Below w.heap.size w W → Calls Try.prog 11 #[.slice (some ⟨B, 0, none⟩) n c, .string x] W fun e w' => e = .returned (.bool (memB ss n x)) ∧ Below w.heap.size w w' := fun W hb =>
    (has_any B n c ss x W hn (fun i hi => (hE i hi).later hb)).mono fun e w' ⟨h1, h2⟩ => ⟨h1, hb.trans (h2.mono hb.size)⟩
  clear hE
  go_enter Try.func9, Try.ntmps9
  go_wp2_with fail
  refine (hI _ ((Below.refl _ _).alloc (Nat.le_refl _) _)).mono ?_
  rintro e w' ⟨rfl, hb⟩
  clear hI
  go_wp2
  go_ret
  exact ⟨rfl, hb⟩
end Go.Proofs.Qxb6618489a
