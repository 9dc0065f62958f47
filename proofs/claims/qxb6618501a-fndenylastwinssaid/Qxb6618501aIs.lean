/- zzDecisionIs: it answers true where the decision is what it is asked for. -/
import Derived.Test.Qxb6618501aDecision
import Derived.Deep.Cut
namespace Go.Proofs.Qxb6618501a
open Go.RowKit

/-- The rules' results and the two lists of strings that they are held against. -/
def RulesAt (w : World) (ruo a6o a7o : Option Addr) (n : Nat) (s6 s7 : Nat → ByteArray) : Prop :=
  n = 0 ∨ ∃ B b6 o6 b7 o7, ruo = some ⟨B, 0, none⟩ ∧ a6o = some ⟨b6, o6, none⟩ ∧ a7o = some ⟨b7, o7, none⟩ ∧ ∀ i, i < n → RuleAt w B i (s6 i) (s7 i) ∧ w.cell? ⟨b6, o6 + i, none⟩ = some (.string (s6 i)) ∧ w.cell? ⟨b7, o7 + i, none⟩ = some (.string (s7 i))

theorem RulesAt.later {w w' : World} {ruo a6o a7o : Option Addr} {n : Nat} {s6 s7 : Nat → ByteArray} (h : RulesAt w ruo a6o a7o n s6 s7) (hb : Below w.heap.size w w') : RulesAt w' ruo a6o a7o n s6 s7 := by
  rcases h with h | ⟨B, b6, o6, b7, o7, h1, h2, h3, h4⟩
  · exact .inl h
  · exact .inr ⟨B, b6, o6, b7, o7, h1, h2, h3, fun i hi => ⟨(h4 i hi).1.later hb, (hb.cell (p := ⟨b6, o6 + i, none⟩) (World.block_lt_of_cell? _ _ (h4 i hi).2.1)).trans (h4 i hi).2.1, (hb.cell (p := ⟨b7, o7 + i, none⟩) (World.block_lt_of_cell? _ _ (h4 i hi).2.2)).trans (h4 i hi).2.2⟩⟩

set_option maxRecDepth 100000 in
set_option maxHeartbeats 4000000 in
theorem is_any (al : Bool) (r d k : ByteArray) (prA mtA ruo a6o a7o : Option Addr) (prn prc mtn mtc n rc c6 c7 : Nat) (sp sm s6 s7 : Nat → ByteArray) (w : World) (hpn : prn ≤ maxLen) (hmn : mtn ≤ maxLen) (hn : n ≤ maxLen)
    (hp : StrsAt w prA prn sp) (hm : StrsAt w mtA mtn sm) (hiso : ruo.isNone = a6o.isNone) (hru : RulesAt w ruo a6o a7o n s6 s7) :
    Calls Try.prog 11 #[dec al r d k (.slice prA prn prc) (.slice mtA mtn mtc) (.slice ruo n rc), .bool al, .string r, .string d, .string k, .slice prA prn prc, .slice mtA mtn mtc, .slice a6o n c6, .slice a7o n c7] w fun e w' => e = .returned (.bool true) ∧ Below w.heap.size w w' := by
  have hS1 := fun W (hb : Below w.heap.size w W) => same_any prA prn prc sp W hpn (hp.later hb)
  have hS2 := fun W (hb : Below w.heap.size w W) => same_any mtA mtn mtc sm W hmn (hm.later hb)
  have q1 := fun W => Lib.run_eql_slice_nil (P := Try.prog) W 30 42 ruo n rc 0 0 Try.underlying30
  have q2 := fun W => Lib.run_eql_slice_nil (P := Try.prog) W 22 9 a6o n c6 0 0 Try.underlying22
  have q3 := fun W => run_neq_slice_nil_any (P := Try.prog) W 22 9 none 0 0 0 0 Try.underlying22
  simp only [Option.isNone_none, Bool.not_true] at q3
  rw [hiso] at q1
  generalize a6o.isNone = iso at q1 q2
  have HRU : Aside (RulesAt w ruo a6o a7o n s6 s7) := hru
  clear hp hm hiso hru
  unfold maxLen at hpn hmn hn
  go_enter Try.func11, Try.ntmps11
  go_wp2_with fail
  have hb0 : Below w.heap.size w ((w.alloc (.cells (decA al r d k (.slice prA prn prc) (.slice mtA mtn mtc) (.slice ruo n rc)) 32)).alloc (.cells #[.string ⟨#[]⟩, .string k, .slice prA prn prc, .int .i64 0, .int .i64 0, .slice none 0 0, .string ⟨#[]⟩, .slice none 0 0] 29)) := ((Below.refl _ _).alloc (Nat.le_refl _) _).alloc (by simp) _
  refine (hS1 _ hb0).mono ?_
  rintro e w1 ⟨rfl, hb⟩
  have hsz := hb.size
  simp at hsz
  have hb1 : Below w.heap.size w w1 := hb0.trans (hb.mono (by simp; omega))
  have gt := fun j => (hb.cell (p := ⟨w.heap.size + 1, j, none⟩) (by simp)).trans (World.cell?_alloc_at _ _ _ j (by simp))
  have gd := fun j => ((hb.cell (p := ⟨w.heap.size, j, none⟩) (by simp; omega)).trans (World.cell?_alloc_lt _ _ _ (by simp))).trans (World.cell?_alloc_at _ _ _ j rfl)
  have t3 := gt 3
  have t4 := gt 4
  have t5 := gt 5
  have t6 := gt 6
  have t7 := gt 7
  have d11 := gd 11
  have d12 := gd 12
  simp only [List.getElem?_toArray, List.getElem?_cons_zero, List.getElem?_cons_succ] at t3 t4 t5 t6 t7 d11 d12
  clear gt gd hb hb0 hS1
  go_wp2_with fail
  refine (hS2 _ hb1).mono ?_
  rintro e w2 ⟨rfl, hb⟩
  have d12' : w2.cell? ⟨w.heap.size, 12, none⟩ = some (.slice ruo n rc) := (hb.cell (p := ⟨w.heap.size, 12, none⟩) (by show w.heap.size < _; omega)).trans d12
  have hb2 : Below w.heap.size w w2 := hb1.trans (hb.mono hb1.size)
  have hsz2 : w.heap.size < w2.heap.size := by have := hb.size; omega
  clear t3 t4 t5 t6 t7 d11 d12 hb hb1 hS2 hsz
  go_wp2_with fail
  clear q1 q2 q3
  go_loopg [20] n (fun gg s20 wr => ∃ kk : Nat, kk ≤ n ∧ n - kk ≤ gg ∧ s20 = .int .i64 kk ∧ Aside (Below w2.heap.size w2 wr))
  case atStart => exact ⟨0, Nat.zero_le _, by omega, rfl, Below.refl _ w2⟩
  case round =>
    obtain ⟨kk, hkk, hg, rfl, BW⟩ := hrel
    by_cases hlt : kk < n
    · have hltz : (kk : Int) < (n : Int) := by omega
      rcases HRU.out.later (hb2.trans (BW.out.mono hb2.size)) with h0 | ⟨B, b6, o6, b7, o7, e1, e2, e3, hc⟩
      · omega
      subst e1 e2 e3
      obtain ⟨⟨u0, u1, u2⟩, l6, l7⟩ := hc kk hlt
      have dd : wr.cell? ⟨w.heap.size, 12, none⟩ = some (.slice (some ⟨B, 0, none⟩) n rc) := (BW.out.cell (p := ⟨w.heap.size, 12, none⟩) hsz2).trans d12'
      clear hc d12'
      go_wp2
      go_quiet (fail)
      go_wp2
      go_roundg (n - (kk + 1))
      case measure => omega
      case rel => exact ⟨kk + 1, by omega, by omega, by go_num, below_drewN BW.out _⟩
    · have hltz : ¬ (kk : Int) < (n : Int) := by omega
      go_wp2
      go_ret
      exact ⟨rfl, hb2.trans (BW.out.mono hb2.size)⟩

/-- zzDecision, for every list of rules. -/
theorem decision_all (al : Bool) (r d k : ByteArray) (prA mtA : Option Addr) (prn prc mtn mtc : Nat) (a6o a7o : Option Addr) (n c6 c7 : Nat) (s6 s7 : Nat → ByteArray) (w : World) (hn : n ≤ 1048576) (h0 : a6o = none → n = 0 ∧ c6 = 0) (h6 : StrsAt w a6o n s6) (h7 : StrsAt w a7o n s7) :
    Calls Try.prog 9 #[.bool al, .string r, .string d, .string k, .slice prA prn prc, .slice mtA mtn mtc, .slice a6o n c6, .slice a7o n c7] w fun e w' =>
      (∃ ruo rc, e = .returned (dec al r d k (.slice prA prn prc) (.slice mtA mtn mtc) (.slice ruo n rc)) ∧ ruo.isNone = a6o.isNone ∧ RulesAt w' ruo a6o a7o n s6 s7) ∧ Below w.heap.size w w' := by
  cases a6o with
  | none =>
    obtain ⟨rfl, rfl⟩ := h0 rfl
    exact (decision_nil al r d k prA mtA prn prc mtn mtc a7o c7 w).mono fun e w' ⟨he, hb⟩ => ⟨⟨none, 0, he, rfl, .inl rfl⟩, hb⟩
  | some a6 =>
    by_cases hz : n = 0
    · subst hz
      exact (decision_zero al r d k prA mtA prn prc mtn mtc a6 c6 a7o c7 s6 s7 w).mono fun e w' ⟨⟨B, he, _⟩, hb⟩ => ⟨⟨some ⟨B, 0, none⟩, 0, he, rfl, .inl rfl⟩, hb⟩
    · rcases h6 with h | ⟨b6, o6, e6, h6⟩
      · exact absurd h hz
      rcases h7 with h | ⟨b7, o7, e7, h7⟩
      · exact absurd h hz
      have e6' : a6 = ⟨b6, o6, none⟩ := by simpa using e6
      subst e6' e7
      have l6 := World.block_lt_of_cell? _ _ (h6 0 (by omega)).1
      have l7 := World.block_lt_of_cell? _ _ (h7 0 (by omega)).1
      refine (decision_some al r d k prA mtA prn prc mtn mtc b6 o6 n c6 b7 o7 c7 s6 s7 w hn l6 l7 (fun i hi => (h6 i hi).1) (fun i hi => (h7 i hi).1)).mono fun e w' ⟨⟨B, he, hR⟩, hb⟩ => ⟨⟨some ⟨B, 0, none⟩, n, he, rfl, .inr ⟨B, b6, o6, b7, o7, rfl, rfl, rfl, fun i hi => ⟨hR i hi, ?_, ?_⟩⟩⟩, hb⟩
      · exact (hb.cell (p := ⟨b6, o6 + i, none⟩) l6).trans (h6 i hi).1
      · exact (hb.cell (p := ⟨b7, o7 + i, none⟩) l7).trans (h7 i hi).1

end Go.Proofs.Qxb6618501a
