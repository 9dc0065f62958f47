/- The law FnDenyUndo. -/
import Derived.Test.Qxb6618501aIs
namespace Go.Proofs.Qxb6618501a
open Go.RowKit

set_option maxRecDepth 100000 in
set_option maxHeartbeats 8000000 in
theorem undo_any (al : Bool) (s1 s2 s3 t0 t1 : ByteArray) (ao1 ao2 ao3 ao4 : Option Addr) (n1 c1 n2 c2 n3 c3 n4 c4 : Nat) (ss1 ss2 ss3 ss4 : Nat → ByteArray) (w : World) (hn1 : n1 ≤ maxLen) (hR1 : StrsAt w ao1 n1 ss1) (hn2 : n2 ≤ maxLen) (hR2 : StrsAt w ao2 n2 ss2) (hn3 : n3 ≤ maxLen) (hR3 : StrsAt w ao3 n3 ss3) (hn4 : n4 ≤ maxLen) (hR4 : StrsAt w ao4 n4 ss4) (h0 : ao3 = none → n3 = 0 ∧ c3 = 0) (hs1 : s1.size ≤ maxLen) (hs2 : s2.size ≤ maxLen) (hs3 : s3.size ≤ maxLen) (ht0 : t0.size ≤ maxLen) (ht1 : t1.size ≤ maxLen) :
    Calls Try.prog 4 #[.bool al, .string s1, .string s2, .string s3, .slice ao1 n1 c1, .slice ao2 n2 c2, .slice ao3 n3 c3, .slice ao4 n4 c4, .string t0, .string t1] w fun e w' => e = .returned (.bool true) ∧ Below w.heap.size w w' := by
  have hBy := bytesU al s1 s2 s3 t0 t1 ao1 ao2 ao3 ao4 n1 c1 n2 c2 n3 c3 n4 c4 ss1 ss2 ss3 ss4 w hn1 hR1 hn2 hR2 hn3 hR3 hn4 hR4 hs1 hs2 hs3 ht0 ht1
  have hF1 := fun t => strsFit_any t ao1 n1 c1 ss1 w hn1 hR1
  have hF2 := fun t => strsFit_any t ao2 n2 c2 ss2 w hn2 hR2
  have hF3 := fun t => strsFit_any t ao3 n3 c3 ss3 w hn3 hR3
  have hF4 := fun t => strsFit_any t ao4 n4 c4 ss4 w hn4 hR4
  have hD := fun (hle : n3 ≤ 1048576) (h4 : StrsAt w ao4 n3 ss4) => decision_all al s1 s2 s3 ao1 ao2 n1 c1 n2 c2 ao3 ao4 n3 c3 c4 ss3 ss4 w hle h0 hR3 h4
  have H1 : Aside (StrsAt w ao1 n1 ss1) := hR1
  have H2 : Aside (StrsAt w ao2 n2 ss2) := hR2
  have H4 : Aside (StrsAt w ao4 n4 ss4) := hR4
  clear hR1 hR2 hR3 hR4 h0 hs1 hs2 hs3 ht0 ht1
  go_enter Try.func4, Try.ntmps4
  go_wp2_with fail
  refine hBy.mono ?_
  clear hBy
  rintro e w' ⟨hp, hw⟩
  subst w'
  rcases hp with rfl | ⟨rfl, hle⟩
  · go_wp2_with fail
    go_ret
    exact ⟨rfl, Below.refl _ _⟩
  go_wp2_with fail
  refine (strFit_any _ s1 w).mono ?_
  rintro e w' ⟨⟨z1, b1, rfl⟩, hw⟩
  subst w'
  cases b1
  · go_wp2_with fail
    go_ret
    exact ⟨rfl, Below.refl _ _⟩
  go_wp2_with fail
  refine (strFit_any _ s2 w).mono ?_
  rintro e w' ⟨⟨z2, b2, rfl⟩, hw⟩
  subst w'
  cases b2
  · go_wp2_with fail
    go_ret
    exact ⟨rfl, Below.refl _ _⟩
  go_wp2_with fail
  refine (strFit_any _ s3 w).mono ?_
  rintro e w' ⟨⟨z3, b3, rfl⟩, hw⟩
  subst w'
  cases b3
  · go_wp2_with fail
    go_ret
    exact ⟨rfl, Below.refl _ _⟩
  go_wp2_with fail
  refine (hF1 _).mono ?_
  rintro e w' ⟨⟨z4, b4, rfl⟩, hw⟩
  subst w'
  cases b4
  · go_wp2_with fail
    go_ret
    exact ⟨rfl, Below.refl _ _⟩
  go_wp2_with fail
  refine (hF2 _).mono ?_
  rintro e w' ⟨⟨z5, b5, rfl⟩, hw⟩
  subst w'
  cases b5
  · go_wp2_with fail
    go_ret
    exact ⟨rfl, Below.refl _ _⟩
  go_wp2_with fail
  refine (hF3 _).mono ?_
  rintro e w' ⟨⟨z6, b6, rfl⟩, hw⟩
  subst w'
  cases b6
  · go_wp2_with fail
    go_ret
    exact ⟨rfl, Below.refl _ _⟩
  go_wp2_with fail
  refine (hF4 _).mono ?_
  rintro e w' ⟨⟨z7, b7, rfl⟩, hw⟩
  subst w'
  cases b7
  · go_wp2_with fail
    go_ret
    exact ⟨rfl, Below.refl _ _⟩
  go_wp2_with fail
  refine (strFit_any _ t0 w).mono ?_
  rintro e w' ⟨⟨z8, b8, rfl⟩, hw⟩
  subst w'
  cases b8
  · go_wp2_with fail
    go_ret
    exact ⟨rfl, Below.refl _ _⟩
  go_wp2_with fail
  refine (strFit_any _ t1 w).mono ?_
  rintro e w' ⟨⟨z9, b9, rfl⟩, hw⟩
  subst w'
  cases b9
  · go_wp2_with fail
    go_ret
    exact ⟨rfl, Below.refl _ _⟩
  by_cases h43 : n4 = n3
  case neg =>
    have hq : ((n4 : Int) != (n3 : Int)) = true := by simp; omega
    go_wp2_with fail
    go_ret
    exact ⟨rfl, Below.refl _ _⟩
  subst h43
  go_wp2_with fail
  refine (hD hle H4.out).mono ?_
  rintro e w1 ⟨⟨ruo, rc, rfl, hiso, hru⟩, hb1⟩
  have HRU : Aside (RulesAt w1 ruo ao3 ao4 n4 ss3 ss4) := hru
  have hDe := fun r d r' d' W => zzdeny_any al r d s3 ao1 ao2 ruo n1 c1 n2 c2 n4 rc r' d' W
  have hIs := fun r d W (hb : Below w1.heap.size w1 W) => is_any al r d s3 ao1 ao2 ruo ao3 ao4 n1 c1 n2 c2 n4 rc c3 c4 ss1 ss2 ss3 ss4 W hn1 hn2 hn4 (H1.out.later (hb1.trans (hb.mono hb1.size))) (H2.out.later (hb1.trans (hb.mono hb1.size))) hiso (HRU.out.later hb)
  clear hru hiso hD hF1 hF2 hF3 hF4
  go_wp2_with fail
  refine (hDe _ _ _ _ _).mono ?_
  rintro e w2 ⟨rfl, hb2⟩
  have D2 : DecAt w2 w1.heap.size al s1 s2 s3 (.slice ao1 n1 c1) (.slice ao2 n2 c2) (.slice ruo n4 rc) := (DecAt.new w1 al s1 s2 s3 (.slice ao1 n1 c1) (.slice ao2 n2 c2) (.slice ruo n4 rc)).later hb2
  have hb2' : Below w1.heap.size w1 w2 := ((Below.refl _ _).alloc (Nat.le_refl _) _).trans (hb2.mono (by simp))
  clear hb2
  go_wp2_with fail
  refine (hDe _ _ _ _ _).mono ?_
  rintro e w3 ⟨rfl, hb3⟩
  have D3 : DecAt w3 w1.heap.size al s1 s2 s3 (.slice ao1 n1 c1) (.slice ao2 n2 c2) (.slice ruo n4 rc) := (D2.later ((Below.refl _ _).alloc (Nat.le_refl _) _)).later hb3
  have E3 : DecAt w3 w2.heap.size al t0 t1 s3 (.slice ao1 n1 c1) (.slice ao2 n2 c2) (.slice ruo n4 rc) := (DecAt.new w2 al t0 t1 s3 (.slice ao1 n1 c1) (.slice ao2 n2 c2) (.slice ruo n4 rc)).later hb3
  have hb3' : Below w1.heap.size w1 w3 := hb2'.trans (((Below.refl _ _).alloc (Nat.le_refl _) _).trans (hb3.mono (by simp)) |>.mono hb2'.size)
  have hl3 : w2.heap.size < w3.heap.size := World.block_lt_of_cell? _ _ E3.1
  clear hb3 hb2' D2
  obtain ⟨g0, g1, g2, g3, g4, g5, g6, g7, g8, g9, g10, g11, g12⟩ := E3
  go_wp2_with fail
  have hb3a : Below w1.heap.size w1 (w3.alloc (.cells (decA al s1 s2 s3 (.slice ao1 n1 c1) (.slice ao2 n2 c2) (.slice ruo n4 rc)) 32)) := hb3'.alloc hb3'.size _
  refine (hIs _ _ _ hb3a).mono ?_
  rintro e w4 ⟨rfl, hb4⟩
  clear g0 g1 g2 g3 g4 g5 g6 g7 g8 g9 g10 g11 g12
  have D4 : DecAt w4 w1.heap.size al s1 s2 s3 (.slice ao1 n1 c1) (.slice ao2 n2 c2) (.slice ruo n4 rc) := (D3.later ((Below.refl _ _).alloc (Nat.le_refl _) _)).later hb4
  obtain ⟨g0, g1, g2, g3, g4, g5, g6, g7, g8, g9, g10, g11, g12⟩ := (DecAt.new w3 al s1 s2 s3 (.slice ao1 n1 c1) (.slice ao2 n2 c2) (.slice ruo n4 rc)).later hb4
  have hb4' : Below w1.heap.size w1 w4 := hb3a.trans (hb4.mono hb3a.size)
  clear hb4 hb3a hb3' hl3
  go_wp2_with fail
  refine (hIs _ _ _ hb4').mono ?_
  rintro e w5 ⟨rfl, hb5⟩
  clear g0 g1 g2 g3 g4 g5 g6 g7 g8 g9 g10 g11 g12
  obtain ⟨g0, g1, g2, g3, g4, g5, g6, g7, g8, g9, g10, g11, g12⟩ := D4.later hb5
  have hb5' : Below w1.heap.size w1 w5 := hb4'.trans (hb5.mono hb4'.size)
  clear hb5 hb4' D4 D3
  go_wp2_with fail
  refine (hIs _ _ _ hb5').mono ?_
  rintro e w6 ⟨rfl, hb6⟩
  clear g0 g1 g2 g3 g4 g5 g6 g7 g8 g9 g10 g11 g12
  have hb6' : Below w1.heap.size w1 w6 := hb5'.trans (hb6.mono hb5'.size)
  go_wp2_with fail
  go_ret
  exact ⟨rfl, hb1.trans (hb6'.mono hb1.size)⟩
end Go.Proofs.Qxb6618501a
