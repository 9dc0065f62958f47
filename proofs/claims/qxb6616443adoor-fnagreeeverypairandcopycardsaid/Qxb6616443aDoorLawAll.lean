/- The law at every input: an empty list; a place out of range; the rest by 'law_main'. -/
import Derived.Test.Qxb6616443aDoorLaw
namespace Go.Proofs.Qxb6616443aDoor
open Go.RowKit

set_option maxHeartbeats 400000 in
theorem bytes_none (ao : Option Addr) (c : Nat) (i j : Int) (w : World) :
    Calls Tryd.prog 4 #[.slice ao 0 c, .int .i64 i, .int .i64 j] w fun e w' => e = .returned (.bool true) ∧ w' = w := by
  go_enter Tryd.func4, Tryd.ntmps4
  go_wp2
  refine wp_loop_rounds 1 ?_
  rw [rounds_succ]
  go_wp2
  go_ret
  exact ⟨rfl, rfl⟩

set_option maxHeartbeats 400000 in
theorem tooBig_none (ao : Option Addr) (c : Nat) (w : World) :
    Calls Tryd.prog 5 #[.slice ao 0 c] w fun e w' => e = .returned (.bool false) ∧ w' = w := by
  go_enter Tryd.func5, Tryd.ntmps5
  go_wp2
  refine wp_loop_rounds 1 ?_
  rw [rounds_succ]
  go_wp2
  go_ret
  exact ⟨rfl, rfl⟩

set_option maxHeartbeats 400000 in
theorem law_none (ao : Option Addr) (c : Nat) (i j : Int) (w : World) :
    Calls Tryd.prog 3 #[.slice ao 0 c, .int .i64 i, .int .i64 j] w fun e w' => e = .returned (.bool true) ∧ Below w.heap.size w w' := by
  have hA := bytes_none ao c i j w
  have hT := tooBig_none ao c w
  by_cases h : i < 0
  · go_enter Tryd.func3, Tryd.ntmps3
    go_wp2_with fail
    refine hA.mono ?_
    rintro e w' ⟨rfl, hw⟩
    subst hw
    go_wp2_with fail
    refine hT.mono ?_
    rintro e w' ⟨rfl, hw⟩
    subst hw
    clear hA hT
    go_wp2
    go_ret
    exact ⟨rfl, Below.refl _ _⟩
  · have h' : (0 : Int) ≤ i := by omega
    go_enter Tryd.func3, Tryd.ntmps3
    go_wp2_with fail
    refine hA.mono ?_
    rintro e w' ⟨rfl, hw⟩
    subst hw
    go_wp2_with fail
    refine hT.mono ?_
    rintro e w' ⟨rfl, hw⟩
    subst hw
    clear hA hT
    go_wp2
    go_ret
    exact ⟨rfl, Below.refl _ _⟩

set_option maxHeartbeats 1000000 in
theorem law_out (b off n c : Nat) (i j : Int) (R : Nat → RowD) (w : World) (hn : n ≤ maxLen) (hout : i < 0 ∨ (0 ≤ i ∧ (n : Int) ≤ i) ∨ (0 ≤ i ∧ i < n ∧ j < 0) ∨ (0 ≤ i ∧ i < n ∧ 0 ≤ j ∧ (n : Int) ≤ j))
    (hR : ∀ i, i < n → RowAt w b off i (R i) ∧ (R i).Fits) :
    Calls Tryd.prog 3 #[.slice (some ⟨b, off, none⟩) n c, .int .i64 i, .int .i64 j] w fun e w' => e = .returned (.bool true) ∧ Below w.heap.size w w' := by
  have hA := bytes_any b off n c i j R w hn hR
  have hT := fun h => tooBig_any b off n c R w hn (fun i hi => (hR i hi).1) h
  clear hR
  unfold maxLen at hn
  go_enter Tryd.func3, Tryd.ntmps3
  go_wp2_with fail
  refine hA.mono ?_
  clear hA
  rintro e w' ⟨hp, hw⟩
  subst hw
  rcases hp with rfl | ⟨rfl, hS⟩
  · clear hT hout
    go_wp2
    go_ret
    exact ⟨rfl, Below.refl _ _⟩
  go_wp2_with fail
  refine (hT hS).mono ?_
  clear hT hS
  rintro e w1 ⟨hp, b1⟩
  rcases hp with rfl | ⟨rfl, hn1⟩
  · clear hout
    go_wp2
    go_ret
    exact ⟨rfl, b1⟩
  rcases hout with h | ⟨h, h'⟩ | ⟨h, h', h''⟩ | ⟨h, h', h'', h'''⟩
  all_goals
    go_wp2
    go_ret
    exact ⟨rfl, b1⟩
end Go.Proofs.Qxb6616443aDoor
