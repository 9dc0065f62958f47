/- FnHasClassIsMembershipAtAnyCutAndOrder: an empty list; a cut out of range; the law at every input. -/
import Derived.Test.Qxb6618489aMember
namespace Go.Proofs.Qxb6618489a
open Go.RowKit

set_option maxRecDepth 100000 in
set_option maxHeartbeats 1000000 in
theorem member_nil (x : ByteArray) (ss : Nat → ByteArray) (w : World) (hx : x.size ≤ maxLen) :
    Calls Try.prog 3 #[.slice none 0 0, .string x, .int .i64 0] w fun e w' => e = .returned (.bool true) ∧ Below w.heap.size w w' := by
  have hA := bytesM_none none 0 x 0 w hx
  have hT := fun t => add_none none 0 t w
  have hW := cont_any none 0 0 x ss w (Nat.zero_le _) (.inl rfl)
  have m0 : memB ss 0 x = false := rfl
  rw [m0] at hW
  unfold maxLen at hx
  obtain ⟨A, hA', hmk0⟩ := make_str 0 0 (Nat.le_refl _) (by omega)
  have hmk : ∀ w : World, (Instr.makeSlice 22 (.int .i64 0) (.int .i64 0)).run Try.prog w = .ok (.slice (some ⟨w.heap.size, 0, none⟩) 0 0) (w.alloc (.cells A 9)) := hmk0
  clear hmk0
  go_enter Try.func3, Try.ntmps3
  go_wp2_with fail
  refine hA.mono ?_
  rintro e w' ⟨⟨r, rfl⟩, hw⟩
  obtain rfl := hw
  clear hA
  cases r
  · clear hT hW
    go_wp2
    go_ret
    exact ⟨rfl, Below.refl _ _⟩
  by_cases hxig : (1048576 : Int) < (x.size : Int)
  · clear hT hW
    go_wp2
    go_ret
    exact ⟨rfl, Below.refl _ _⟩
  go_wp2_with fail
  refine (hT _).mono ?_
  rintro e w' ⟨⟨z, rfl⟩, hw⟩
  obtain rfl := hw
  clear hT
  by_cases hz : 1048576 < z
  · clear hW
    go_wp2
    go_ret
    exact ⟨rfl, Below.refl _ _⟩
  go_wp2_with fail
  refine hW.mono ?_
  rintro e w' ⟨rfl, hw⟩
  obtain rfl := hw
  clear hW
  go_wp2_with fail
  refine wp_loop_rounds 1 ?_
  rw [rounds_succ]
  have b0 : Aside (Below w'.heap.size w' (w'.alloc (.cells A 9))) := (Below.refl _ _).alloc (Nat.le_refl _) _
  go_wp2_with fail
  refine (fund_any _ 0 _ ss _ (by omega) (.inl rfl)).mono ?_
  rintro e wa ⟨⟨Bf, rfl, hE⟩, hb⟩
  have hH := hasClass_any Bf 0 0 ss x wa (by omega) hE
  have bf : Below w'.heap.size w' wa := b0.out.trans (hb.mono b0.out.size)
  clear hE hb
  go_wp2_with fail
  refine hH.mono ?_
  clear hH
  rintro e wb ⟨rfl, hb⟩
  have B1 : Aside (Below w'.heap.size w' wb) := bf.trans (hb.mono bf.size)
  clear hb bf
  go_wp2_with fail
  refine (fund_any _ 0 _ ss _ (by omega) (.inl rfl)).mono ?_
  rintro e wc ⟨⟨Bf, rfl, hE⟩, hb⟩
  have hH := hasClass_any Bf 0 0 ss x wc (by omega) hE
  have bf : Below w'.heap.size w' wc := B1.out.trans (hb.mono B1.out.size)
  clear hE hb
  go_wp2_with fail
  refine hH.mono ?_
  clear hH
  rintro e wd ⟨rfl, hb⟩
  have B2 : Aside (Below w'.heap.size w' wd) := bf.trans (hb.mono bf.size)
  clear hb bf
  go_wp2_with fail
  refine (fund_any _ 0 _ ss _ (by omega) (.inl rfl)).mono ?_
  rintro e we ⟨⟨Bf, rfl, hE⟩, hb⟩
  have hH := hasClass_any Bf 0 0 ss x we (by omega) hE
  have bf : Below w'.heap.size w' we := B2.out.trans (hb.mono B2.out.size)
  clear hE hb
  go_wp2_with fail
  refine hH.mono ?_
  clear hH
  rintro e wf ⟨rfl, hb⟩
  have B3 : Aside (Below w'.heap.size w' wf) := bf.trans (hb.mono bf.size)
  clear hb bf
  go_wp2_with fail
  refine (fund_any _ 0 _ ss _ (by omega) (.inl rfl)).mono ?_
  rintro e wg ⟨⟨Bf, rfl, hE⟩, hb⟩
  have hH := hasClass_any Bf 0 0 ss x wg (by omega) hE
  have bf : Below w'.heap.size w' wg := B3.out.trans (hb.mono B3.out.size)
  clear hE hb
  go_wp2_with fail
  refine hH.mono ?_
  clear hH
  rintro e wh ⟨rfl, hb⟩
  have B4 : Aside (Below w'.heap.size w' wh) := bf.trans (hb.mono bf.size)
  clear hb bf
  go_wp2
  go_ret
  exact ⟨rfl, B4.out⟩

set_option maxRecDepth 100000 in
set_option maxHeartbeats 1000000 in
theorem member_empty (a : Addr) (c : Nat) (x : ByteArray) (ss : Nat → ByteArray) (w : World) (hx : x.size ≤ maxLen) :
    Calls Try.prog 3 #[.slice (some a) 0 c, .string x, .int .i64 0] w fun e w' => e = .returned (.bool true) ∧ Below w.heap.size w w' := by
  have hA := bytesM_none (some a) c x 0 w hx
  have hT := fun t => add_none (some a) c t w
  have hW := cont_any (some a) 0 c x ss w (Nat.zero_le _) (.inl rfl)
  have m0 : memB ss 0 x = false := rfl
  rw [m0] at hW
  unfold maxLen at hx
  obtain ⟨A, hA', hmk0⟩ := make_str 0 0 (Nat.le_refl _) (by omega)
  have hmk : ∀ w : World, (Instr.makeSlice 22 (.int .i64 0) (.int .i64 0)).run Try.prog w = .ok (.slice (some ⟨w.heap.size, 0, none⟩) 0 0) (w.alloc (.cells A 9)) := hmk0
  clear hmk0
  go_enter Try.func3, Try.ntmps3
  go_wp2_with fail
  refine hA.mono ?_
  rintro e w' ⟨⟨r, rfl⟩, hw⟩
  obtain rfl := hw
  clear hA
  cases r
  · clear hT hW
    go_wp2
    go_ret
    exact ⟨rfl, Below.refl _ _⟩
  by_cases hxig : (1048576 : Int) < (x.size : Int)
  · clear hT hW
    go_wp2
    go_ret
    exact ⟨rfl, Below.refl _ _⟩
  go_wp2_with fail
  refine (hT _).mono ?_
  rintro e w' ⟨⟨z, rfl⟩, hw⟩
  obtain rfl := hw
  clear hT
  by_cases hz : 1048576 < z
  · clear hW
    go_wp2
    go_ret
    exact ⟨rfl, Below.refl _ _⟩
  go_wp2_with fail
  refine hW.mono ?_
  rintro e w' ⟨rfl, hw⟩
  obtain rfl := hw
  clear hW
  go_wp2_with fail
  refine wp_loop_rounds 1 ?_
  rw [rounds_succ]
  have b0 : Aside (Below w'.heap.size w' (w'.alloc (.cells A 9))) := (Below.refl _ _).alloc (Nat.le_refl _) _
  go_wp2_with fail
  refine (fund_any _ 0 _ ss _ (by omega) (.inl rfl)).mono ?_
  rintro e wa ⟨⟨Bf, rfl, hE⟩, hb⟩
  have hH := hasClass_any Bf 0 0 ss x wa (by omega) hE
  have bf : Below w'.heap.size w' wa := b0.out.trans (hb.mono b0.out.size)
  clear hE hb
  go_wp2_with fail
  refine hH.mono ?_
  clear hH
  rintro e wb ⟨rfl, hb⟩
  have B1 : Aside (Below w'.heap.size w' wb) := bf.trans (hb.mono bf.size)
  clear hb bf
  go_wp2_with fail
  refine (fund_any _ 0 _ ss _ (by omega) (.inl rfl)).mono ?_
  rintro e wc ⟨⟨Bf, rfl, hE⟩, hb⟩
  have hH := hasClass_any Bf 0 0 ss x wc (by omega) hE
  have bf : Below w'.heap.size w' wc := B1.out.trans (hb.mono B1.out.size)
  clear hE hb
  go_wp2_with fail
  refine hH.mono ?_
  clear hH
  rintro e wd ⟨rfl, hb⟩
  have B2 : Aside (Below w'.heap.size w' wd) := bf.trans (hb.mono bf.size)
  clear hb bf
  go_wp2_with fail
  refine (fund_any _ 0 _ ss _ (by omega) (.inl rfl)).mono ?_
  rintro e we ⟨⟨Bf, rfl, hE⟩, hb⟩
  have hH := hasClass_any Bf 0 0 ss x we (by omega) hE
  have bf : Below w'.heap.size w' we := B2.out.trans (hb.mono B2.out.size)
  clear hE hb
  go_wp2_with fail
  refine hH.mono ?_
  clear hH
  rintro e wf ⟨rfl, hb⟩
  have B3 : Aside (Below w'.heap.size w' wf) := bf.trans (hb.mono bf.size)
  clear hb bf
  go_wp2_with fail
  refine (fund_any _ 0 _ ss _ (by omega) (.inl rfl)).mono ?_
  rintro e wg ⟨⟨Bf, rfl, hE⟩, hb⟩
  have hH := hasClass_any Bf 0 0 ss x wg (by omega) hE
  have bf : Below w'.heap.size w' wg := B3.out.trans (hb.mono B3.out.size)
  clear hE hb
  go_wp2_with fail
  refine hH.mono ?_
  clear hH
  rintro e wh ⟨rfl, hb⟩
  have B4 : Aside (Below w'.heap.size w' wh) := bf.trans (hb.mono bf.size)
  clear hb bf
  go_wp2
  go_ret
  exact ⟨rfl, B4.out⟩

set_option maxHeartbeats 1000000 in
theorem member_out (ao : Option Addr) (n c : Nat) (x : ByteArray) (i : Int) (ss : Nat → ByteArray) (w : World) (hn : n ≤ maxLen) (hx : x.size ≤ maxLen) (hR : StrsAt w ao n ss) (hS : ∀ i, i < n → (ss i).size ≤ maxLen) (hout : i < 0 ∨ (0 ≤ i ∧ (n : Int) < i)) :
    Calls Try.prog 3 #[.slice ao n c, .string x, .int .i64 i] w fun e w' => e = .returned (.bool true) ∧ Below w.heap.size w w' := by
  have hA := bytesM_any ao n c x i ss w hn hx hR hS
  have hT := fun t => add_any ao n c t ss w hn hR hS
  clear hR hS
  unfold maxLen at hn hx
  go_enter Try.func3, Try.ntmps3
  go_wp2_with fail
  refine hA.mono ?_
  rintro e w' ⟨⟨r, rfl⟩, hw⟩
  obtain rfl := hw
  clear hA
  cases r
  · clear hT hout
    go_wp2
    go_ret
    exact ⟨rfl, Below.refl _ _⟩
  by_cases hbig : (65536 : Int) < (n : Int)
  · clear hT hout
    go_wp2
    go_ret
    exact ⟨rfl, Below.refl _ _⟩
  by_cases hxig : (1048576 : Int) < (x.size : Int)
  · clear hT hout
    go_wp2
    go_ret
    exact ⟨rfl, Below.refl _ _⟩
  go_wp2_with fail
  refine (hT _).mono ?_
  rintro e w' ⟨⟨z, rfl⟩, hw⟩
  obtain rfl := hw
  clear hT
  by_cases hz : 1048576 < z
  · clear hout
    go_wp2
    go_ret
    exact ⟨rfl, Below.refl _ _⟩
  rcases hout with h | ⟨h, h'⟩
  all_goals
    go_wp2
    go_ret
    exact ⟨rfl, Below.refl _ _⟩
end Go.Proofs.Qxb6618489a
