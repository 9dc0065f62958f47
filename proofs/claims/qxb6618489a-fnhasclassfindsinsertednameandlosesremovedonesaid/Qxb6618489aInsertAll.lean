/- FnHasClassFindsInsertedNameAndLosesRemovedOne: an empty list; a place out of range. -/
import Derived.Test.Qxb6618489aInsert
namespace Go.Proofs.Qxb6618489a
open Go.RowKit

theorem Try.make01 (w : World) : (Instr.makeSlice 22 (.int .i64 0) (.int .i64 1)).run Try.prog w = .ok (.slice (some ⟨w.heap.size, 0, none⟩) 0 1) (w.alloc (.cells #[.string ⟨#[]⟩] 9)) := by kernel_rfl
theorem Try.make00 (w : World) : (Instr.makeSlice 22 (.int .i64 0) (.int .i64 0)).run Try.prog w = .ok (.slice (some ⟨w.heap.size, 0, none⟩) 0 0) (w.alloc (.cells #[] 9)) := by kernel_rfl

set_option maxRecDepth 100000 in
set_option maxHeartbeats 1000000 in
theorem insert_nil (x : ByteArray) (ss : Nat → ByteArray) (w : World) (hx : x.size ≤ maxLen) :
    Calls Try.prog 4 #[.slice none 0 0, .string x, .int .i64 0] w fun e w' => e = .returned (.bool true) ∧ Below w.heap.size w w' := by
  have hA := bytesF_none none 0 x 0 w hx
  have hT := fun t => add_none none 0 t w
  unfold maxLen at hx
  have hmk := Try.make01
  have hmk2 := Try.make00
  go_enter Try.func4, Try.ntmps4
  go_wp2_with fail
  refine hA.mono ?_
  rintro e w' ⟨⟨r, rfl⟩, hw⟩
  obtain rfl := hw
  clear hA
  cases r
  · clear hT
    go_wp2
    go_ret
    exact ⟨rfl, Below.refl _ _⟩
  by_cases hxig : (1048576 : Int) < (x.size : Int)
  · clear hT
    go_wp2
    go_ret
    exact ⟨rfl, Below.refl _ _⟩
  go_wp2_with fail
  refine (hT _).mono ?_
  rintro e w' ⟨⟨z, rfl⟩, hw⟩
  obtain rfl := hw
  clear hT
  by_cases hz : 1048576 < z
  · go_wp2
    go_ret
    exact ⟨rfl, Below.refl _ _⟩
  go_wp2_with fail
  refine wp_loop_rounds 1 ?_
  rw [rounds_succ]
  go_wp2_with fail
  have E : Aside (StrsAt (((w'.alloc (.cells #[.string x] 9)).alloc (.cells #[.string x] 9)).alloc (.cells #[] 9)) (some ⟨w'.heap.size, 0, none⟩) 1 (fun _ => x)) := .inr ⟨w'.heap.size, 0, rfl, fun k hk => by
    obtain rfl : k = 0 := by omega
    rw [World.cell?_alloc_lt _ _ _ (by simp; omega), World.cell?_alloc_lt _ _ _ (by simp), World.cell?_alloc_at _ _ _ _ rfl]; rfl⟩
  have b0 : Aside (Below w'.heap.size w' (((w'.alloc (.cells #[.string x] 9)).alloc (.cells #[.string x] 9)).alloc (.cells #[] 9))) := (((Below.refl _ _).alloc (Nat.le_refl _) _).alloc (by simp) _).alloc (by simp; omega) _
  generalize (((w'.alloc (.cells #[.string x] 9)).alloc (.cells #[.string x] 9)).alloc (.cells #[] 9)) = w1 at *
  have m1 : memB (fun _ => x) 1 x = true := by simp [memB, eqs]
  have m0 : memB ss 0 x = false := rfl
  refine (fund_any (some ⟨w'.heap.size, 0, none⟩) 1 1 (fun _ => x) w1 (by omega) E.out).mono ?_
  rintro e wa ⟨⟨Bf, rfl, hE⟩, hb⟩
  have hH := hasClass_any Bf 1 1 (fun _ => x) x wa (by omega) hE
  have bf : Below w'.heap.size w' wa := b0.out.trans (hb.mono b0.out.size)
  clear hE hb
  go_wp2_with fail
  refine hH.mono ?_
  clear hH
  rintro e wb ⟨rfl, hb⟩
  have B1 : Aside (Below w'.heap.size w' wb) := bf.trans (hb.mono bf.size)
  clear hb bf
  rw [m1]
  go_wp2_with fail
  refine (fund_any _ 0 _ ss wb (by omega) (.inl rfl)).mono ?_
  rintro e wc ⟨⟨Bf, rfl, hE⟩, hb⟩
  have hH := hasClass_any Bf 0 0 ss x wc (by omega) hE
  have bf : Below w'.heap.size w' wc := B1.out.trans (hb.mono B1.out.size)
  clear hE hb
  go_wp2_with fail
  refine hH.mono ?_
  clear hH
  rintro e wd ⟨rfl, hb⟩
  have B2 : Aside (Below w'.heap.size w' wd) := bf.trans (hb.mono bf.size)
  clear hb bf
  rw [m0]
  go_wp2_with fail
  refine (fund_any _ 0 _ ss wd (by omega) (.inl rfl)).mono ?_
  rintro e we ⟨⟨Bf, rfl, hE⟩, hb⟩
  have hH := hasClass_any Bf 0 0 ss x we (by omega) hE
  have bf : Below w'.heap.size w' we := B2.out.trans (hb.mono B2.out.size)
  clear hE hb
  go_wp2_with fail
  refine hH.mono ?_
  clear hH
  rintro e wf ⟨rfl, hb⟩
  have B3 : Aside (Below w'.heap.size w' wf) := bf.trans (hb.mono bf.size)
  clear hb bf
  rw [m0]
  go_wp2
  go_ret
  exact ⟨rfl, B3.out⟩

set_option maxRecDepth 100000 in
set_option maxHeartbeats 1000000 in
theorem insert_empty (a : Addr) (c : Nat) (x : ByteArray) (ss : Nat → ByteArray) (w : World) (hx : x.size ≤ maxLen) :
    Calls Try.prog 4 #[.slice (some a) 0 c, .string x, .int .i64 0] w fun e w' => e = .returned (.bool true) ∧ Below w.heap.size w w' := by
  have hA := bytesF_none (some a) c x 0 w hx
  have hT := fun t => add_none (some a) c t w
  unfold maxLen at hx
  have hmk := Try.make01
  have hmk2 := Try.make00
  go_enter Try.func4, Try.ntmps4
  go_wp2_with fail
  refine hA.mono ?_
  rintro e w' ⟨⟨r, rfl⟩, hw⟩
  obtain rfl := hw
  clear hA
  cases r
  · clear hT
    go_wp2
    go_ret
    exact ⟨rfl, Below.refl _ _⟩
  by_cases hxig : (1048576 : Int) < (x.size : Int)
  · clear hT
    go_wp2
    go_ret
    exact ⟨rfl, Below.refl _ _⟩
  go_wp2_with fail
  refine (hT _).mono ?_
  rintro e w' ⟨⟨z, rfl⟩, hw⟩
  obtain rfl := hw
  clear hT
  by_cases hz : 1048576 < z
  · go_wp2
    go_ret
    exact ⟨rfl, Below.refl _ _⟩
  go_wp2_with fail
  refine wp_loop_rounds 1 ?_
  rw [rounds_succ]
  go_wp2_with fail
  have E : Aside (StrsAt (((w'.alloc (.cells #[.string x] 9)).alloc (.cells #[.string x] 9)).alloc (.cells #[] 9)) (some ⟨w'.heap.size, 0, none⟩) 1 (fun _ => x)) := .inr ⟨w'.heap.size, 0, rfl, fun k hk => by
    obtain rfl : k = 0 := by omega
    rw [World.cell?_alloc_lt _ _ _ (by simp; omega), World.cell?_alloc_lt _ _ _ (by simp), World.cell?_alloc_at _ _ _ _ rfl]; rfl⟩
  have b0 : Aside (Below w'.heap.size w' (((w'.alloc (.cells #[.string x] 9)).alloc (.cells #[.string x] 9)).alloc (.cells #[] 9))) := (((Below.refl _ _).alloc (Nat.le_refl _) _).alloc (by simp) _).alloc (by simp; omega) _
  generalize (((w'.alloc (.cells #[.string x] 9)).alloc (.cells #[.string x] 9)).alloc (.cells #[] 9)) = w1 at *
  have m1 : memB (fun _ => x) 1 x = true := by simp [memB, eqs]
  have m0 : memB ss 0 x = false := rfl
  refine (fund_any (some ⟨w'.heap.size, 0, none⟩) 1 1 (fun _ => x) w1 (by omega) E.out).mono ?_
  rintro e wa ⟨⟨Bf, rfl, hE⟩, hb⟩
  have hH := hasClass_any Bf 1 1 (fun _ => x) x wa (by omega) hE
  have bf : Below w'.heap.size w' wa := b0.out.trans (hb.mono b0.out.size)
  clear hE hb
  go_wp2_with fail
  refine hH.mono ?_
  clear hH
  rintro e wb ⟨rfl, hb⟩
  have B1 : Aside (Below w'.heap.size w' wb) := bf.trans (hb.mono bf.size)
  clear hb bf
  rw [m1]
  go_wp2_with fail
  refine (fund_any _ 0 _ ss wb (by omega) (.inl rfl)).mono ?_
  rintro e wc ⟨⟨Bf, rfl, hE⟩, hb⟩
  have hH := hasClass_any Bf 0 0 ss x wc (by omega) hE
  have bf : Below w'.heap.size w' wc := B1.out.trans (hb.mono B1.out.size)
  clear hE hb
  go_wp2_with fail
  refine hH.mono ?_
  clear hH
  rintro e wd ⟨rfl, hb⟩
  have B2 : Aside (Below w'.heap.size w' wd) := bf.trans (hb.mono bf.size)
  clear hb bf
  rw [m0]
  go_wp2_with fail
  refine (fund_any _ 0 _ ss wd (by omega) (.inl rfl)).mono ?_
  rintro e we ⟨⟨Bf, rfl, hE⟩, hb⟩
  have hH := hasClass_any Bf 0 0 ss x we (by omega) hE
  have bf : Below w'.heap.size w' we := B2.out.trans (hb.mono B2.out.size)
  clear hE hb
  go_wp2_with fail
  refine hH.mono ?_
  clear hH
  rintro e wf ⟨rfl, hb⟩
  have B3 : Aside (Below w'.heap.size w' wf) := bf.trans (hb.mono bf.size)
  clear hb bf
  rw [m0]
  go_wp2
  go_ret
  exact ⟨rfl, B3.out⟩

set_option maxHeartbeats 1000000 in
theorem insert_out (ao : Option Addr) (n c : Nat) (x : ByteArray) (i : Int) (ss : Nat → ByteArray) (w : World) (hn : n ≤ maxLen) (hx : x.size ≤ maxLen) (hR : StrsAt w ao n ss) (hS : ∀ i, i < n → (ss i).size ≤ maxLen) (hout : i < 0 ∨ (0 ≤ i ∧ (n : Int) < i)) :
    Calls Try.prog 4 #[.slice ao n c, .string x, .int .i64 i] w fun e w' => e = .returned (.bool true) ∧ Below w.heap.size w w' := by
  have hA := bytesF_any ao n c x i ss w hn hx hR hS
  have hT := fun t => add_any ao n c t ss w hn hR hS
  clear hR hS
  unfold maxLen at hn hx
  go_enter Try.func4, Try.ntmps4
  go_wp2_with fail
  refine hA.mono ?_
  rintro e w' ⟨⟨r, rfl⟩, hw⟩
  obtain rfl := hw
  clear hA
  cases r
  · clear hT hout
    go_wp2
    go_ret
    exact ⟨rfl, Below.refl _ _⟩
  by_cases hbig : (65536 : Int) < (n : Int)
  · clear hT hout
    go_wp2
    go_ret
    exact ⟨rfl, Below.refl _ _⟩
  by_cases hxig : (1048576 : Int) < (x.size : Int)
  · clear hT hout
    go_wp2
    go_ret
    exact ⟨rfl, Below.refl _ _⟩
  go_wp2_with fail
  refine (hT _).mono ?_
  rintro e w' ⟨⟨z, rfl⟩, hw⟩
  obtain rfl := hw
  clear hT
  by_cases hz : 1048576 < z
  · clear hout
    go_wp2
    go_ret
    exact ⟨rfl, Below.refl _ _⟩
  rcases hout with h | ⟨h, h'⟩
  all_goals
    go_wp2
    go_ret
    exact ⟨rfl, Below.refl _ _⟩
end Go.Proofs.Qxb6618489a
