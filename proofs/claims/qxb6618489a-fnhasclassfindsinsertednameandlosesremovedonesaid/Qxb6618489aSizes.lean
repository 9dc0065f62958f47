/- The tests on sizes; zzContains. -/
import Derived.Test.Qxb6618489aFund
namespace Go.Proofs.Qxb6618489a
open Go.RowKit

/-- The call returns a bool. -/
def IsBool (e : Ending) : Prop := ∃ r : Bool, e = .returned (.bool r)
theorem isBool (r : Bool) : IsBool (.returned (.bool r)) := ⟨r, rfl⟩
/-- The call returns an int. -/
def IsInt (e : Ending) : Prop := ∃ r : Int, e = .returned (.int .i64 r)
theorem isInt (r : Int) : IsInt (.returned (.int .i64 r)) := ⟨r, rfl⟩

set_option maxRecDepth 100000 in
set_option maxHeartbeats 1000000 in
theorem bytesM_some (b off n c : Nat) (x : ByteArray) (i : Int) (ss : Nat → ByteArray) (w : World) (hn : n ≤ maxLen) (hx : x.size ≤ maxLen) (hR : ∀ i, i < n → w.cell? ⟨b, off + i, none⟩ = some (.string (ss i)) ∧ (ss i).size ≤ maxLen) :
    Calls Try.prog 5 #[.slice (some ⟨b, off, none⟩) n c, .string x, .int .i64 i] w fun e w' => IsBool e ∧ w' = w := by
  unfold maxLen at hn hx
  by_cases hbig : 1048576 < n
  · have : (1048576 : Int) < (n : Int) := by omega
    clear hR
    go_enter Try.func5, Try.ntmps5
    go_wp2
    go_ret
    exact ⟨isBool _, rfl⟩
  have hb1 : ¬ (1048576 : Int) < (n : Int) := by omega
  go_enter Try.func5, Try.ntmps5
  go_wp2
  go_loop [7, 8] (fun z i => ∃ (k : Nat) (y : Int), k ≤ n ∧ 0 ≤ y ∧ y ≤ 1048576 ∧ i = .int .i64 k ∧ z = .int .i64 y) (fun _ i => n - (intOf i).toNat)
  case atStart => exact ⟨0, n, Nat.zero_le _, by omega, by omega, rfl, rfl⟩
  case round =>
    obtain ⟨k, y, hk, hy0, hy1, rfl, rfl⟩ := hrel
    by_cases hlt : k < n
    · have hltz : (k : Int) < (n : Int) := by omega
      obtain ⟨l0, m0⟩ := hR k hlt
      clear hR
      unfold maxLen at m0
      go_wp2
      all_goals first
        | (go_ret; exact ⟨isBool _, rfl⟩)
        | (go_round
           case rel => exact ⟨k + 1, _, by omega, by omega, by omega, by go_num, rfl⟩
           case measure => simp [intOf]; omega)
    · have hltz : ¬ (k : Int) < (n : Int) := by omega
      clear hR
      go_wp2
      all_goals (go_ret; exact ⟨isBool _, rfl⟩)

set_option maxHeartbeats 400000 in
theorem bytesM_none (ao : Option Addr) (c : Nat) (x : ByteArray) (i : Int) (w : World) (hx : x.size ≤ maxLen) :
    Calls Try.prog 5 #[.slice ao 0 c, .string x, .int .i64 i] w fun e w' => IsBool e ∧ w' = w := by
  unfold maxLen at hx
  go_enter Try.func5, Try.ntmps5
  go_wp2
  refine wp_loop_rounds 1 ?_
  rw [rounds_succ]
  go_wp2
  all_goals (go_ret; exact ⟨isBool _, rfl⟩)

theorem bytesM_any (ao : Option Addr) (n c : Nat) (x : ByteArray) (i : Int) (ss : Nat → ByteArray) (w : World) (hn : n ≤ maxLen) (hx : x.size ≤ maxLen) (hR : StrsAt w ao n ss) (hS : ∀ i, i < n → (ss i).size ≤ maxLen) :
    Calls Try.prog 5 #[.slice ao n c, .string x, .int .i64 i] w fun e w' => IsBool e ∧ w' = w := by
  by_cases h0 : n = 0
  · subst h0; exact bytesM_none ao c x i w hx
  rcases hR with h | ⟨b, off, rfl, hc⟩
  · exact absurd h h0
  · exact bytesM_some b off n c x i ss w hn hx (fun i hi => ⟨hc i hi, hS i hi⟩)

set_option maxRecDepth 100000 in
set_option maxHeartbeats 1000000 in
theorem bytesF_some (b off n c : Nat) (x : ByteArray) (i : Int) (ss : Nat → ByteArray) (w : World) (hn : n ≤ maxLen) (hx : x.size ≤ maxLen) (hR : ∀ i, i < n → w.cell? ⟨b, off + i, none⟩ = some (.string (ss i)) ∧ (ss i).size ≤ maxLen) :
    Calls Try.prog 10 #[.slice (some ⟨b, off, none⟩) n c, .string x, .int .i64 i] w fun e w' => IsBool e ∧ w' = w := by
  unfold maxLen at hn hx
  by_cases hbig : 1048576 < n
  · have : (1048576 : Int) < (n : Int) := by omega
    clear hR
    go_enter Try.func10, Try.ntmps10
    go_wp2
    go_ret
    exact ⟨isBool _, rfl⟩
  have hb1 : ¬ (1048576 : Int) < (n : Int) := by omega
  go_enter Try.func10, Try.ntmps10
  go_wp2
  go_loop [7, 8] (fun z i => ∃ (k : Nat) (y : Int), k ≤ n ∧ 0 ≤ y ∧ y ≤ 1048576 ∧ i = .int .i64 k ∧ z = .int .i64 y) (fun _ i => n - (intOf i).toNat)
  case atStart => exact ⟨0, n, Nat.zero_le _, by omega, by omega, rfl, rfl⟩
  case round =>
    obtain ⟨k, y, hk, hy0, hy1, rfl, rfl⟩ := hrel
    by_cases hlt : k < n
    · have hltz : (k : Int) < (n : Int) := by omega
      obtain ⟨l0, m0⟩ := hR k hlt
      clear hR
      unfold maxLen at m0
      go_wp2
      all_goals first
        | (go_ret; exact ⟨isBool _, rfl⟩)
        | (go_round
           case rel => exact ⟨k + 1, _, by omega, by omega, by omega, by go_num, rfl⟩
           case measure => simp [intOf]; omega)
    · have hltz : ¬ (k : Int) < (n : Int) := by omega
      clear hR
      go_wp2
      all_goals (go_ret; exact ⟨isBool _, rfl⟩)

set_option maxHeartbeats 400000 in
theorem bytesF_none (ao : Option Addr) (c : Nat) (x : ByteArray) (i : Int) (w : World) (hx : x.size ≤ maxLen) :
    Calls Try.prog 10 #[.slice ao 0 c, .string x, .int .i64 i] w fun e w' => IsBool e ∧ w' = w := by
  unfold maxLen at hx
  go_enter Try.func10, Try.ntmps10
  go_wp2
  refine wp_loop_rounds 1 ?_
  rw [rounds_succ]
  go_wp2
  all_goals (go_ret; exact ⟨isBool _, rfl⟩)

theorem bytesF_any (ao : Option Addr) (n c : Nat) (x : ByteArray) (i : Int) (ss : Nat → ByteArray) (w : World) (hn : n ≤ maxLen) (hx : x.size ≤ maxLen) (hR : StrsAt w ao n ss) (hS : ∀ i, i < n → (ss i).size ≤ maxLen) :
    Calls Try.prog 10 #[.slice ao n c, .string x, .int .i64 i] w fun e w' => IsBool e ∧ w' = w := by
  by_cases h0 : n = 0
  · subst h0; exact bytesF_none ao c x i w hx
  rcases hR with h | ⟨b, off, rfl, hc⟩
  · exact absurd h h0
  · exact bytesF_some b off n c x i ss w hn hx (fun i hi => ⟨hc i hi, hS i hi⟩)

set_option maxRecDepth 100000 in
set_option maxHeartbeats 1000000 in
theorem add_some (b off n c : Nat) (t : Int) (ss : Nat → ByteArray) (w : World) (hn : n ≤ maxLen) (hR : ∀ i, i < n → w.cell? ⟨b, off + i, none⟩ = some (.string (ss i)) ∧ (ss i).size ≤ maxLen) :
    Calls Try.prog 6 #[.int .i64 t, .slice (some ⟨b, off, none⟩) n c] w fun e w' => IsInt e ∧ w' = w := by
  unfold maxLen at hn
  go_enter Try.func6, Try.ntmps6
  go_wp2
  go_loop [0, 5] (fun z i => ∃ (k : Nat) (y : Int), k ≤ n ∧ i = .int .i64 k ∧ z = .int .i64 y) (fun _ i => n - (intOf i).toNat)
  case atStart => exact ⟨0, t, Nat.zero_le _, rfl, rfl⟩
  case round =>
    obtain ⟨k, y, hk, rfl, rfl⟩ := hrel
    by_cases hlt : k < n
    · have hltz : (k : Int) < (n : Int) := by omega
      obtain ⟨l0, m0⟩ := hR k hlt
      clear hR
      unfold maxLen at m0
      go_wp2
      all_goals first
        | (go_ret; exact ⟨isInt _, rfl⟩)
        | (go_round
           case rel => exact ⟨k + 1, _, by omega, by go_num, rfl⟩
           case measure => simp [intOf]; omega)
    · have hltz : ¬ (k : Int) < (n : Int) := by omega
      clear hR
      go_wp2
      go_ret
      exact ⟨isInt _, rfl⟩

set_option maxHeartbeats 400000 in
theorem add_none (ao : Option Addr) (c : Nat) (t : Int) (w : World) :
    Calls Try.prog 6 #[.int .i64 t, .slice ao 0 c] w fun e w' => IsInt e ∧ w' = w := by
  go_enter Try.func6, Try.ntmps6
  go_wp2
  refine wp_loop_rounds 1 ?_
  rw [rounds_succ]
  go_wp2
  go_ret
  exact ⟨isInt _, rfl⟩

theorem add_any (ao : Option Addr) (n c : Nat) (t : Int) (ss : Nat → ByteArray) (w : World) (hn : n ≤ maxLen) (hR : StrsAt w ao n ss) (hS : ∀ i, i < n → (ss i).size ≤ maxLen) :
    Calls Try.prog 6 #[.int .i64 t, .slice ao n c] w fun e w' => IsInt e ∧ w' = w := by
  by_cases h0 : n = 0
  · subst h0; exact add_none ao c t w
  rcases hR with h | ⟨b, off, rfl, hc⟩
  · exact absurd h h0
  · exact add_some b off n c t ss w hn (fun i hi => ⟨hc i hi, hS i hi⟩)

/-- What zzContains answers. -/
def HasPost (ss : Nat → ByteArray) (n : Nat) (x : ByteArray) (e : Ending) : Prop := e = .returned (.bool (memB ss n x))
theorem hasYes {ss : Nat → ByteArray} {n k : Nat} {x : ByteArray} (hk : k < n) (h : eqs (ss k) x = true) : HasPost ss n x (.returned (.bool true)) := by
  unfold HasPost; rw [(memB_iff ss n x).2 ⟨k, hk, h⟩]
theorem hasNo {ss : Nat → ByteArray} {n : Nat} {x : ByteArray} (h : ∀ k, k < n → eqs (ss k) x = false) : HasPost ss n x (.returned (.bool false)) := by
  unfold HasPost
  have : memB ss n x = false := by
    cases hm : memB ss n x
    · rfl
    · obtain ⟨k, hk, hq⟩ := (memB_iff ss n x).1 hm
      rw [h k hk] at hq; cases hq
  rw [this]

set_option maxRecDepth 100000 in
set_option maxHeartbeats 1000000 in
theorem cont_some (b off n c : Nat) (x : ByteArray) (ss : Nat → ByteArray) (w : World) (hn : n ≤ maxLen) (hR : ∀ i, i < n → w.cell? ⟨b, off + i, none⟩ = some (.string (ss i))) :
    Calls Try.prog 7 #[.slice (some ⟨b, off, none⟩) n c, .string x] w fun e w' => HasPost ss n x e ∧ w' = w := by
  unfold maxLen at hn
  go_enter Try.func7, Try.ntmps7
  go_wp2
  go_loop [5] (fun i => ∃ (k : Nat), k ≤ n ∧ i = .int .i64 k ∧ Hid (∀ j, j < k → eqs (ss j) x = false)) (fun i => n - (intOf i).toNat)
  case atStart => exact ⟨0, Nat.zero_le _, rfl, fun j hj => absurd hj (Nat.not_lt_zero _)⟩
  case round =>
    obtain ⟨k, hk, rfl, HK⟩ := hrel
    by_cases hlt : k < n
    · have hltz : (k : Int) < (n : Int) := by omega
      have l0 := hR k hlt
      clear hR
      by_cases hq : (ss k).toList = x.toList
      · have HQ : Hid (eqs (ss k) x = true) := by show eqs (ss k) x = true; simp [eqs, hq]
        have hq' : ((ss k).toList == x.toList) = true := by simp [hq]
        clear hq
        go_wp2
        go_ret
        exact ⟨hasYes hlt HQ.out, rfl⟩
      · have HQ : Hid (eqs (ss k) x = false) := by show eqs (ss k) x = false; simp [eqs, hq]
        have hq' : ((ss k).toList == x.toList) = false := by simp [hq]
        clear hq
        go_wp2
        go_round
        case rel =>
          refine ⟨k + 1, by omega, by go_num, fun j hj => ?_⟩
          by_cases e : j = k
          · subst e; exact HQ.out
          · exact HK.out j (by omega)
        case measure => simp [intOf]; omega
    · have hltz : ¬ (k : Int) < (n : Int) := by omega
      obtain rfl : k = n := by omega
      clear hR
      go_wp2
      go_ret
      exact ⟨hasNo HK.out, rfl⟩

set_option maxHeartbeats 400000 in
theorem cont_none (ao : Option Addr) (c : Nat) (x : ByteArray) (ss : Nat → ByteArray) (w : World) :
    Calls Try.prog 7 #[.slice ao 0 c, .string x] w fun e w' => HasPost ss 0 x e ∧ w' = w := by
  go_enter Try.func7, Try.ntmps7
  go_wp2
  refine wp_loop_rounds 1 ?_
  rw [rounds_succ]
  go_wp2
  go_ret
  exact ⟨hasNo (fun k hk => absurd hk (Nat.not_lt_zero _)), rfl⟩

theorem cont_any (ao : Option Addr) (n c : Nat) (x : ByteArray) (ss : Nat → ByteArray) (w : World) (hn : n ≤ maxLen) (hR : StrsAt w ao n ss) :
    Calls Try.prog 7 #[.slice ao n c, .string x] w fun e w' => e = .returned (.bool (memB ss n x)) ∧ w' = w := by
  by_cases h0 : n = 0
  · subst h0; exact cont_none ao c x ss w
  rcases hR with h | ⟨b, off, rfl, hc⟩
  · exact absurd h h0
  · exact cont_some b off n c x ss w hn hc
end Go.Proofs.Qxb6618489a
