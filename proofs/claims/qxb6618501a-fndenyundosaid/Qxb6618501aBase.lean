/- The tests on sizes, zzStrFit, zzStrsFit, zzSameStrs. -/
import Derived.Test.Qxb6618501aRows
import Derived.WalkKit
import Derived.WalkSpells
import Derived.WalkLawsBesides
import Derived.Deep.LoopGhost
import Derived.BigQuiet
import Derived.Deep.QuietTactic
namespace Go.Proofs.Qxb6618501a
open Go.RowKit

/-- The strings that lie behind a slice. -/
def StrsAt (w : World) (ao : Option Addr) (n : Nat) (ss : Nat → ByteArray) : Prop := n = 0 ∨ ∃ b off, ao = some ⟨b, off, none⟩ ∧ ∀ i, i < n → w.cell? ⟨b, off + i, none⟩ = some (.string (ss i)) ∧ (ss i).size ≤ maxLen

theorem StrsAt.later {w w' : World} {ao : Option Addr} {n : Nat} {ss : Nat → ByteArray} (h : StrsAt w ao n ss) (hb : Below w.heap.size w w') : StrsAt w' ao n ss := by
  rcases h with h | ⟨b, off, h1, h2⟩
  · exact .inl h
  · exact .inr ⟨b, off, h1, fun i hi => ⟨(hb.cell (p := ⟨b, off + i, none⟩) (World.block_lt_of_cell? _ _ (h2 i hi).1)).trans (h2 i hi).1, (h2 i hi).2⟩⟩

/-- What zzBytes answers. -/
def BytesPost (n : Nat) (e : Ending) : Prop := e = .returned (.bool false) ∨ (e = .returned (.bool true) ∧ n ≤ 1048576)
theorem bytesFalse (n : Nat) : BytesPost n (.returned (.bool false)) := .inl rfl
theorem bytesTrue {n : Nat} (h : n ≤ 1048576) : BytesPost n (.returned (.bool true)) := .inr ⟨rfl, h⟩

/-- The call returns an int and a bool. -/
def IsFit (e : Ending) : Prop := ∃ (z : Int) (b : Bool), e = .returned (.tuple #[.int .i64 z, .bool b])
theorem isFit (z : Int) (b : Bool) : IsFit (.returned (.tuple #[.int .i64 z, .bool b])) := ⟨z, b, rfl⟩

set_option maxHeartbeats 400000 in
theorem strFit_any (t : Int) (s : ByteArray) (w : World) :
    Calls Try.prog 7 #[.int .i64 t, .string s] w fun e w' => IsFit e ∧ w' = w := by
  go_enter Try.func7, Try.ntmps7
  go_wp2
  all_goals (go_ret2; exact ⟨isFit _ _, rfl⟩)

set_option maxRecDepth 100000 in
set_option maxHeartbeats 1000000 in
theorem strsFit_any (t : Int) (ao : Option Addr) (n c : Nat) (ss : Nat → ByteArray) (w : World) (hn : n ≤ maxLen) (hR : StrsAt w ao n ss) :
    Calls Try.prog 8 #[.int .i64 t, .slice ao n c] w fun e w' => IsFit e ∧ w' = w := by
  unfold maxLen at hn
  go_enter Try.func8, Try.ntmps8
  go_wp2
  all_goals try (go_ret2; exact ⟨isFit _ _, rfl⟩)
  go_loop [0, 6] (fun z i => ∃ (k : Nat) (y : Int), k ≤ n ∧ i = .int .i64 k ∧ z = .int .i64 y) (fun _ i => n - (intOf i).toNat)
  case atStart => exact ⟨0, _, Nat.zero_le _, rfl, rfl⟩
  case round =>
    obtain ⟨k, y, hk, rfl, rfl⟩ := hrel
    by_cases hlt : k < n
    · have hltz : (k : Int) < (n : Int) := by omega
      rcases hR with h0 | ⟨b, off, hao, hc⟩
      · omega
      subst hao
      obtain ⟨l0, m0⟩ := hc k hlt
      clear hc
      unfold maxLen at m0
      go_wp2
      all_goals first
        | (go_ret2; exact ⟨isFit _ _, rfl⟩)
        | (go_round
           case rel => exact ⟨k + 1, _, by omega, by go_num, rfl⟩
           case measure => simp [intOf]; omega)
    · have hltz : ¬ (k : Int) < (n : Int) := by omega
      clear hR
      go_wp2
      go_ret2
      exact ⟨isFit _ _, rfl⟩

set_option maxRecDepth 100000 in
set_option maxHeartbeats 1000000 in
/-- A slice is the same as itself. -/
theorem same_any (ao : Option Addr) (n c : Nat) (ss : Nat → ByteArray) (w : World) (hn : n ≤ maxLen) (hR : StrsAt w ao n ss) :
    Calls Try.prog 17 #[.slice ao n c, .slice ao n c] w fun e w' => e = .returned (.bool true) ∧ Below w.heap.size w w' := by
  unfold maxLen at hn
  have hq := fun W => Lib.run_eql_slice_nil (P := Try.prog) W 22 9 ao n c 0 0 Try.underlying22
  have HR : Aside (StrsAt w ao n ss) := hR
  clear hR
  go_enter Try.func17, Try.ntmps17
  go_wp2
  go_loopg [5] n (fun gg s5 wr => ∃ kk : Nat, kk ≤ n ∧ n - kk ≤ gg ∧ s5 = .int .i64 kk ∧ Aside (Below w.heap.size w wr))
  case atStart => exact ⟨0, Nat.zero_le _, by omega, rfl, Below.refl _ w⟩
  case round =>
    obtain ⟨kk, hkk, hg, rfl, BW⟩ := hrel
    clear hq
    by_cases hlt : kk < n
    · have hltz : (kk : Int) < (n : Int) := by omega
      rcases HR.out.later BW.out with h0 | ⟨b, off, hao, hc⟩
      · omega
      subst hao
      obtain ⟨l0, m0⟩ := hc kk hlt
      clear hc
      go_wp2
      go_quiet (fail)
      go_wp2
      go_roundg (n - (kk + 1))
      case measure => omega
      case rel => exact ⟨kk + 1, by omega, by omega, by go_num, below_drewN BW.out _⟩
    · have hltz : ¬ (kk : Int) < (n : Int) := by omega
      go_wp2
      go_ret
      exact ⟨rfl, BW.out⟩

set_option maxRecDepth 100000 in
set_option maxHeartbeats 4000000 in
theorem bytesL (al : Bool) (s1 s2 s3 t0 t1 t2 t3 : ByteArray) (ao1 ao2 ao3 ao4 : Option Addr) (n1 c1 n2 c2 n3 c3 n4 c4 : Nat) (ss1 ss2 ss3 ss4 : Nat → ByteArray) (w : World) (hn1 : n1 ≤ maxLen) (hR1 : StrsAt w ao1 n1 ss1) (hn2 : n2 ≤ maxLen) (hR2 : StrsAt w ao2 n2 ss2) (hn3 : n3 ≤ maxLen) (hR3 : StrsAt w ao3 n3 ss3) (hn4 : n4 ≤ maxLen) (hR4 : StrsAt w ao4 n4 ss4) (hs1 : s1.size ≤ maxLen) (hs2 : s2.size ≤ maxLen) (hs3 : s3.size ≤ maxLen) (ht0 : t0.size ≤ maxLen) (ht1 : t1.size ≤ maxLen) (ht2 : t2.size ≤ maxLen) (ht3 : t3.size ≤ maxLen) :
    Calls Try.prog 6 #[.bool al, .string s1, .string s2, .string s3, .slice ao1 n1 c1, .slice ao2 n2 c2, .slice ao3 n3 c3, .slice ao4 n4 c4, .string t0, .string t1, .string t2, .string t3] w fun e w' => BytesPost n3 e ∧ w' = w := by
  unfold maxLen at hn1 hn2 hn3 hn4 hs1 hs2 hs3 ht0 ht1 ht2 ht3
  go_enter Try.func6, Try.ntmps6
  go_wp2
  all_goals try (go_ret; exact ⟨bytesFalse _, rfl⟩)
  go_loop [25, 26] (fun z i => ∃ (k : Nat) (y : Int), k ≤ n1 ∧ 0 ≤ y ∧ y ≤ 1048576 ∧ i = .int .i64 k ∧ z = .int .i64 y) (fun _ i => n1 - (intOf i).toNat)
  case atStart => exact ⟨0, _, Nat.zero_le _, by omega, by omega, rfl, rfl⟩
  case round =>
    obtain ⟨k1, y1, hk1, hy1, hz1, rfl, rfl⟩ := hrel
    by_cases hlt1 : k1 < n1
    · have hltz : (k1 : Int) < (n1 : Int) := by omega
      rcases hR1 with h0 | ⟨b, off, hao, hc⟩
      · omega
      subst hao
      obtain ⟨l0, m0⟩ := hc k1 hlt1
      clear hc hR2 hR3 hR4
      unfold maxLen at m0
      go_wp2
      all_goals first
        | (go_ret; exact ⟨bytesFalse _, rfl⟩)
        | (go_round
           case rel => exact ⟨k1 + 1, _, by omega, by omega, by omega, by go_num, rfl⟩
           case measure => simp [intOf]; omega)
    have hltz1 : ¬ (k1 : Int) < (n1 : Int) := by omega
    clear hR1
    go_wp2
    all_goals try (go_ret; exact ⟨bytesFalse _, rfl⟩)
    go_loop [25, 27] (fun z i => ∃ (k : Nat) (y : Int), k ≤ n2 ∧ 0 ≤ y ∧ y ≤ 1048576 ∧ i = .int .i64 k ∧ z = .int .i64 y) (fun _ i => n2 - (intOf i).toNat)
    case atStart => exact ⟨0, _, Nat.zero_le _, by omega, by omega, rfl, rfl⟩
    case round =>
      obtain ⟨k2, y2, hk2, hy2, hz2, rfl, rfl⟩ := hrel
      by_cases hlt2 : k2 < n2
      · have hltz : (k2 : Int) < (n2 : Int) := by omega
        rcases hR2 with h0 | ⟨b, off, hao, hc⟩
        · omega
        subst hao
        obtain ⟨l0, m0⟩ := hc k2 hlt2
        clear hc hR3 hR4
        unfold maxLen at m0
        go_wp2
        all_goals first
          | (go_ret; exact ⟨bytesFalse _, rfl⟩)
          | (go_round
             case rel => exact ⟨k2 + 1, _, by omega, by omega, by omega, by go_num, rfl⟩
             case measure => simp [intOf]; omega)
      have hltz2 : ¬ (k2 : Int) < (n2 : Int) := by omega
      clear hR2
      go_wp2
      all_goals try (go_ret; exact ⟨bytesFalse _, rfl⟩)
      go_loop [25, 28] (fun z i => ∃ (k : Nat) (y : Int), k ≤ n3 ∧ 0 ≤ y ∧ y ≤ 1048576 ∧ i = .int .i64 k ∧ z = .int .i64 y) (fun _ i => n3 - (intOf i).toNat)
      case atStart => exact ⟨0, _, Nat.zero_le _, by omega, by omega, rfl, rfl⟩
      case round =>
        obtain ⟨k3, y3, hk3, hy3, hz3, rfl, rfl⟩ := hrel
        by_cases hlt3 : k3 < n3
        · have hltz : (k3 : Int) < (n3 : Int) := by omega
          rcases hR3 with h0 | ⟨b, off, hao, hc⟩
          · omega
          subst hao
          obtain ⟨l0, m0⟩ := hc k3 hlt3
          clear hc hR4
          unfold maxLen at m0
          go_wp2
          all_goals first
            | (go_ret; exact ⟨bytesFalse _, rfl⟩)
            | (go_round
               case rel => exact ⟨k3 + 1, _, by omega, by omega, by omega, by go_num, rfl⟩
               case measure => simp [intOf]; omega)
        have hltz3 : ¬ (k3 : Int) < (n3 : Int) := by omega
        clear hR3
        go_wp2
        all_goals try (go_ret; exact ⟨bytesFalse _, rfl⟩)
        go_loop [25, 29] (fun z i => ∃ (k : Nat) (y : Int), k ≤ n4 ∧ 0 ≤ y ∧ y ≤ 1048576 ∧ i = .int .i64 k ∧ z = .int .i64 y) (fun _ i => n4 - (intOf i).toNat)
        case atStart => exact ⟨0, _, Nat.zero_le _, by omega, by omega, rfl, rfl⟩
        case round =>
          obtain ⟨k4, y4, hk4, hy4, hz4, rfl, rfl⟩ := hrel
          by_cases hlt4 : k4 < n4
          · have hltz : (k4 : Int) < (n4 : Int) := by omega
            rcases hR4 with h0 | ⟨b, off, hao, hc⟩
            · omega
            subst hao
            obtain ⟨l0, m0⟩ := hc k4 hlt4
            clear hc 
            unfold maxLen at m0
            go_wp2
            all_goals first
              | (go_ret; exact ⟨bytesFalse _, rfl⟩)
              | (go_round
                 case rel => exact ⟨k4 + 1, _, by omega, by omega, by omega, by go_num, rfl⟩
                 case measure => simp [intOf]; omega)
          have hltz4 : ¬ (k4 : Int) < (n4 : Int) := by omega
          clear hR4
          go_wp2
          all_goals try (go_ret; exact ⟨bytesFalse _, rfl⟩)
          go_ret
          exact ⟨bytesTrue (by omega), rfl⟩

set_option maxRecDepth 100000 in
set_option maxHeartbeats 4000000 in
theorem bytesU (al : Bool) (s1 s2 s3 t0 t1 : ByteArray) (ao1 ao2 ao3 ao4 : Option Addr) (n1 c1 n2 c2 n3 c3 n4 c4 : Nat) (ss1 ss2 ss3 ss4 : Nat → ByteArray) (w : World) (hn1 : n1 ≤ maxLen) (hR1 : StrsAt w ao1 n1 ss1) (hn2 : n2 ≤ maxLen) (hR2 : StrsAt w ao2 n2 ss2) (hn3 : n3 ≤ maxLen) (hR3 : StrsAt w ao3 n3 ss3) (hn4 : n4 ≤ maxLen) (hR4 : StrsAt w ao4 n4 ss4) (hs1 : s1.size ≤ maxLen) (hs2 : s2.size ≤ maxLen) (hs3 : s3.size ≤ maxLen) (ht0 : t0.size ≤ maxLen) (ht1 : t1.size ≤ maxLen) :
    Calls Try.prog 12 #[.bool al, .string s1, .string s2, .string s3, .slice ao1 n1 c1, .slice ao2 n2 c2, .slice ao3 n3 c3, .slice ao4 n4 c4, .string t0, .string t1] w fun e w' => BytesPost n3 e ∧ w' = w := by
  unfold maxLen at hn1 hn2 hn3 hn4 hs1 hs2 hs3 ht0 ht1
  go_enter Try.func12, Try.ntmps12
  go_wp2
  all_goals try (go_ret; exact ⟨bytesFalse _, rfl⟩)
  go_loop [21, 22] (fun z i => ∃ (k : Nat) (y : Int), k ≤ n1 ∧ 0 ≤ y ∧ y ≤ 1048576 ∧ i = .int .i64 k ∧ z = .int .i64 y) (fun _ i => n1 - (intOf i).toNat)
  case atStart => exact ⟨0, _, Nat.zero_le _, by omega, by omega, rfl, rfl⟩
  case round =>
    obtain ⟨k1, y1, hk1, hy1, hz1, rfl, rfl⟩ := hrel
    by_cases hlt1 : k1 < n1
    · have hltz : (k1 : Int) < (n1 : Int) := by omega
      rcases hR1 with h0 | ⟨b, off, hao, hc⟩
      · omega
      subst hao
      obtain ⟨l0, m0⟩ := hc k1 hlt1
      clear hc hR2 hR3 hR4
      unfold maxLen at m0
      go_wp2
      all_goals first
        | (go_ret; exact ⟨bytesFalse _, rfl⟩)
        | (go_round
           case rel => exact ⟨k1 + 1, _, by omega, by omega, by omega, by go_num, rfl⟩
           case measure => simp [intOf]; omega)
    have hltz1 : ¬ (k1 : Int) < (n1 : Int) := by omega
    clear hR1
    go_wp2
    all_goals try (go_ret; exact ⟨bytesFalse _, rfl⟩)
    go_loop [21, 23] (fun z i => ∃ (k : Nat) (y : Int), k ≤ n2 ∧ 0 ≤ y ∧ y ≤ 1048576 ∧ i = .int .i64 k ∧ z = .int .i64 y) (fun _ i => n2 - (intOf i).toNat)
    case atStart => exact ⟨0, _, Nat.zero_le _, by omega, by omega, rfl, rfl⟩
    case round =>
      obtain ⟨k2, y2, hk2, hy2, hz2, rfl, rfl⟩ := hrel
      by_cases hlt2 : k2 < n2
      · have hltz : (k2 : Int) < (n2 : Int) := by omega
        rcases hR2 with h0 | ⟨b, off, hao, hc⟩
        · omega
        subst hao
        obtain ⟨l0, m0⟩ := hc k2 hlt2
        clear hc hR3 hR4
        unfold maxLen at m0
        go_wp2
        all_goals first
          | (go_ret; exact ⟨bytesFalse _, rfl⟩)
          | (go_round
             case rel => exact ⟨k2 + 1, _, by omega, by omega, by omega, by go_num, rfl⟩
             case measure => simp [intOf]; omega)
      have hltz2 : ¬ (k2 : Int) < (n2 : Int) := by omega
      clear hR2
      go_wp2
      all_goals try (go_ret; exact ⟨bytesFalse _, rfl⟩)
      go_loop [21, 24] (fun z i => ∃ (k : Nat) (y : Int), k ≤ n3 ∧ 0 ≤ y ∧ y ≤ 1048576 ∧ i = .int .i64 k ∧ z = .int .i64 y) (fun _ i => n3 - (intOf i).toNat)
      case atStart => exact ⟨0, _, Nat.zero_le _, by omega, by omega, rfl, rfl⟩
      case round =>
        obtain ⟨k3, y3, hk3, hy3, hz3, rfl, rfl⟩ := hrel
        by_cases hlt3 : k3 < n3
        · have hltz : (k3 : Int) < (n3 : Int) := by omega
          rcases hR3 with h0 | ⟨b, off, hao, hc⟩
          · omega
          subst hao
          obtain ⟨l0, m0⟩ := hc k3 hlt3
          clear hc hR4
          unfold maxLen at m0
          go_wp2
          all_goals first
            | (go_ret; exact ⟨bytesFalse _, rfl⟩)
            | (go_round
               case rel => exact ⟨k3 + 1, _, by omega, by omega, by omega, by go_num, rfl⟩
               case measure => simp [intOf]; omega)
        have hltz3 : ¬ (k3 : Int) < (n3 : Int) := by omega
        clear hR3
        go_wp2
        all_goals try (go_ret; exact ⟨bytesFalse _, rfl⟩)
        go_loop [21, 25] (fun z i => ∃ (k : Nat) (y : Int), k ≤ n4 ∧ 0 ≤ y ∧ y ≤ 1048576 ∧ i = .int .i64 k ∧ z = .int .i64 y) (fun _ i => n4 - (intOf i).toNat)
        case atStart => exact ⟨0, _, Nat.zero_le _, by omega, by omega, rfl, rfl⟩
        case round =>
          obtain ⟨k4, y4, hk4, hy4, hz4, rfl, rfl⟩ := hrel
          by_cases hlt4 : k4 < n4
          · have hltz : (k4 : Int) < (n4 : Int) := by omega
            rcases hR4 with h0 | ⟨b, off, hao, hc⟩
            · omega
            subst hao
            obtain ⟨l0, m0⟩ := hc k4 hlt4
            clear hc 
            unfold maxLen at m0
            go_wp2
            all_goals first
              | (go_ret; exact ⟨bytesFalse _, rfl⟩)
              | (go_round
                 case rel => exact ⟨k4 + 1, _, by omega, by omega, by omega, by go_num, rfl⟩
                 case measure => simp [intOf]; omega)
          have hltz4 : ¬ (k4 : Int) < (n4 : Int) := by omega
          clear hR4
          go_wp2
          all_goals try (go_ret; exact ⟨bytesFalse _, rfl⟩)
          go_ret
          exact ⟨bytesTrue (by omega), rfl⟩
end Go.Proofs.Qxb6618501a
