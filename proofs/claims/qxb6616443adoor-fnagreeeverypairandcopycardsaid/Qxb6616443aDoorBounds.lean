/- The two tests on sizes: zzBytes, rowsTooBig. -/
import Derived.Test.Qxb6616443aDoorResults
namespace Go.Proofs.Qxb6616443aDoor
open Go.RowKit

/-- A row's strings fit in memory. -/
def RowD.Fits (r : RowD) : Prop := r.p.size ≤ maxLen ∧ r.t.size ≤ maxLen ∧ r.v.size ≤ maxLen ∧ r.c.size ≤ maxLen ∧ r.d.size ≤ maxLen

/-- A row's strings are short. -/
def RowD.Small (r : RowD) : Prop := r.p.size ≤ 1048576 ∧ r.t.size ≤ 1048576 ∧ r.v.size ≤ 1048576 ∧ r.c.size ≤ 1048576 ∧ r.d.size ≤ 1048576

/-- What zzBytes answers: false, or true where every string is short. -/
def BytesPost (n : Nat) (R : Nat → RowD) (e : Ending) : Prop := e = .returned (.bool false) ∨ (e = .returned (.bool true) ∧ ∀ i, i < n → (R i).Small)
theorem bytesFalse (n : Nat) (R : Nat → RowD) : BytesPost n R (.returned (.bool false)) := .inl rfl
theorem bytesTrue {n : Nat} {R : Nat → RowD} (h : ∀ i, i < n → (R i).Small) : BytesPost n R (.returned (.bool true)) := .inr ⟨rfl, h⟩

set_option maxRecDepth 100000 in
set_option maxHeartbeats 1000000 in
theorem bytes_any (b off n c : Nat) (i j : Int) (R : Nat → RowD) (w : World) (hn : n ≤ maxLen) (hR : ∀ i, i < n → RowAt w b off i (R i) ∧ (R i).Fits) :
    Calls Tryd.prog 4 #[.slice (some ⟨b, off, none⟩) n c, .int .i64 i, .int .i64 j] w fun e w' => BytesPost n R e ∧ w' = w := by
  unfold maxLen at hn
  by_cases hbig : 1048576 < n
  · have : (1048576 : Int) < (n : Int) := by omega
    go_enter Tryd.func4, Tryd.ntmps4
    go_wp2
    go_ret
    exact ⟨bytesFalse _ _, rfl⟩
  have hb1 : ¬ (1048576 : Int) < (n : Int) := by omega
  go_enter Tryd.func4, Tryd.ntmps4
  go_wp2
  go_loop [7, 8] (fun z i => ∃ (k : Nat) (y : Int), k ≤ n ∧ 0 ≤ y ∧ y ≤ 1048576 ∧ i = .int .i64 k ∧ z = .int .i64 y ∧ Hid (∀ i, i < k → (R i).Small)) (fun _ i => n - (intOf i).toNat)
  case atStart => exact ⟨0, n, Nat.zero_le _, by omega, by omega, rfl, rfl, fun j hj => absurd hj (Nat.not_lt_zero _)⟩
  case round =>
    obtain ⟨k, y, hk, hy0, hy1, rfl, rfl, HS⟩ := hrel
    by_cases hlt : k < n
    · have hltz : (k : Int) < (n : Int) := by omega
      obtain ⟨⟨l0, l1, l2, l3, l4, l5⟩, m0, m1, m2, m4, m5⟩ := hR k hlt
      clear hR
      unfold maxLen at m0 m1 m2 m4 m5
      have HK : Hid (((R k).p.size : Int) ≤ 1048576 → ((R k).t.size : Int) ≤ 1048576 → ((R k).v.size : Int) ≤ 1048576 → ((R k).c.size : Int) ≤ 1048576 → ((R k).d.size : Int) ≤ 1048576 → ∀ i, i < k + 1 → (R i).Small) := by
        intro g0 g1 g2 g3 g4 i hi
        by_cases e : i = k
        · subst e; exact ⟨by omega, by omega, by omega, by omega, by omega⟩
        · exact HS.out i (by omega)
      go_wp2
      all_goals first
        | (go_ret; exact ⟨bytesFalse _ _, rfl⟩)
        | (go_round
           case rel => exact ⟨k + 1, _, by omega, by omega, by omega, by go_num, rfl, HK.out (by omega) (by omega) (by omega) (by omega) (by omega)⟩
           case measure => simp [intOf]; omega)
    · have hltz : ¬ (k : Int) < (n : Int) := by omega
      have : k = n := by omega
      subst this
      clear hR
      go_wp2
      go_ret
      exact ⟨bytesTrue HS.out, rfl⟩

/-- What rowBytes answers: a small number. -/
def SmallInt (e : Ending) : Prop := ∃ z : Int, e = .returned (.int .i64 z) ∧ 0 ≤ z ∧ z ≤ 8000000

set_option maxHeartbeats 400000 in
theorem rowBytes_any (r : RowD) (w : World) (h : r.Small) :
    Calls Tryd.prog 10 #[.agg #[.string r.p, .string r.t, .string r.v, .int .u8 r.k, .string r.c, .string r.d]] w fun e w' => SmallInt e ∧ Below w.heap.size w w' := by
  obtain ⟨p, t, v, k, c, d⟩ := r
  obtain ⟨m0, m1, m2, m4, m5⟩ := h
  simp only at m0 m1 m2 m4 m5
  go_enter Tryd.func10, Tryd.ntmps10
  go_wp2
  go_ret
  exact ⟨⟨_, rfl, by omega, by omega⟩, (Below.refl _ _).alloc (Nat.le_refl _) _⟩

/-- What rowsTooBig answers. -/
def TooPost (n : Nat) (e : Ending) : Prop := e = .returned (.bool true) ∨ (e = .returned (.bool false) ∧ n ≤ 65536)
theorem tooTrue (n : Nat) : TooPost n (.returned (.bool true)) := .inl rfl
theorem tooFalse {n : Nat} (h : n ≤ 65536) : TooPost n (.returned (.bool false)) := .inr ⟨rfl, h⟩

set_option maxRecDepth 100000 in
set_option maxHeartbeats 1000000 in
theorem tooBig_any (b off n c : Nat) (R : Nat → RowD) (w : World) (hn : n ≤ maxLen) (hR : ∀ i, i < n → RowAt w b off i (R i)) (hS : ∀ i, i < n → (R i).Small) :
    Calls Tryd.prog 5 #[.slice (some ⟨b, off, none⟩) n c] w fun e w' => TooPost n e ∧ Below w.heap.size w w' := by
  unfold maxLen at hn
  by_cases hbig : 65536 < n
  · have : (65536 : Int) < (n : Int) := by omega
    clear hR hS
    go_enter Tryd.func5, Tryd.ntmps5
    go_wp2
    go_ret
    exact ⟨tooTrue _, Below.refl _ _⟩
  have hb1 : ¬ (65536 : Int) < (n : Int) := by omega
  have HR : Aside (∀ i, i < n → RowAt w b off i (R i)) := hR
  have HS : Aside (∀ i, i < n → (R i).Small) := hS
  clear hR hS
  go_enter Tryd.func5, Tryd.ntmps5
  go_wp2
  go_loopg [3, 4] n (fun gg s3 s4 wr => ∃ (kk : Nat) (y : Int), kk ≤ n ∧ n - kk ≤ gg ∧ 0 ≤ y ∧ y ≤ 1048576 ∧ s3 = .int .i64 y ∧ s4 = .int .i64 kk ∧ Aside (Below w.heap.size w wr))
  case atStart => exact ⟨0, 0, Nat.zero_le _, by omega, by omega, by omega, rfl, rfl, Below.refl _ w⟩
  case round =>
    obtain ⟨kk, y, hkk, hg, hy0, hy1, rfl, rfl, BW⟩ := hrel
    by_cases hlt : kk < n
    · have hltz : (kk : Int) < (n : Int) := by omega
      obtain ⟨l0, l1, l2, l3, l4, l5⟩ := (HR.out kk hlt).later (BW.out.mono (Nat.le_refl _))
      have hcall := rowBytes_any (R kk) wr (HS.out kk hlt)
      go_wp2_with fail
      refine hcall.mono ?_
      rintro e w' ⟨⟨z, rfl, hz0, hz1⟩, hb⟩
      have HB : Aside (Below w.heap.size w w') := BW.out.trans (hb.mono BW.out.size)
      clear hcall hb l0 l1 l2 l3 l4 l5
      go_wp2
      · go_ret
        exact ⟨tooTrue _, HB.out⟩
      · go_roundg (n - (kk + 1))
        case measure => omega
        case rel => exact ⟨kk + 1, _, by omega, by omega, by omega, by omega, rfl, by go_num, HB⟩
    · have hltz : ¬ (kk : Int) < (n : Int) := by omega
      go_wp2
      go_ret
      exact ⟨tooFalse (by omega), BW.out⟩
end Go.Proofs.Qxb6616443aDoor
