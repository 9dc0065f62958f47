/- slices.ContainsFunc and IndexFunc at ProfileResult with the closure of Agree; Agree. -/
import Derived.Test.Qxb6616443aDoorAnswer
import Derived.Deep.RegionWith
import Derived.Deep.LoopGhost
namespace Go.Proofs.Qxb6616443aDoor
open Go.RowKit

theorem Aside.mk' {p : Prop} (h : p) : Aside p := h
/-- Two answers differ. -/
def diff (f f0 : Bool) (s s0 : ByteArray) : Bool := !(f == f0 && s.toList == s0.toList)

theorem neq41 (f f0 : Bool) (s s0 : ByteArray) (w : World) : (binOp .neq 41 (.agg #[.bool f, .string s]) (.agg #[.bool f0, .string s0])).run Tryd.prog w = .ok (.bool (diff f f0 s s0)) w := by
  have u4 := Tryd.underlying4
  have u9 := Tryd.underlying9
  have hS : Tryd.prog.underlying 41 = some (.struct (Tryd.prog.fieldsOf 41)) := by kernel_rfl
  have hp : Tryd.prog.stoodInHeld 41 = false := by kernel_rfl
  simp only [binOp, Op.equal, Op.maxDepth]
  rw [Sem.run_bind, show (10000 : Nat) = 9999 + 1 from rfl, run_equalIn_agg w 9999 41 _ _ hS hp]
  simp only [Program.fieldsOf, Tryd.underlying41]
  go_simp
  unfold diff
  cases f <;> cases f0 <;> by_cases h2 : s.toList = s0.toList <;> simp [h2]

set_option maxHeartbeats 1000000 in
theorem clo_any (p t v : ByteArray) (err : Value) (f : Bool) (s : ByteArray) (FB : Nat) (f0 : Bool) (s0 : ByteArray) (w : World) (hg : w.cell? ⟨0, 0, none⟩ = some hnd) (h : Ans w v err f s)
    (h0 : w.cell? ⟨FB, 0, none⟩ = some (.bool f0)) (h1 : w.cell? ⟨FB, 1, none⟩ = some (.string s0)) :
    Calls Tryd.prog 14 #[.agg #[.string p, .string t, .string v, err], .pointer (some ⟨FB, 0, none⟩)] w fun e w' => e = .returned (.bool (diff f f0 s s0)) ∧ Below w.heap.size w w' := by
  have hlt : 0 < w.heap.size := World.block_lt_of_cell? _ _ hg
  have hfb : FB < w.heap.size := World.block_lt_of_cell? _ _ h0
  have hC : ∀ W, Below w.heap.size w W → Calls Tryd.prog 12 #[.agg #[.string p, .string t, .string v, err]] W fun e w' => e = .returned (.agg #[.bool f, .string s]) ∧ Below w.heap.size w w' := fun W hb =>
    (ans_any p t v err f s W ((hb.cell (p := ⟨0, 0, none⟩) hlt).trans hg) (h.later hb)).mono fun e w' ⟨h1, h2⟩ => ⟨h1, hb.trans (h2.mono hb.size)⟩
  clear h hg
  have nq := neq41 f f0 s s0
  have HC := hC
  clear hC
  go_enter Tryd.func14, Tryd.ntmps14
  go_wp2
  go_region_with (go_at_call 12; refine (HC _ ?hb).mono ?_; (case hb => exact ((Below.refl _ _).alloc (Nat.le_refl _) _).drew); rintro e w' ⟨rfl, hb⟩; have c0 := (hb.cell (p := ⟨FB, 0, none⟩) hfb).trans h0; have c1 := (hb.cell (p := ⟨FB, 1, none⟩) hfb).trans h1)
  all_goals (go_wp2; go_ret; exact ⟨rfl, by assumption⟩)

/-- An element's four cells at element i of the row that begins at ⟨b, off⟩. -/
def El (w : World) (b off i : Nat) (p t v : ByteArray) (err : Value) : Prop :=
  w.cell? ⟨b, off + i * 4, none⟩ = some (.string p) ∧ w.cell? ⟨b, off + i * 4 + 1, none⟩ = some (.string t) ∧ w.cell? ⟨b, off + i * 4 + 2, none⟩ = some (.string v) ∧ w.cell? ⟨b, off + i * 4 + 3, none⟩ = some err

theorem El.later {w w' : World} {b off i : Nat} {p t v : ByteArray} {err : Value} (h : El w b off i p t v err) (hb : Below w.heap.size w w') : El w' b off i p t v err := by
  have hlt : b < w.heap.size := World.block_lt_of_cell? _ _ h.1
  exact ⟨(hb.cell (p := ⟨b, _, none⟩) hlt).trans h.1, (hb.cell (p := ⟨b, _, none⟩) hlt).trans h.2.1, (hb.cell (p := ⟨b, _, none⟩) hlt).trans h.2.2.1, (hb.cell (p := ⟨b, _, none⟩) hlt).trans h.2.2.2⟩

set_option maxHeartbeats 2000000 in
theorem index_any (b off n c FB : Nat) (E : Nat → ByteArray × ByteArray × ByteArray × Value) (F : Nat → Bool) (S : Nat → ByteArray) (f0 : Bool) (s0 : ByteArray) (w : World) (hg : w.cell? ⟨0, 0, none⟩ = some hnd)
    (hn : n ≤ 1000000)
    (hE : ∀ i, i < n → El w b off i (E i).1 (E i).2.1 (E i).2.2.1 (E i).2.2.2 ∧ Ans w (E i).2.2.1 (E i).2.2.2 (F i) (S i))
    (h0 : w.cell? ⟨FB, 0, none⟩ = some (.bool f0)) (h1 : w.cell? ⟨FB, 1, none⟩ = some (.string s0)) :
    Calls Tryd.prog 19 #[.slice (some ⟨b, off, none⟩) n c, .func (.func 14) #[] #[.pointer (some ⟨FB, 0, none⟩)]] w fun e w' =>
      (∃ r : Int, e = .returned (.int .i64 r) ∧ (0 ≤ r ↔ ∃ i, i < n ∧ (diff (F i) f0 (S i) s0) = true)) ∧ Below w.heap.size w w' := by
  have hlt0 : 0 < w.heap.size := World.block_lt_of_cell? _ _ hg
  have hfb : FB < w.heap.size := World.block_lt_of_cell? _ _ h0
  have hC : ∀ W, Below w.heap.size w W → ∀ i, i < n → Calls Tryd.prog 14 #[.agg #[.string (E i).1, .string (E i).2.1, .string (E i).2.2.1, (E i).2.2.2], .pointer (some ⟨FB, 0, none⟩)] W fun e w' => e = .returned (.bool (diff (F i) f0 (S i) s0)) ∧ Below w.heap.size w w' := fun W hb i hi =>
    (clo_any _ _ _ _ (F i) (S i) FB f0 s0 W ((hb.cell (p := ⟨0, 0, none⟩) hlt0).trans hg) ((hE i hi).2.later hb) ((hb.cell (p := ⟨FB, 0, none⟩) hfb).trans h0) ((hb.cell (p := ⟨FB, 1, none⟩) hfb).trans h1)).mono fun e w' ⟨h1, h2⟩ => ⟨h1, hb.trans (h2.mono hb.size)⟩
  have hL : ∀ W, Below w.heap.size w W → ∀ i, i < n → El W b off i (E i).1 (E i).2.1 (E i).2.2.1 (E i).2.2.2 := fun W hb i hi => (hE i hi).1.later hb
  clear hE hg h0 h1
  go_enter Tryd.func19, Tryd.ntmps19
  go_wp2
  go_loopg [5, 8] n (fun gg _ s8 wr => ∃ kk : Nat, kk ≤ n ∧ n - kk ≤ gg ∧ s8 = .int .i64 kk ∧ Aside (Below w.heap.size w wr) ∧ Aside (∀ j, j < kk → (diff (F j) f0 (S j) s0) = false))
  case atStart => exact ⟨0, Nat.zero_le _, by omega, rfl, Below.refl _ w, fun j hj => absurd hj (Nat.not_lt_zero _)⟩
  case round =>
    obtain ⟨kk, hkk, hg, rfl, BW, A⟩ := hrel
    by_cases hlt : kk < n
    · have hltz : (kk : Int) < (n : Int) := by omega
      obtain ⟨l1, l2, l3, l4⟩ := hL wr BW.out kk hlt
      have hcall := hC wr BW.out kk hlt
      clear hL hC
      generalize hq : (diff (F kk) f0 (S kk) s0) = r at hcall
      have Q : Aside ((diff (F kk) f0 (S kk) s0) = r) := hq
      clear hq
      generalize (E kk).1 = e1 at *
      generalize (E kk).2.1 = e2 at *
      generalize (E kk).2.2.1 = e3 at *
      generalize (E kk).2.2.2 = e4 at *
      cases r with
      | true =>
        go_wp2_with fail
        refine hcall.mono ?_
        rintro e w' ⟨rfl, hb'⟩
        go_wp2
        go_ret
        exact ⟨⟨_, rfl, fun _ => ⟨kk, hlt, Q.out⟩, fun _ => by omega⟩, hb'⟩
      | false =>
        go_wp2_with fail
        refine hcall.mono ?_
        rintro e w' ⟨rfl, hb'⟩
        go_wp2
        go_roundg (n - (kk + 1))
        case measure => omega
        case rel =>
          refine ⟨kk + 1, by omega, by omega, by go_num, hb', (show Aside _ from fun j hj => ?_)⟩
          by_cases e : j = kk
          · subst e
            exact Q.out
          · exact A.out j (by omega)
    · have hltz : ¬ (kk : Int) < (n : Int) := by omega
      have : kk = n := by omega
      subst this
      go_wp2
      go_ret
      refine ⟨⟨-1, rfl, fun h => absurd h (by decide), fun ⟨i, hi, hq⟩ => ?_⟩, BW.out⟩
      rw [A.out i hi] at hq
      cases hq

set_option maxHeartbeats 400000 in
theorem contains_any (b off n c FB : Nat) (E : Nat → ByteArray × ByteArray × ByteArray × Value) (F : Nat → Bool) (S : Nat → ByteArray) (f0 : Bool) (s0 : ByteArray) (w : World) (hg : w.cell? ⟨0, 0, none⟩ = some hnd)
    (hn : n ≤ 1000000)
    (hE : ∀ i, i < n → El w b off i (E i).1 (E i).2.1 (E i).2.2.1 (E i).2.2.2 ∧ Ans w (E i).2.2.1 (E i).2.2.2 (F i) (S i))
    (h0 : w.cell? ⟨FB, 0, none⟩ = some (.bool f0)) (h1 : w.cell? ⟨FB, 1, none⟩ = some (.string s0)) :
    Calls Tryd.prog 13 #[.slice (some ⟨b, off, none⟩) n c, .func (.func 14) #[] #[.pointer (some ⟨FB, 0, none⟩)]] w fun e w' =>
      (∃ r : Bool, e = .returned (.bool r) ∧ (r = true ↔ ∃ i, i < n ∧ (diff (F i) f0 (S i) s0) = true)) ∧ Below w.heap.size w w' := by
  have hI := index_any b off n c FB E F S f0 s0 w hg hn hE h0 h1
  clear hE hg h0 h1
  go_enter Tryd.func13, Tryd.ntmps13
  go_wp2_with fail
  refine hI.mono ?_
  rintro e w' ⟨⟨r, rfl, hr⟩, hb⟩
  have HR : Aside (0 ≤ r ↔ ∃ i, i < n ∧ (diff (F i) f0 (S i) s0) = true) := hr
  clear hr hI
  go_wp2
  go_ret
  refine ⟨⟨_, rfl, ?_⟩, hb⟩
  simp only [decide_eq_true_eq]
  exact HR.out

/-- What is asked of a row of results: its elements' cells, and what each answers. -/
def Res (w : World) (b off n : Nat) (E : Nat → ByteArray × ByteArray × ByteArray × Value) (F : Nat → Bool) (S : Nat → ByteArray) : Prop :=
  ∀ i, i < n → El w b off i (E i).1 (E i).2.1 (E i).2.2.1 (E i).2.2.2 ∧ Ans w (E i).2.2.1 (E i).2.2.2 (F i) (S i)

theorem Res.later {w w' : World} {b off n : Nat} {E : Nat → ByteArray × ByteArray × ByteArray × Value} {F : Nat → Bool} {S : Nat → ByteArray} (h : Res w b off n E F S) (hb : Below w.heap.size w w') : Res w' b off n E F S :=
  fun i hi => ⟨(h i hi).1.later hb, (h i hi).2.later hb⟩

theorem Res.tail {w : World} {b off n : Nat} {E : Nat → ByteArray × ByteArray × ByteArray × Value} {F : Nat → Bool} {S : Nat → ByteArray} (h : Res w b off n E F S) : Res w b (off + 4) (n - 1) (fun i => E (i + 1)) (fun i => F (i + 1)) (fun i => S (i + 1)) := by
  intro i hi
  obtain ⟨h1, h2⟩ := h (i + 1) (by omega)
  unfold El at h1
  unfold El
  rw [show off + (i + 1) * 4 = off + 4 + i * 4 by omega] at h1
  exact ⟨h1, h2⟩

theorem agree_iff (F : Nat → Bool) (S : Nat → ByteArray) (n : Nat) (r : Bool) (h : r = true ↔ ∃ i, i < n - 1 ∧ diff (F (i + 1)) (F 0) (S (i + 1)) (S 0) = true) :
    (!r) = true ↔ ∀ i, i < n → diff (F i) (F 0) (S i) (S 0) = false := by
  constructor
  · intro hr i hi
    cases i with
    | zero => simp [diff]
    | succ i =>
      cases hd : diff (F (i + 1)) (F 0) (S (i + 1)) (S 0)
      · rfl
      · rw [h.2 ⟨i, by omega, hd⟩] at hr; simp at hr
  · intro hall
    cases hr : r
    · rfl
    · obtain ⟨i, hi, hd⟩ := h.1 hr
      rw [hall (i + 1) (by omega)] at hd
      cases hd

set_option maxHeartbeats 1000000 in
theorem agree_any (b off n c : Nat) (E : Nat → ByteArray × ByteArray × ByteArray × Value) (F : Nat → Bool) (S : Nat → ByteArray) (w : World) (hg : w.cell? ⟨0, 0, none⟩ = some hnd)
    (h1 : 1 ≤ n) (hn : n ≤ 1000000) (hnc : n ≤ c) (hc : c ≤ 1000000) (hE : Res w b off n E F S) :
    Calls Tryd.prog 7 #[.slice (some ⟨b, off, none⟩) n c] w fun e w' =>
      (∃ r : Bool, e = .returned (.bool r) ∧ (r = true ↔ ∀ i, i < n → diff (F i) (F 0) (S i) (S 0) = false)) ∧ Below w.heap.size w w' := by
  have hlt0 : 0 < w.heap.size := World.block_lt_of_cell? _ _ hg
  obtain ⟨⟨l1, l2, l3, l4⟩, a0⟩ := hE 0 (by omega)
  have hA := ans_any (E 0).1 (E 0).2.1 (E 0).2.2.1 (E 0).2.2.2 (F 0) (S 0) w hg a0
  have hz : ((n : Int) == 0) = false := by simp; omega
  have hz1 : (1 : Int) ≤ (n : Int) := by omega
  have hz2 : (1 : Int) ≤ (c : Int) := by omega
  have hz3 : (n : Int) ≤ (c : Int) := by omega
  have hz4 : (0 : Int) < (n : Int) := by omega
  simp only [Nat.zero_mul, Nat.add_zero] at l1 l2 l3 l4
  by_cases hc1 : c = 1
  · have hC : ∀ W, Below w.heap.size w W → ∀ FB, W.cell? ⟨FB, 0, none⟩ = some (.bool (F 0)) → W.cell? ⟨FB, 1, none⟩ = some (.string (S 0)) →
        Calls Tryd.prog 13 #[.slice (some ⟨b, off, none⟩) 0 0, .func (.func 14) #[] #[.pointer (some ⟨FB, 0, none⟩)]] W fun e w' =>
          (∃ r : Bool, e = .returned (.bool r) ∧ (r = true ↔ ∃ i, i < n - 1 ∧ diff (F (i + 1)) (F 0) (S (i + 1)) (S 0) = true)) ∧ Below w.heap.size w w' := by
      intro W hb FB q0 q1
      have := contains_any b off 0 0 FB (fun i => E (i + 1)) (fun i => F (i + 1)) (fun i => S (i + 1)) (F 0) (S 0) W ((hb.cell (p := ⟨0, 0, none⟩) hlt0).trans hg) (by omega) (fun i hi => by omega) q0 q1
      rw [show n - 1 = 0 by omega]
      exact this.mono fun e w' ⟨h1, h2⟩ => ⟨h1, hb.trans (h2.mono hb.size)⟩
    obtain rfl : n = 1 := by omega
    subst hc1
    clear hE a0 hg
    generalize (E 0).1 = e1 at *
    generalize (E 0).2.1 = e2 at *
    generalize (E 0).2.2.1 = e3 at *
    generalize (E 0).2.2.2 = e4 at *
    go_enter Tryd.func7, Tryd.ntmps7
    go_wp2_with fail
    refine hA.mono ?_
    clear hA l1 l2 l3 l4
    rintro e w' ⟨rfl, hb⟩
    go_wp2_with fail
    refine (hC _ ?qb _ ?q0 ?q1).mono ?_
    case qb => exact hb.alloc hb.size _
    case q0 => rw [World.cell?_alloc_at _ _ _ _ rfl]; rfl
    case q1 => rw [World.cell?_alloc_at _ _ _ _ rfl]; rfl
    rintro e w'' ⟨⟨r, rfl, hr⟩, hb'⟩
    have HR := Qxb6616443aDoor.Aside.mk' (agree_iff F S 1 r hr)
    clear hr hC
    go_wp2
    go_ret
    exact ⟨⟨_, rfl, HR.out⟩, hb'⟩
  · have hC : ∀ W, Below w.heap.size w W → ∀ FB, W.cell? ⟨FB, 0, none⟩ = some (.bool (F 0)) → W.cell? ⟨FB, 1, none⟩ = some (.string (S 0)) →
        Calls Tryd.prog 13 #[.slice (some ⟨b, off + 4, none⟩) (n - 1) (c - 1), .func (.func 14) #[] #[.pointer (some ⟨FB, 0, none⟩)]] W fun e w' =>
          (∃ r : Bool, e = .returned (.bool r) ∧ (r = true ↔ ∃ i, i < n - 1 ∧ diff (F (i + 1)) (F 0) (S (i + 1)) (S 0) = true)) ∧ Below w.heap.size w w' := by
      intro W hb FB q0 q1
      have := contains_any b (off + 4) (n - 1) (c - 1) FB (fun i => E (i + 1)) (fun i => F (i + 1)) (fun i => S (i + 1)) (F 0) (S 0) W ((hb.cell (p := ⟨0, 0, none⟩) hlt0).trans hg) (by omega) ((hE.later hb).tail) q0 q1
      exact this.mono fun e w' ⟨h1, h2⟩ => ⟨h1, hb.trans (h2.mono hb.size)⟩
    clear hE a0 hg
    generalize (E 0).1 = e1 at *
    generalize (E 0).2.1 = e2 at *
    generalize (E 0).2.2.1 = e3 at *
    generalize (E 0).2.2.2 = e4 at *
    go_enter Tryd.func7, Tryd.ntmps7
    go_wp2_with fail
    refine hA.mono ?_
    clear hA l1 l2 l3 l4
    rintro e w' ⟨rfl, hb⟩
    go_wp2_with fail
    refine (hC _ ?qb _ ?q0 ?q1).mono ?_
    case qb => exact hb.alloc hb.size _
    case q0 => rw [World.cell?_alloc_at _ _ _ _ rfl]; rfl
    case q1 => rw [World.cell?_alloc_at _ _ _ _ rfl]; rfl
    rintro e w'' ⟨⟨r, rfl, hr⟩, hb'⟩
    have HR := Qxb6616443aDoor.Aside.mk' (agree_iff F S n r hr)
    clear hr hC
    go_wp2
    go_ret
    exact ⟨⟨_, rfl, HR.out⟩, hb'⟩
end Go.Proofs.Qxb6616443aDoor
