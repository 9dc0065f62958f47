/- FnHasClassIsMembershipAtAnyCutAndOrder: the law's walk. -/
import Derived.Test.Qxb6618489aSizes
namespace Go.Proofs.Qxb6618489a
open Go.RowKit

theorem memB_cut (ss : Nat → ByteArray) (n i : Nat) (x : ByteArray) (hi : i ≤ n) : memB ss n x = (memB ss i x || memB (fun k => ss (i + k)) (n - i) x) := by
  rw [Bool.eq_iff_iff, Bool.or_eq_true, memB_iff, memB_iff, memB_iff]
  constructor
  · rintro ⟨k, hk, h⟩
    by_cases hki : k < i
    · exact .inl ⟨k, hki, h⟩
    · exact .inr ⟨k - i, by omega, by rw [show i + (k - i) = k by omega]; exact h⟩
  · rintro (⟨k, hk, h⟩ | ⟨k, hk, h⟩)
    · exact ⟨k, by omega, h⟩
    · exact ⟨i + k, by omega, h⟩

theorem memB_rev (ss : Nat → ByteArray) (n : Nat) (x : ByteArray) : memB (fun k => ss (n - 1 - k)) n x = memB ss n x := by
  rw [Bool.eq_iff_iff, memB_iff, memB_iff]
  constructor
  · rintro ⟨k, hk, h⟩; exact ⟨n - 1 - k, by omega, h⟩
  · rintro ⟨k, hk, h⟩; exact ⟨n - 1 - k, by omega, by rw [show n - 1 - (n - 1 - k) = k by omega]; exact h⟩

theorem Try.info9 : (Try.prog.info? 9).map (fun i => (i.zero, i.size, i.bytes)) = some (some (.string ⟨#[]⟩), 1, 16) := by kernel_rfl

/-- make([]string, l, n). -/
theorem make_str (l n : Nat) (hl : l ≤ n) (hn : n ≤ 1000000) : ∃ A : Array Value, A.size = n ∧ ∀ w : World, (Instr.makeSlice 22 (.int .i64 (l : Int)) (.int .i64 (n : Int))).run Try.prog w = .ok (.slice (some ⟨w.heap.size, 0, none⟩) l n) (w.alloc (.cells A 9)) := by
  obtain ⟨i, hi, hz0, hz1, hz2⟩ := info_parts Try.info9
  refine ⟨madeCells (Value.cells (.string ⟨#[]⟩)) n, size_madeCells _ _, fun w => ?_⟩
  have := run_make (P := Try.prog) w 22 9 i _ Try.underlying22 hi hz0 .i64 .i64 (l : Int) (n : Int) (by omega) (by omega) (by rw [hz2]; omega) (by omega)
  rw [this]
  simp only [Int.toNat_natCast, hz1, Nat.mul_one]

theorem StrsAt.later {w w' : World} {ao : Option Addr} {n : Nat} {ss : Nat → ByteArray} (h : StrsAt w ao n ss) (hb : Below w.heap.size w w') : StrsAt w' ao n ss := by
  rcases h with h | ⟨b, off, h1, h2⟩
  · exact .inl h
  · exact .inr ⟨b, off, h1, fun i hi => (hb.cell (p := ⟨b, off + i, none⟩) (World.block_lt_of_cell? _ _ (h2 i hi))).trans (h2 i hi)⟩

set_option maxRecDepth 100000 in
set_option maxHeartbeats 4000000 in
theorem member_main (b off n c i : Nat) (x : ByteArray) (ss : Nat → ByteArray) (w : World) (hn1 : 1 ≤ n) (hn : n ≤ maxLen) (hnc : n ≤ c) (hc : c ≤ maxLen) (hx : x.size ≤ maxLen) (hi : i ≤ n)
    (hR : ∀ k, k < n → w.cell? ⟨b, off + k, none⟩ = some (.string (ss k))) (hS : ∀ i, i < n → (ss i).size ≤ maxLen) :
    Calls Try.prog 3 #[.slice (some ⟨b, off, none⟩) n c, .string x, .int .i64 (i : Int)] w fun e w' => e = .returned (.bool true) ∧ Below w.heap.size w w' := by
  have HR : Aside (StrsAt w (some ⟨b, off, none⟩) n ss) := .inr ⟨b, off, rfl, hR⟩
  have hbk : b < w.heap.size := World.block_lt_of_cell? _ _ (hR 0 (by omega))
  have hA := bytesM_any (some ⟨b, off, none⟩) n c x i ss w hn hx HR.out hS
  have hT := fun t => add_any (some ⟨b, off, none⟩) n c t ss w hn HR.out hS
  have hW := cont_any (some ⟨b, off, none⟩) n c x ss w hn HR.out
  have HC : Aside (∀ k, k < n → w.cell? ⟨b, off + k, none⟩ = some (.string (ss k))) := hR
  clear hR hS
  unfold maxLen at hn hx hc
  have i1 : ¬ (n : Int) < (i : Int) := by omega
  have i0 : ¬ (i : Int) < 0 := by omega
  have i2 : (i : Int) ≤ (n : Int) := by omega
  have i3 : (i : Int) ≤ (c : Int) := by omega
  have i4 : (n : Int) ≤ (c : Int) := by omega
  have i5 : (0 : Int) ≤ (i : Int) := by omega
  by_cases hbig : (65536 : Int) < (n : Int)
  · go_enter Try.func3, Try.ntmps3
    go_wp2_with fail
    refine hA.mono ?_
    rintro e w' ⟨⟨r, rfl⟩, hw⟩
    subst hw
    clear hA hT hW
    cases r
    all_goals
      go_wp2
      go_ret
      exact ⟨rfl, Below.refl _ _⟩
  by_cases hxig : (1048576 : Int) < (x.size : Int)
  · go_enter Try.func3, Try.ntmps3
    go_wp2_with fail
    refine hA.mono ?_
    rintro e w' ⟨⟨r, rfl⟩, hw⟩
    subst hw
    clear hA hT hW
    cases r
    all_goals
      go_wp2
      go_ret
      exact ⟨rfl, Below.refl _ _⟩
  obtain ⟨A, hA', hmk⟩ := make_str n n (Nat.le_refl _) (by omega)
  have hRB := RB.made w A 9 n hA'
  have hb0 : Below w.heap.size w (w.alloc (.cells A 9)) := (Below.refl _ _).alloc (Nat.le_refl _) _
  go_enter Try.func3, Try.ntmps3
  go_wp2_with fail
  refine hA.mono ?_
  rintro e w' ⟨⟨r, rfl⟩, hw⟩
  subst hw
  clear hA
  cases r
  · clear hT hW
    go_wp2
    go_ret
    exact ⟨rfl, Below.refl _ _⟩
  go_wp2_with fail
  refine (hT _).mono ?_
  rintro e w' ⟨⟨z, rfl⟩, hw⟩
  subst hw
  clear hT
  by_cases hz : 1048576 < z
  · clear hW
    go_wp2
    go_ret
    exact ⟨rfl, Below.refl _ _⟩
  go_wp2_with fail
  refine hW.mono ?_
  rintro e w' ⟨rfl, hw⟩
  subst hw
  clear hW
  generalize hg : memB ss n x = g
  have GM : Aside (memB ss n x = g) := hg
  clear hg
  go_wp2
  go_loopg [9] n (fun gg s9 wr => ∃ kk : Nat, kk ≤ n ∧ n - kk ≤ gg ∧ s9 = .int .i64 kk ∧ Aside (Below w'.heap.size w' wr) ∧ Aside (w'.heap.size < wr.heap.size) ∧ Aside (RB wr w'.heap.size n) ∧ Aside (∀ k, k < kk → wr.cell? ⟨w'.heap.size, k, none⟩ = some (.string (ss (n - 1 - k)))))
  case atStart => exact ⟨0, Nat.zero_le _, by omega, rfl, hb0, by simp [Aside], hRB, fun k hk => absurd hk (Nat.not_lt_zero _)⟩
  case round =>
    obtain ⟨kk, hkk, hgg, rfl, BW, SZ, RBk, EL⟩ := hrel
    clear hmk hRB hb0
    by_cases hlt : kk < n
    · have hltz : (kk : Int) < (n : Int) := by omega
      have l0 : wr.cell? ⟨b, off + (n - 1 - kk), none⟩ = some (.string (ss (n - 1 - kk))) := by
        rw [BW.out.cell (p := ⟨b, off + (n - 1 - kk), none⟩) hbk]; exact HC.out _ (by omega)
      have ei : ((n : Int) - 1 - (kk : Int)).toNat = n - 1 - kk := by omega
      obtain ⟨⟨o0, q0⟩, f0⟩ := RBk.out kk hlt
      go_wp2
      go_roundg (n - (kk + 1))
      case measure => omega
      case rel =>
        have hz := SZ.out
        refine ⟨kk + 1, by omega, by omega, by go_num, ?_, ?_, ?_, ?_⟩
        · exact sets_below (Nat.le_refl _) [.string (ss (n - 1 - kk))] kk wr BW.out
        · show w'.heap.size < (wr.setCells w'.heap.size kk [.string (ss (n - 1 - kk))]).heap.size
          rw [sets_size]; exact hz
        · exact RBk.out.sets [.string (ss (n - 1 - kk))] kk (by simp; omega)
        · intro k hk
          show (wr.setCells w'.heap.size kk [.string (ss (n - 1 - kk))]).cell? ⟨w'.heap.size, k, none⟩ = some (.string (ss (n - 1 - k)))
          by_cases e : k = kk
          · subst e
            have hin : ∀ j, j < [Value.string (ss (n - 1 - k))].length → (wr.cell? ⟨w'.heap.size, k + j, none⟩).isSome = true := by
              intro j hj
              have hj0 : j = 0 := by simpa using hj
              rw [hj0, Nat.add_zero, q0]
              rfl
            exact World.cell?_setCells_in w'.heap.size [.string (ss (n - 1 - k))] k wr hin 0 (by simp)
          · rw [World.cell?_setCells_out _ _ _ _ _ (fun _ _ => by simp; omega)]
            exact EL.out k (by omega)
    · have hltz : ¬ (kk : Int) < (n : Int) := by omega
      obtain rfl : kk = n := by omega
      have RV : Aside (StrsAt wr (some ⟨w'.heap.size, 0, none⟩) kk (fun k => ss (kk - 1 - k))) := .inr ⟨w'.heap.size, 0, rfl, fun k hk => by rw [Nat.zero_add]; exact EL.out k hk⟩
      clear EL RBk
      have R0 : Aside (∀ W, Below wr.heap.size wr W → StrsAt W (some ⟨b, off, none⟩) kk ss) := fun W hb => (HR.out.later BW.out).later hb
      have RL : Aside (∀ W, Below wr.heap.size wr W → StrsAt W (some ⟨b, off, none⟩) i ss) := fun W hb => .inr ⟨b, off, rfl, fun k hk => by
        rcases R0.out W hb with h | ⟨b', off', h1, h2⟩
        · omega
        · simp only [Option.some.injEq, Addr.mk.injEq] at h1
          obtain ⟨rfl, rfl, _⟩ := h1
          exact h2 k (by omega)⟩
      have RR : Aside (∀ W, Below wr.heap.size wr W → StrsAt W (some ⟨b, off + i, none⟩) (kk - i) (fun k => ss (i + k))) := fun W hb => .inr ⟨b, off + i, rfl, fun k hk => by
        rcases R0.out W hb with h | ⟨b', off', h1, h2⟩
        · omega
        · simp only [Option.some.injEq, Addr.mk.injEq] at h1
          obtain ⟨rfl, rfl, _⟩ := h1
          rw [Nat.add_assoc]
          exact h2 (i + k) (by omega)⟩
      go_wp2_with fail
      refine (fund_any (some ⟨b, off, none⟩) kk c ss wr (by omega) (R0.out _ (Below.refl _ _))).mono ?_
      rintro e wa ⟨⟨Bf, rfl, hE⟩, hb⟩
      have hH := hasClass_any Bf kk kk ss x wa (by omega) hE
      have bf : Below wr.heap.size wr wa := (Below.refl wr.heap.size wr).trans (hb.mono (Below.refl wr.heap.size wr).size)
      clear hE hb
      go_wp2_with fail
      refine hH.mono ?_
      clear hH
      rintro e wb ⟨rfl, hb⟩
      have D1 : Aside (Below wr.heap.size wr wb) := bf.trans (hb.mono bf.size)
      clear hb bf
      rw [GM.out]
      go_wp2_with fail
      refine (fund_any (some ⟨b, off, none⟩) i c ss wb (by omega) (RL.out _ D1.out)).mono ?_
      rintro e wc ⟨⟨Bf, rfl, hE⟩, hb⟩
      have hH := hasClass_any Bf i i ss x wc (by omega) hE
      have bf : Below wr.heap.size wr wc := D1.out.trans (hb.mono D1.out.size)
      clear hE hb
      go_wp2_with fail
      refine hH.mono ?_
      clear hH
      rintro e wd ⟨rfl, hb⟩
      have D2 : Aside (Below wr.heap.size wr wd) := bf.trans (hb.mono bf.size)
      clear hb bf
      generalize hgl : memB ss i x = gl
      have GL : Aside (memB ss i x = gl) := hgl
      clear hgl
      by_cases hci : c = i
      · have hik : i = kk := by omega
        subst hik
        subst hci
        go_wp2_with fail
        refine (fund_any _ 0 0 (fun k => ss (c + k)) wd (by omega) (.inl rfl)).mono ?_
        rintro e we ⟨⟨Bf, rfl, hE⟩, hb⟩
        have hH := hasClass_any Bf 0 0 (fun k => ss (c + k)) x we (by omega) hE
        have bf : Below wr.heap.size wr we := D2.out.trans (hb.mono D2.out.size)
        clear hE hb
        go_wp2_with fail
        refine hH.mono ?_
        clear hH
        rintro e wf ⟨rfl, hb⟩
        have D3 : Aside (Below wr.heap.size wr wf) := bf.trans (hb.mono bf.size)
        clear hb bf
        generalize hgr : memB (fun k => ss (c + k)) 0 x = gr
        have EG : Aside (g = (gl || gr)) := by
          show g = (gl || gr)
          rw [← GM.out, ← GL.out, ← hgr]
          have h := memB_cut ss c c x (Nat.le_refl _); rw [Nat.sub_self] at h; exact h
        clear hgr
        go_wp2_with fail
        refine (fund_any (some ⟨w'.heap.size, 0, none⟩) c c (fun k => ss (c - 1 - k)) wf (by omega) (RV.out.later D3.out)).mono ?_
        rintro e wg ⟨⟨Bf, rfl, hE⟩, hb⟩
        have hH := hasClass_any Bf c c (fun k => ss (c - 1 - k)) x wg (by omega) hE
        have bf : Below wr.heap.size wr wg := D3.out.trans (hb.mono D3.out.size)
        clear hE hb
        go_wp2_with fail
        refine hH.mono ?_
        clear hH
        rintro e wh ⟨rfl, hb⟩
        have D4 : Aside (Below wr.heap.size wr wh) := bf.trans (hb.mono bf.size)
        clear hb bf
        have hbk2 : memB (fun k => ss (c - 1 - k)) c x = g := (memB_rev ss c x).trans GM.out
        rw [hbk2]
        clear hbk2
        obtain rfl := EG.out
        clear GM GL EG
        cases gl <;> cases gr
        all_goals
          go_wp2
          go_ret
          exact ⟨rfl, BW.out.trans (D4.out.mono BW.out.size)⟩
      · go_wp2_with fail
        refine (fund_any (some ⟨b, off + i, none⟩) (kk - i) (c - i) (fun k => ss (i + k)) wd (by omega) (RR.out _ D2.out)).mono ?_
        rintro e we ⟨⟨Bf, rfl, hE⟩, hb⟩
        have hH := hasClass_any Bf (kk - i) (kk - i) (fun k => ss (i + k)) x we (by omega) hE
        have bf : Below wr.heap.size wr we := D2.out.trans (hb.mono D2.out.size)
        clear hE hb
        go_wp2_with fail
        refine hH.mono ?_
        clear hH
        rintro e wf ⟨rfl, hb⟩
        have D3 : Aside (Below wr.heap.size wr wf) := bf.trans (hb.mono bf.size)
        clear hb bf
        generalize hgr : memB (fun k => ss (i + k)) (kk - i) x = gr
        have EG : Aside (g = (gl || gr)) := by
          show g = (gl || gr)
          rw [← GM.out, ← GL.out, ← hgr]
          exact memB_cut ss kk i x (by omega)
        clear hgr
        go_wp2_with fail
        refine (fund_any (some ⟨w'.heap.size, 0, none⟩) kk kk (fun k => ss (kk - 1 - k)) wf (by omega) (RV.out.later D3.out)).mono ?_
        rintro e wg ⟨⟨Bf, rfl, hE⟩, hb⟩
        have hH := hasClass_any Bf kk kk (fun k => ss (kk - 1 - k)) x wg (by omega) hE
        have bf : Below wr.heap.size wr wg := D3.out.trans (hb.mono D3.out.size)
        clear hE hb
        go_wp2_with fail
        refine hH.mono ?_
        clear hH
        rintro e wh ⟨rfl, hb⟩
        have D4 : Aside (Below wr.heap.size wr wh) := bf.trans (hb.mono bf.size)
        clear hb bf
        have hbk2 : memB (fun k => ss (kk - 1 - k)) kk x = g := (memB_rev ss kk x).trans GM.out
        rw [hbk2]
        clear hbk2
        obtain rfl := EG.out
        clear GM GL EG
        cases gl <;> cases gr
        all_goals
          go_wp2
          go_ret
          exact ⟨rfl, BW.out.trans (D4.out.mono BW.out.size)⟩
end Go.Proofs.Qxb6618489a
