/- errors.As at the concrete target **numerand.Error: the hit and the miss. -/
import Derived.Test.Qxb6616443aDoorAs
namespace Go.Proofs.Qxb6616443aDoor
open Go.RowKit Go.Extern.Stop Go.Stop Go.Extern

set_option maxHeartbeats 4000000 in
theorem as_hit (e t : Addr) (old : Value) (w : World) (hg : w.cell? ⟨0, 0, none⟩ = some (.iface 75 (.agg #[.pointer (some ⟨1, 35, none⟩)]))) (ht0 : w.cell? t = some old) (hf0 : w.frozen? t = false) :
    Calls Tryd.prog 18 #[.iface 49 (.pointer (some e)), .iface 51 (.pointer (some t))] w fun ev w' => ev = .returned (.bool true) ∧ w' = ((((w.alloc (.cells #[.pointer (some t)] 51)).alloc (.cells #[.pointer (some ⟨1, 51, none⟩), .pointer (some ⟨w.heap.size, 0, none⟩), .int .u64 150] 61)).alloc (.cells #[.pointer (some ⟨1, 51, none⟩), .pointer (some ⟨w.heap.size, 0, none⟩), .int .u64 150] 61)).alloc (.cells #[.pointer (some e)] 49)).setCell t (.pointer (some e)) := by
  have h6 := Tryd.ext21
  have h7 := Tryd.ext22
  have h8 := Tryd.ext23
  have h27 := Tryd.ext42
  have h37 := Tryd.ext53
  have h38 := Tryd.ext54
  have h10 := Tryd.ext25
  have h35 := Tryd.ext51
  have h11 := Tryd.ext26
  have h12 := Tryd.ext27
  have tO := Tryd.typeOf25
  have mA := Tryd.methodAssignableTo
  have a25 := Tryd.assignable25
  have v25 := Tryd.valueOf25
  have f6 := Tryd.valueOf27
  have f7 := Tryd.type27
  have mK := Tryd.methodKind
  have mE := Tryd.methodElem
  have mI := Tryd.methodImplements
  have k27 := Tryd.kind27
  have k25 := Tryd.kind25
  have e27 := Tryd.elem27
  have i25 := Tryd.implements25
  have n8 := Tryd.isNil27 ⟨w.heap.size, 0, none⟩ t ((w.alloc (.cells #[.pointer (some t)] 51)).alloc (.cells #[.pointer (some ⟨1, 51, none⟩), .pointer (some ⟨w.heap.size, 0, none⟩), .int .u64 150] 61)) (by simp)
  have hlt : 0 < w.heap.size := by
    rcases Nat.eq_zero_or_pos w.heap.size with h0 | h
    · simp [World.cell?, h0] at hg
    · exact h
  have hg2 : ((w.alloc (.cells #[.pointer (some t)] 51)).alloc (.cells #[.pointer (some ⟨1, 51, none⟩), .pointer (some ⟨w.heap.size, 0, none⟩), .int .u64 150] 61)).cell? ⟨0, 0, none⟩ = some (.iface 75 (.agg #[.pointer (some ⟨1, 35, none⟩)])) := by
    rw [World.cell?_alloc_lt _ _ ⟨0, 0, none⟩ (by simp), World.cell?_alloc_lt _ _ ⟨0, 0, none⟩ hlt]; exact hg
  have htl : t.block < w.heap.size := by
    rcases Nat.lt_or_ge t.block w.heap.size with h | h
    · exact h
    · simp [World.cell?, Array.getElem?_eq_none h] at ht0
  have el := Tryd.elemV27 ⟨w.heap.size, 0, none⟩ t (((w.alloc (.cells #[.pointer (some t)] 51)).alloc (.cells #[.pointer (some ⟨1, 51, none⟩), .pointer (some ⟨w.heap.size, 0, none⟩), .int .u64 150] 61)).alloc (.cells #[.pointer (some ⟨1, 51, none⟩), .pointer (some ⟨w.heap.size, 0, none⟩), .int .u64 150] 61)) (by rw [World.cell?_alloc_lt _ _ ⟨w.heap.size, 0, none⟩ (by simp; omega)]; simp)
  have st := Tryd.set25 t ⟨w.heap.size + 1 + 1 + 1, 0, none⟩ e old ((((w.alloc (.cells #[.pointer (some t)] 51)).alloc (.cells #[.pointer (some ⟨1, 51, none⟩), .pointer (some ⟨w.heap.size, 0, none⟩), .int .u64 150] 61)).alloc (.cells #[.pointer (some ⟨1, 51, none⟩), .pointer (some ⟨w.heap.size, 0, none⟩), .int .u64 150] 61)).alloc (.cells #[.pointer (some e)] 49))
    (by rw [World.cell?_alloc_at _ _ _ _ (by simp)]; rfl)
    (by rw [World.cell?_alloc_lt _ _ t (by simp; omega), World.cell?_alloc_lt _ _ t (by simp; omega), World.cell?_alloc_lt _ _ t (by simp; omega), World.cell?_alloc_lt _ _ t htl]; exact ht0)
    (by rw [World.frozen?_alloc_old _ _ t (by simp; omega), World.frozen?_alloc_old _ _ t (by simp; omega), World.frozen?_alloc_old _ _ t (by simp; omega), World.frozen?_alloc_old _ _ t (Nat.ne_of_lt htl)]; exact hf0)
  go_enter Tryd.func18, Tryd.ntmps18
  go_wp2
  refine wp_loop_rounds 1 ?_
  rw [rounds_succ]
  go_wp2
  go_ret
  exact ⟨rfl, rfl⟩

set_option maxHeartbeats 4000000 in
theorem as_miss (e t : Addr) (w : World) (hg : w.cell? ⟨0, 0, none⟩ = some (.iface 75 (.agg #[.pointer (some ⟨1, 35, none⟩)]))) :
    Calls Tryd.prog 18 #[.iface 71 (.pointer (some e)), .iface 51 (.pointer (some t))] w fun ev w' => ev = .returned (.bool false) ∧ w' = (((w.alloc (.cells #[.pointer (some t)] 51)).alloc (.cells #[.pointer (some ⟨1, 51, none⟩), .pointer (some ⟨w.heap.size, 0, none⟩), .int .u64 150] 61)).alloc (.cells #[.pointer (some ⟨1, 51, none⟩), .pointer (some ⟨w.heap.size, 0, none⟩), .int .u64 150] 61)) := by
  have h6 := Tryd.ext21
  have h7 := Tryd.ext22
  have h8 := Tryd.ext23
  have h27 := Tryd.ext42
  have h37 := Tryd.ext53
  have h38 := Tryd.ext54
  have h10 := Tryd.ext25
  have h35 := Tryd.ext51
  have tO := Tryd.typeOf71
  have mA := Tryd.methodAssignableTo
  have a71 := Tryd.assignable71
  have x1 := Tryd.noAs71
  have x2 := Tryd.noUnwrap71
  have x3 := Tryd.noUnwraps71
  have f6 := Tryd.valueOf27
  have f7 := Tryd.type27
  have mK := Tryd.methodKind
  have mE := Tryd.methodElem
  have mI := Tryd.methodImplements
  have k27 := Tryd.kind27
  have k25 := Tryd.kind25
  have e27 := Tryd.elem27
  have i25 := Tryd.implements25
  have n8 := Tryd.isNil27 ⟨w.heap.size, 0, none⟩ t ((w.alloc (.cells #[.pointer (some t)] 51)).alloc (.cells #[.pointer (some ⟨1, 51, none⟩), .pointer (some ⟨w.heap.size, 0, none⟩), .int .u64 150] 61)) (by simp)
  have hlt : 0 < w.heap.size := by
    rcases Nat.eq_zero_or_pos w.heap.size with h0 | h
    · simp [World.cell?, h0] at hg
    · exact h
  have hg2 : ((w.alloc (.cells #[.pointer (some t)] 51)).alloc (.cells #[.pointer (some ⟨1, 51, none⟩), .pointer (some ⟨w.heap.size, 0, none⟩), .int .u64 150] 61)).cell? ⟨0, 0, none⟩ = some (.iface 75 (.agg #[.pointer (some ⟨1, 35, none⟩)])) := by
    rw [World.cell?_alloc_lt _ _ ⟨0, 0, none⟩ (by simp), World.cell?_alloc_lt _ _ ⟨0, 0, none⟩ hlt]; exact hg
  go_enter Tryd.func18, Tryd.ntmps18
  go_wp2
  refine wp_loop_rounds 1 ?_
  rw [rounds_succ]
  go_wp2
  go_ret
  exact ⟨rfl, rfl⟩
end Go.Proofs.Qxb6616443aDoor
