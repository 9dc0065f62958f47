/- The callees of the two laws on forbiddenField, each by a contract of its own. -/
import Derived.Test.Qxb6616879aRows
import Derived.WalkKit
import Derived.WalkSpells
import Derived.WalkLawsBesides
import Derived.RowKit3
import Derived.BigQuiet
import Derived.Deep.QuietTactic
import Derived.Lib.Strings
namespace Go.Proofs.Qxb6616879a
open Go.RowKit

/-! ### Plain facts -/
theorem grown_trans {a b c : World} (h : Grown a b) (k : Grown b c) : Grown a c :=
  ⟨World.keptBut_trans h.1 k.1, fun x => (k.2.1 x).trans (h.2.1 x), Nat.le_trans h.2.2 k.2.2⟩
theorem toList_app (p a : ByteArray) : (p ++ a).toList = p.toList ++ a.toList := by
  simp only [Lib.toList_data, ByteArray.data_append, Array.toList_append]
theorem msg_eq (p a b : ByteArray) : ((p ++ a).toList == (p ++ b).toList) = (a.toList == b.toList) := by
  rw [toList_app, toList_app, Bool.eq_iff_iff]; simp
theorem tail_app (p a : ByteArray) : (p ++ a).extract p.size (p.size + a.size) = a := by
  rw [Lib.extract_eq]
  conv => rhs; rw [← Lib.mk_data a]
  rw [Lib.size_eq p, Lib.size_eq a, ByteArray.data_append, Array.toList_append, List.drop_left, Nat.add_sub_cancel_left, List.take_length]
theorem head_app (p a : ByteArray) : (p ++ a).extract 0 p.size = p := by
  rw [Lib.extract_eq]
  conv => rhs; rw [← Lib.mk_data p]
  rw [Lib.size_eq p, ByteArray.data_append, Array.toList_append, List.drop_zero, Nat.sub_zero, List.take_left]

/-- The bytes of the reason, FieldValueForbidden. -/
def reasonB : ByteArray := { data := #[70, 105, 101, 108, 100, 86, 97, 108, 117, 101, 70, 111, 114, 98, 105, 100, 100, 101, 110] }
/-- The bytes of the head: Forbidden, a colon, a blank. -/
def headB : ByteArray := { data := #[70, 111, 114, 98, 105, 100, 100, 101, 110, 58, 32] }

theorem reason_ne : ¬ reasonB.toList = [] := by rw [Lib.toList_data]; decide
theorem reason_ne' : reasonB.toList.isEmpty = false := by rw [Lib.toList_data]; decide

set_option maxHeartbeats 400000 in
theorem bytes4 (a0 a1 a2 a3 : ByteArray) (w0 : a0.size ≤ maxLen) (w1 : a1.size ≤ maxLen) (w2 : a2.size ≤ maxLen) (w3 : a3.size ≤ maxLen) (w : World) :
    Calls Try.prog 5 #[.string a0, .string a1, .string a2, .string a3] w fun e w' => (∃ b : Bool, e = .returned (.bool b)) ∧ w' = w := by
  unfold maxLen at w0 w1 w2 w3
  go_enter Try.func5, Try.ntmps5
  go_wp2
  all_goals (go_ret; exact ⟨⟨_, rfl⟩, rfl⟩)

set_option maxHeartbeats 400000 in
theorem ff_any (f r : ByteArray) (hr : r.size ≤ 200000) (w : World) :
    Calls Try.prog 8 #[.string f, .string r] w fun e w' => e = .returned (.agg #[.string f, .string reasonB, .string (headB ++ r)]) ∧ ∃ c1 : Array Value, w' = w.alloc (.cells c1 27) := by
  go_enter Try.func8, Try.ntmps8
  go_wp2
  exact bodyPost_ret (v := .agg #[.string f, .string reasonB, .string (headB ++ r)]) (by simp [results, Try.results8, go_sem, reasonB, headB]) rfl ⟨rfl, _, rfl⟩

set_option maxHeartbeats 400000 in
theorem zz_any (f r : ByteArray) (hr : r.size ≤ 200000) (w : World) :
    Calls Try.prog 6 #[.string f, .string r] w fun e w' => e = .returned (.tuple #[.string f, .string reasonB, .string (headB ++ r)]) ∧ Grown w w' := by
  go_enter Try.func6, Try.ntmps6
  go_wp2_with (go_at_call 8; refine (ff_any f r hr _).mono ?_; rintro e w' ⟨rfl, c1, rfl⟩)
  go_region
  all_goals
    go_wp2
    go_ret3
    exact ⟨rfl, by repeat (first | exact Grown.refl _ | apply Grown.drew | apply Grown.alloc)⟩

set_option maxHeartbeats 400000 in
theorem bytes3 (a0 a1 a2 : ByteArray) (w0 : a0.size ≤ maxLen) (w1 : a1.size ≤ maxLen) (w2 : a2.size ≤ maxLen) (w : World) :
    Calls Try.prog 7 #[.string a0, .string a1, .string a2] w fun e w' => (∃ b : Bool, e = .returned (.bool b)) ∧ w' = w := by
  unfold maxLen at w0 w1 w2
  go_enter Try.func7, Try.ntmps7
  go_wp2
  all_goals (go_ret; exact ⟨⟨_, rfl⟩, rfl⟩)
end Go.Proofs.Qxb6616879a
