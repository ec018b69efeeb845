import Derived.Test.Qxb6604067aProg
import Derived.Test.Qxb6604067aPlain
import Derived.WalkKit
import Derived.WalkSpells
namespace Go.Proofs.Qxb6604067a.psg
open Go.RowKit

theorem ret_bool {a b : Bool} (h : a = b) : Ending.returned (.bool a) = .returned (.bool b) := by rw [h]

set_option maxHeartbeats 400000 in
theorem flag_any (c : Int) (w : World) :
    Calls Try.prog 27 #[.int .u8 c] w fun e w' => e = .returned (.bool (flagB c)) ∧ w = w' := by
  go_enter Try.func27, Try.ntmps27
  go_wp2
  all_goals (go_ret; exact ⟨ret_bool (by simp [flagB, *]), rfl⟩)

set_option maxHeartbeats 400000 in
theorem bytes_any (t0 t9 : ByteArray) (b1 b4 : Bool) (a2 a3 : Option Addr) (l2 c2 l3 c3 : Nat) (i5 i6 i7 i8 : Int) (w : World)
    (h0 : t0.size ≤ maxLen) (h2 : l2 ≤ maxLen) (h3 : l3 ≤ maxLen) (h9 : t9.size ≤ maxLen) :
    Calls Try.prog 5 #[.string t0, .bool b1, .slice a2 l2 c2, .slice a3 l3 c3, .bool b4, .int .i64 i5, .int .i64 i6, .int .i64 i7, .int .i64 i8, .string t9] w
      fun e w' => ∃ b, e = .returned (.bool b) ∧ w = w' := by
  unfold maxLen at h0 h2 h3 h9
  go_enter Try.func5, Try.ntmps5
  go_wp2
  all_goals (go_ret; exact ⟨_, rfl, rfl⟩)
end Go.Proofs.Qxb6604067a.psg
