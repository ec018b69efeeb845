import Derived.Test.Qxb6604067aLeaf
namespace Go.Proofs.Qxb6604067a.psg
open Go.RowKit

set_option maxRecDepth 100000 in
set_option maxHeartbeats 1000000 in
theorem law_early (t0 t9 : ByteArray) (b1 b4 : Bool) (a2 a3 : Option Addr) (l2 c2 l3 c3 : Nat) (i5 i6 i7 i8 : Int) (w : World)
    (h0 : t0.size ≤ maxLen) (h2 : l2 ≤ maxLen) (h3 : l3 ≤ maxLen) (h9 : t9.size ≤ maxLen) (hbad : 1048576 < t0.size + 3 * l2 + 16 * l3 + t9.size) :
    Calls Try.prog 3 #[.string t0, .bool b1, .slice a2 l2 c2, .slice a3 l3 c3, .bool b4, .int .i64 i5, .int .i64 i6, .int .i64 i7, .int .i64 i8, .string t9] w
      fun e w' => e = .returned (.bool true) ∧ w = w' := by
  have H0 := h0
  have H2 := h2
  have H3 := h3
  have H9 := h9
  unfold maxLen at h0 h2 h3 h9
  go_enter Try.func3, Try.ntmps3
  go_wp2_with (go_at_call 5; refine (bytes_any t0 t9 b1 b4 a2 a3 l2 c2 l3 c3 i5 i6 i7 i8 _ H0 H2 H3 H9).mono ?_; rintro e w' ⟨b, rfl, rfl⟩)
  all_goals (go_ret; exact ⟨rfl, rfl⟩)

set_option maxRecDepth 100000 in
set_option maxHeartbeats 1000000 in
theorem law_none (t0 t9 : ByteArray) (b1 b4 : Bool) (a2 a3 : Option Addr) (l2 c2 l3 c3 : Nat) (i5 i6 i7 i8 : Int) (w : World)
    (hok : t0.size + 3 * l2 + 16 * l3 + t9.size ≤ 1048576) (hbad : t9.size = 0) :
    Calls Try.prog 3 #[.string t0, .bool b1, .slice a2 l2 c2, .slice a3 l3 c3, .bool b4, .int .i64 i5, .int .i64 i6, .int .i64 i7, .int .i64 i8, .string t9] w
      fun e w' => e = .returned (.bool true) ∧ w = w' := by
  go_enter Try.func3, Try.ntmps3
  go_wp2_with (go_at_call 5; refine (bytes_any t0 t9 b1 b4 a2 a3 l2 c2 l3 c3 i5 i6 i7 i8 _ (by unfold maxLen; omega) (by unfold maxLen; omega) (by unfold maxLen; omega) (by unfold maxLen; omega)).mono ?_; rintro e w' ⟨b, rfl, rfl⟩)
  all_goals (go_ret; exact ⟨rfl, rfl⟩)

set_option maxRecDepth 100000 in
set_option maxHeartbeats 1000000 in
theorem law_else (t0 t9 : ByteArray) (b1 b4 : Bool) (a2 a3 : Option Addr) (l2 c2 l3 c3 : Nat) (i5 i6 i7 i8 : Int) (w : World)
    (hok : t0.size + 3 * l2 + 16 * l3 + t9.size ≤ 1048576) (hp : 0 < t9.size) (hbad : (((t9[0]'hp).toNat : Int) != 40) = true) :
    Calls Try.prog 3 #[.string t0, .bool b1, .slice a2 l2 c2, .slice a3 l3 c3, .bool b4, .int .i64 i5, .int .i64 i6, .int .i64 i7, .int .i64 i8, .string t9] w
      fun e w' => e = .returned (.bool true) ∧ w = w' := by
  have hp' : ((t9.size : Int) == 0) = false := beq_eq_false_iff_ne.2 (by omega)
  go_enter Try.func3, Try.ntmps3
  go_wp2_with (go_at_call 5; refine (bytes_any t0 t9 b1 b4 a2 a3 l2 c2 l3 c3 i5 i6 i7 i8 _ (by unfold maxLen; omega) (by unfold maxLen; omega) (by unfold maxLen; omega) (by unfold maxLen; omega)).mono ?_; rintro e w' ⟨b, rfl, rfl⟩)
  all_goals (go_ret; exact ⟨rfl, rfl⟩)

end Go.Proofs.Qxb6604067a.psg
