import Derived.Test.Qxb6604995aProg
import Derived.Test.Qxb6604995aPlain
import Derived.WalkKit
import Derived.WalkSpells
import Derived.WalkLawsBesides
import Derived.Laws.FloatArith
namespace Go.Proofs.Qxb6604995a.kd
open Go.RowKit

/-! ### What the type assertions on a double, and on the key of NaN, come to -/
theorem ta_real (x : Nat) (w : World) : (Instr.typeAssert (.iface 30 (.float .f64 x)) 28 42 true).run Try.prog w = .ok (.tuple #[.float .f32 0, .bool false]) w := by kernel_rfl
theorem ta_double (x : Nat) (w : World) : (Instr.typeAssert (.iface 30 (.float .f64 x)) 28 30 true).run Try.prog w = .ok (.tuple #[.float .f64 x, .bool true]) w := by kernel_rfl
theorem ta_num (x : Nat) (w : World) : (Instr.typeAssert (.iface 30 (.float .f64 x)) 28 36 true).run Try.prog w = .ok (.tuple #[.agg #[.bool false, .string ByteArray.empty, .int .i64 0, .int .i64 0], .bool false]) w := by kernel_rfl
theorem ta_nan (x : Nat) (w : World) : (Instr.typeAssert (.iface 30 (.float .f64 x)) 28 32 true).run Try.prog w = .ok (.tuple #[.agg #[], .bool false]) w := by kernel_rfl
theorem tk_double (w : World) : (Instr.typeAssert (.iface 32 (.agg #[])) 28 30 true).run Try.prog w = .ok (.tuple #[.float .f64 0, .bool false]) w := by kernel_rfl
theorem tk_nan (w : World) : (Instr.typeAssert (.iface 32 (.agg #[])) 28 32 true).run Try.prog w = .ok (.tuple #[.agg #[], .bool true]) w := by kernel_rfl

set_option maxRecDepth 100000 in
set_option maxHeartbeats 1000000 in
theorem isNaN_any (x : Nat) (w : World) : Calls Try.prog 8 #[.float .f64 x] w fun e w' => e = .returned (.bool !(okD x)) ∧ w = w' := by
  go_enter Try.func8, Try.ntmps8
  go_wp2
  go_ret
  exact ⟨rfl, rfl⟩

set_option maxRecDepth 100000 in
set_option maxHeartbeats 1000000 in
theorem asFloat_any (x : Nat) (w : World) : Calls Try.prog 7 #[.iface 30 (.float .f64 x)] w fun e w' => e = .returned (.tuple #[.float .f64 x, .bool true]) ∧ w = w' := by
  have t1 := ta_real x
  have t2 := ta_double x
  go_enter Try.func7, Try.ntmps7
  go_wp2
  go_ret2
  exact ⟨rfl, rfl⟩

set_option maxRecDepth 100000 in
set_option maxHeartbeats 1000000 in
theorem key_ok (x : Nat) (w : World) (h : okD x = true) : Calls Try.prog 6 #[.iface 30 (.float .f64 x)] w fun e w' => e = .returned (.iface 30 (.float .f64 x)) ∧ Below w.heap.size w w' := by
  have t1 := ta_num x
  go_enter Try.func6, Try.ntmps6
  go_wp2_with (first | (go_at_call 7; refine (asFloat_any x _).mono ?_; rintro e w' ⟨rfl, rfl⟩) | (go_at_call 8; refine (isNaN_any x _).mono ?_; rintro e w' ⟨rfl, rfl⟩))
  go_ret
  exact ⟨rfl, (Below.refl _ _).alloc (Nat.le_refl _) _⟩

set_option maxRecDepth 100000 in
set_option maxHeartbeats 1000000 in
theorem key_nan (x : Nat) (w : World) (h : okD x = false) : Calls Try.prog 6 #[.iface 30 (.float .f64 x)] w fun e w' => e = .returned (.iface 32 (.agg #[])) ∧ Below w.heap.size w w' := by
  have t1 := ta_num x
  go_enter Try.func6, Try.ntmps6
  go_wp2_with (first | (go_at_call 7; refine (asFloat_any x _).mono ?_; rintro e w' ⟨rfl, rfl⟩) | (go_at_call 8; refine (isNaN_any x _).mono ?_; rintro e w' ⟨rfl, rfl⟩))
  go_ret
  exact ⟨rfl, (Below.refl _ _).alloc (Nat.le_refl _) _⟩

set_option maxRecDepth 100000 in
set_option maxHeartbeats 1000000 in
theorem zz_ok (x : Nat) (w : World) (h : okD x = true) : Calls Try.prog 4 #[.float .f64 x] w fun e w' => e = .returned (.tuple #[.bool false, .bool true, .float .f64 x]) ∧ Below w.heap.size w w' := by
  have t1 := ta_nan x
  have t2 := ta_double x
  go_enter Try.func4, Try.ntmps4
  go_wp2_with fail
  refine (key_ok x w h).mono ?_
  rintro e w1 ⟨rfl, B1⟩
  have HB : Hid (Below w.heap.size w w1) := B1
  clear B1
  go_wp2_with fail
  go_ret3
  exact ⟨rfl, HB.out.alloc HB.out.size _⟩

set_option maxRecDepth 100000 in
set_option maxHeartbeats 1000000 in
theorem zz_nan (x : Nat) (w : World) (h : okD x = false) : Calls Try.prog 4 #[.float .f64 x] w fun e w' => e = .returned (.tuple #[.bool true, .bool false, .float .f64 0]) ∧ Below w.heap.size w w' := by
  have t1 := tk_nan
  have t2 := tk_double
  go_enter Try.func4, Try.ntmps4
  go_wp2_with fail
  refine (key_nan x w h).mono ?_
  rintro e w1 ⟨rfl, B1⟩
  have HB : Hid (Below w.heap.size w w1) := B1
  clear B1
  go_wp2_with fail
  go_ret3
  exact ⟨rfl, HB.out.alloc HB.out.size _⟩

set_option maxRecDepth 100000 in
set_option maxHeartbeats 1000000 in
theorem is_ok (x : Nat) (w : World) (h : okD x = true) : Calls Try.prog 5 #[.float .f64 x, .bool false, .bool true, .float .f64 x] w fun e w' => e = .returned (.bool true) ∧ w = w' := by
  obtain ⟨r, hr⟩ := div_some h
  have hq := fun wx => run_float_arith (P := Try.prog) wx .quo 22 .f64 4607182418800017408 x r hr
  have hx : (FloatKind.f64.format.order x x != some .eq) = false := by
    have : (FloatKind.f64.format.order x x == some .eq) = true := h
    simp [bne, this]
  clear hr h
  go_enter Try.func5, Try.ntmps5
  go_wp2
  all_goals (go_ret; exact ⟨rfl, rfl⟩)

set_option maxRecDepth 100000 in
set_option maxHeartbeats 1000000 in
theorem is_nan (x : Nat) (w : World) (h : okD x = false) : Calls Try.prog 5 #[.float .f64 x, .bool true, .bool false, .float .f64 0] w fun e w' => e = .returned (.bool true) ∧ w = w' := by
  have hx : (FloatKind.f64.format.order x x != some .eq) = true := by
    have : (FloatKind.f64.format.order x x == some .eq) = false := h
    simp [bne, this]
  clear h
  go_enter Try.func5, Try.ntmps5
  go_wp2
  all_goals (go_ret; exact ⟨rfl, rfl⟩)

end Go.Proofs.Qxb6604995a.kd
