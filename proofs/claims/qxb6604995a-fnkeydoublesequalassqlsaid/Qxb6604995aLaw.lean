import Derived.Test.Qxb6604995aKey
namespace Go.Proofs.Qxb6604995a.kd
open Go.RowKit

theorem ret_bool {a b : Bool} (h : a = b) : Ending.returned (.bool a) = .returned (.bool b) := by rw [h]

set_option maxRecDepth 100000 in
set_option maxHeartbeats 1000000 in
theorem law_oo (x y : Nat) (w : World) (h1 : okD x = true) (h2 : okD y = true) : Calls Try.prog 3 #[.float .f64 x, .float .f64 y] w fun e w' => e = .returned (.bool true) ∧ Below w.heap.size w w' := by
  have Hx : Hid (okD x = true) := h1
  have Hy : Hid (okD y = true) := h2
  have hx : (FloatKind.f64.format.order x x != some .eq) = false := by
    have : (FloatKind.f64.format.order x x == some .eq) = true := h1
    simp [bne, this]
  have hy : (FloatKind.f64.format.order y y != some .eq) = false := by
    have : (FloatKind.f64.format.order y y == some .eq) = true := h2
    simp [bne, this]
  clear h1 h2
  go_enter Try.func3, Try.ntmps3
  go_wp2_with fail
  refine (zz_ok x _ Hx.out).mono ?_
  rintro e w1 ⟨rfl, B1⟩
  have HB1 : Hid (Below w.heap.size w w1) := B1
  clear B1
  go_wp2_with fail
  refine (zz_ok y _ Hy.out).mono ?_
  rintro e w2 ⟨rfl, B2⟩
  have HB2 : Hid (Below w.heap.size w w2) := HB1.out.trans (B2.mono HB1.out.size)
  clear B2
  go_wp2_with fail
  refine (is_ok x _ Hx.out).mono ?_
  rintro e w3 ⟨rfl, rfl⟩
  go_wp2_with fail
  refine (is_ok y _ Hy.out).mono ?_
  rintro e w3 ⟨rfl, rfl⟩
  go_wp2_with fail
  all_goals (go_ret; exact ⟨ret_bool (by simp [*]), HB2.out⟩)

set_option maxRecDepth 100000 in
set_option maxHeartbeats 1000000 in
theorem law_on (x y : Nat) (w : World) (h1 : okD x = true) (h2 : okD y = false) : Calls Try.prog 3 #[.float .f64 x, .float .f64 y] w fun e w' => e = .returned (.bool true) ∧ Below w.heap.size w w' := by
  have Hx : Hid (okD x = true) := h1
  have Hy : Hid (okD y = false) := h2
  have hx : (FloatKind.f64.format.order x x != some .eq) = false := by
    have : (FloatKind.f64.format.order x x == some .eq) = true := h1
    simp [bne, this]
  have hy : (FloatKind.f64.format.order y y != some .eq) = true := by
    have : (FloatKind.f64.format.order y y == some .eq) = false := h2
    simp [bne, this]
  have hxy : (FloatKind.f64.format.order x y == some .eq) = false := nan_right h2 x
  clear h1 h2
  go_enter Try.func3, Try.ntmps3
  go_wp2_with fail
  refine (zz_ok x _ Hx.out).mono ?_
  rintro e w1 ⟨rfl, B1⟩
  have HB1 : Hid (Below w.heap.size w w1) := B1
  clear B1
  go_wp2_with fail
  refine (zz_nan y _ Hy.out).mono ?_
  rintro e w2 ⟨rfl, B2⟩
  have HB2 : Hid (Below w.heap.size w w2) := HB1.out.trans (B2.mono HB1.out.size)
  clear B2
  go_wp2_with fail
  refine (is_ok x _ Hx.out).mono ?_
  rintro e w3 ⟨rfl, rfl⟩
  go_wp2_with fail
  refine (is_nan y _ Hy.out).mono ?_
  rintro e w3 ⟨rfl, rfl⟩
  go_wp2_with fail
  all_goals (go_ret; exact ⟨ret_bool (by simp [*]), HB2.out⟩)

set_option maxRecDepth 100000 in
set_option maxHeartbeats 1000000 in
theorem law_no (x y : Nat) (w : World) (h1 : okD x = false) (h2 : okD y = true) : Calls Try.prog 3 #[.float .f64 x, .float .f64 y] w fun e w' => e = .returned (.bool true) ∧ Below w.heap.size w w' := by
  have Hx : Hid (okD x = false) := h1
  have Hy : Hid (okD y = true) := h2
  have hx : (FloatKind.f64.format.order x x != some .eq) = true := by
    have : (FloatKind.f64.format.order x x == some .eq) = false := h1
    simp [bne, this]
  have hy : (FloatKind.f64.format.order y y != some .eq) = false := by
    have : (FloatKind.f64.format.order y y == some .eq) = true := h2
    simp [bne, this]
  have hxy : (FloatKind.f64.format.order x y == some .eq) = false := nan_left h1 y
  clear h1 h2
  go_enter Try.func3, Try.ntmps3
  go_wp2_with fail
  refine (zz_nan x _ Hx.out).mono ?_
  rintro e w1 ⟨rfl, B1⟩
  have HB1 : Hid (Below w.heap.size w w1) := B1
  clear B1
  go_wp2_with fail
  refine (zz_ok y _ Hy.out).mono ?_
  rintro e w2 ⟨rfl, B2⟩
  have HB2 : Hid (Below w.heap.size w w2) := HB1.out.trans (B2.mono HB1.out.size)
  clear B2
  go_wp2_with fail
  refine (is_nan x _ Hx.out).mono ?_
  rintro e w3 ⟨rfl, rfl⟩
  go_wp2_with fail
  refine (is_ok y _ Hy.out).mono ?_
  rintro e w3 ⟨rfl, rfl⟩
  go_wp2_with fail
  all_goals (go_ret; exact ⟨ret_bool (by simp [*]), HB2.out⟩)

set_option maxRecDepth 100000 in
set_option maxHeartbeats 1000000 in
theorem law_nn (x y : Nat) (w : World) (h1 : okD x = false) (h2 : okD y = false) : Calls Try.prog 3 #[.float .f64 x, .float .f64 y] w fun e w' => e = .returned (.bool true) ∧ Below w.heap.size w w' := by
  have Hx : Hid (okD x = false) := h1
  have Hy : Hid (okD y = false) := h2
  have hx : (FloatKind.f64.format.order x x != some .eq) = true := by
    have : (FloatKind.f64.format.order x x == some .eq) = false := h1
    simp [bne, this]
  have hy : (FloatKind.f64.format.order y y != some .eq) = true := by
    have : (FloatKind.f64.format.order y y == some .eq) = false := h2
    simp [bne, this]
  have hxy : (FloatKind.f64.format.order x y == some .eq) = false := nan_left h1 y
  clear h1 h2
  go_enter Try.func3, Try.ntmps3
  go_wp2_with fail
  refine (zz_nan x _ Hx.out).mono ?_
  rintro e w1 ⟨rfl, B1⟩
  have HB1 : Hid (Below w.heap.size w w1) := B1
  clear B1
  go_wp2_with fail
  refine (zz_nan y _ Hy.out).mono ?_
  rintro e w2 ⟨rfl, B2⟩
  have HB2 : Hid (Below w.heap.size w w2) := HB1.out.trans (B2.mono HB1.out.size)
  clear B2
  go_wp2_with fail
  refine (is_nan x _ Hx.out).mono ?_
  rintro e w3 ⟨rfl, rfl⟩
  go_wp2_with fail
  refine (is_nan y _ Hy.out).mono ?_
  rintro e w3 ⟨rfl, rfl⟩
  go_wp2_with fail
  all_goals (go_ret; exact ⟨ret_bool (by simp [*]), HB2.out⟩)

theorem law_any (x y : Nat) (w : World) : Calls Try.prog 3 #[.float .f64 x, .float .f64 y] w fun e w' => e = .returned (.bool true) ∧ Below w.heap.size w w' := by
  cases h1 : okD x with
  | true =>
    cases h2 : okD y with
    | true => exact law_oo x y w h1 h2
    | false => exact law_on x y w h1 h2
  | false =>
    cases h2 : okD y with
    | true => exact law_no x y w h1 h2
    | false => exact law_nn x y w h1 h2

end Go.Proofs.Qxb6604995a.kd
