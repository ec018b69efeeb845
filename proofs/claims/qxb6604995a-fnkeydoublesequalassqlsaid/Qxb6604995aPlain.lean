import Derived.Laws.FloatArith
/-
  The plain mathematics of the law on the keys of doubles: no Go in sight.
-/
namespace Go.Proofs.Qxb6604995a.kd
open Ieee

/-- Not a NaN: it equals itself. -/
def okD (x : Nat) : Bool := double.order x x == some .eq
/-- Equal as numbers. -/
def eqD (x y : Nat) : Bool := double.order x y == some .eq

theorem order_self (d : Datum) : (∃ s p, d = .nan s p) ∨ d.order d = some .eq := by
  cases d with
  | nan s p => exact .inl ⟨s, p, rfl⟩
  | infinity s => right; simp [Datum.order]
  | number s m i => right; simp [Datum.order]

theorem nan_left {x : Nat} (h : okD x = false) (y : Nat) : eqD x y = false := by
  unfold okD Format.order at h
  unfold eqD Format.order
  rcases order_self (double.read x) with ⟨s, p, e⟩ | e
  · rw [e]; cases double.read y <;> rfl
  · rw [e] at h; cases h
theorem nan_right {y : Nat} (h : okD y = false) (x : Nat) : eqD x y = false := by
  unfold okD Format.order at h
  unfold eqD Format.order
  rcases order_self (double.read y) with ⟨s, p, e⟩ | e
  · rw [e]; cases double.read x <;> rfl
  · rw [e] at h; cases h

theorem read_one : double.read 4607182418800017408 = .number false 4503599627370496 (-52) := by decide +kernel

theorem quot_some (k : Nat) (s t : Bool) (m n : Nat) (i j : Int) (hm : m ≠ 0) : ∃ d, Datum.quotient k (.number s m i) (.number t n j) = some d := by
  simp only [Datum.quotient]
  by_cases hn : n = 0
  · rw [if_pos hn, if_neg hm]; exact ⟨_, rfl⟩
  · rw [if_neg hn]; exact ⟨_, rfl⟩

/-- One divided by what is no NaN: the operation is valid. -/
theorem div_some {x : Nat} (h : okD x = true) : ∃ r, double.div 4607182418800017408 x = some r := by
  unfold Format.div
  rw [read_one]
  unfold okD Format.order at h
  cases e : double.read x with
  | nan s p => rw [e] at h; simp [Datum.order] at h
  | infinity s => exact ⟨_, rfl⟩
  | number s m i =>
    obtain ⟨d, hd⟩ := quot_some (double.fractionBits + 2) false s 4503599627370496 m (-52) i (by decide)
    exact ⟨_, by rw [hd]; rfl⟩

end Go.Proofs.Qxb6604995a.kd
