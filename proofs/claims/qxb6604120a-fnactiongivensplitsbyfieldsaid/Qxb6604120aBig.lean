import Derived.Test.Qxb6604120aGiven
namespace Go.Proofs.Qxb6604120a.act
open Go.RowKit

/-- Some Boolean comes back; the world is as it was. -/
def BPost (w : World) (e : Ending) (w' : World) : Prop := ∃ b, e = .returned (.bool b) ∧ w = w'

/-- The strings are no longer than a string can be. -/
def Short (o : Option ByteArray) : Prop := ∀ s, o = some s → s.size ≤ maxLen

set_option maxRecDepth 100000 in
set_option maxHeartbeats 4000000 in
theorem bytes_any {w : World} {p0 p1 p6 : Option Addr} {o0 o1 o6 : Option ByteArray} (hr : Bool) (x y z : ByteArray) (h0 : PS w p0 o0) (h1 : PS w p1 o1) (h6 : PS w p6 o6) (s0 : Short o0) (s1 : Short o1) (s6 : Short o6)
    (hx : x.size ≤ maxLen) (hy : y.size ≤ maxLen) (hz : z.size ≤ maxLen) :
    Calls Try.prog 5 #[.pointer p0, .pointer p1, .bool hr, .string x, .string y, .string z, .pointer p6] w fun e w' => BPost w e w' := by
  unfold maxLen at hx hy hz
  rcases h0 with ⟨rfl, rfl⟩ | ⟨b0, f0, t0, rfl, rfl, _, c0⟩ <;> rcases h1 with ⟨rfl, rfl⟩ | ⟨b1, f1, t1, rfl, rfl, _, c1⟩ <;> rcases h6 with ⟨rfl, rfl⟩ | ⟨b6, f6, t6, rfl, rfl, _, c6⟩
  all_goals
    try have l0 := s0 _ rfl
    try have l1 := s1 _ rfl
    try have l6 := s6 _ rfl
    try unfold maxLen at l0
    try unfold maxLen at l1
    try unfold maxLen at l6
    clear s0 s1 s6
    go_enter Try.func5, Try.ntmps5
    go_wp2
    all_goals (go_ret; exact ⟨_, rfl, rfl⟩)

set_option maxRecDepth 100000 in
set_option maxHeartbeats 4000000 in
theorem big_any {w : World} {p0 p1 p6 : Option Addr} {o0 o1 o6 : Option ByteArray} (x y z : ByteArray) (h0 : PS w p0 o0) (h1 : PS w p1 o1) (h6 : PS w p6 o6) (s0 : Short o0) (s1 : Short o1) (s6 : Short o6)
    (hx : x.size ≤ maxLen) (hy : y.size ≤ maxLen) (hz : z.size ≤ maxLen) :
    Calls Try.prog 6 #[.pointer p0, .pointer p1, .string x, .string y, .string z, .pointer p6] w fun e w' => BPost w e w' := by
  unfold maxLen at hx hy hz
  rcases h0 with ⟨rfl, rfl⟩ | ⟨b0, f0, t0, rfl, rfl, _, c0⟩ <;> rcases h1 with ⟨rfl, rfl⟩ | ⟨b1, f1, t1, rfl, rfl, _, c1⟩ <;> rcases h6 with ⟨rfl, rfl⟩ | ⟨b6, f6, t6, rfl, rfl, _, c6⟩
  all_goals
    try have l0 := s0 _ rfl
    try have l1 := s1 _ rfl
    try have l6 := s6 _ rfl
    try unfold maxLen at l0
    try unfold maxLen at l1
    try unfold maxLen at l6
    clear s0 s1 s6
    go_enter Try.func6, Try.ntmps6
    go_wp2
    all_goals (go_ret; exact ⟨_, rfl, rfl⟩)

end Go.Proofs.Qxb6604120a.act
