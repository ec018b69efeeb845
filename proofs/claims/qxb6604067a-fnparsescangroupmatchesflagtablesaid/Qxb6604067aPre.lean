import Derived.Test.Qxb6604067aLeaf
import Derived.Lib.Strings
namespace Go.Proofs.Qxb6604067a.psg
open Go.RowKit

def has1 (s : ByteArray) : Bool := decide (1 ≤ s.size) && bt s 0 == 60
def has2 (s : ByteArray) : Bool := decide (2 ≤ s.size) && (bt s 0 == 80 && bt s 1 == 60)

theorem u8_int (a b : UInt8) : (a == b) = ((a.toNat : Int) == (b.toNat : Int)) := by
  rw [Bool.eq_iff_iff, beq_iff_eq, beq_iff_eq, ← UInt8.toNat_inj]; omega

theorem pre1 (s : ByteArray) (h : 1 ≤ s.size) (x : UInt8) : ((s.extract 0 1).toList == [x]) = (bt s 0 == (x.toNat : Int)) := by
  rw [Lib.extract_toList]
  have hl : 1 ≤ s.data.toList.length := by simpa using h
  unfold bt
  generalize s.data.toList = l at *
  match l, hl with
  | a :: r, _ => simp [u8_int]

theorem pre2 (s : ByteArray) (h : 2 ≤ s.size) (x y : UInt8) : ((s.extract 0 2).toList == [x, y]) = (bt s 0 == (x.toNat : Int) && bt s 1 == (y.toNat : Int)) := by
  rw [Lib.extract_toList]
  have hl : 2 ≤ s.data.toList.length := by simpa using h
  unfold bt
  generalize s.data.toList = l at *
  match l, hl with
  | a :: b :: r, _ => simp [u8_int]

theorem plainB_eq (t : ByteArray) : plainB t = (decide (t.size < 2) || bt t 1 != 63 || has1 (t.extract 2 t.size) || has2 (t.extract 2 t.size)) := by
  unfold plainB has1 has2
  rw [bt_cut, bt_cut, size_cut]
  have e1 : decide (3 ≤ t.size) = decide (1 ≤ t.size - 2) := by rw [decide_eq_decide]; omega
  have e2 : decide (4 ≤ t.size) = decide (2 ≤ t.size - 2) := by rw [decide_eq_decide]; omega
  rw [e1, e2, Bool.and_assoc]

set_option maxHeartbeats 400000 in
theorem has1_any (s : ByteArray) (w : World) (hs : s.size ≤ 1048576) :
    Calls Try.prog 34 #[.string s, .string ⟨#[60]⟩] w fun e w' => e = .returned (.bool (has1 s)) ∧ w = w' := by
  go_enter Try.func34, Try.ntmps34
  go_wp2
  · go_ret
    exact ⟨ret_bool (by rw [pre1 s (by omega)]; unfold has1; rw [decide_eq_true (show 1 ≤ s.size by omega)]; rfl), rfl⟩
  · go_ret
    exact ⟨ret_bool (by unfold has1; rw [decide_eq_false (show ¬ 1 ≤ s.size by omega)]; rfl), rfl⟩

set_option maxHeartbeats 400000 in
theorem has2_any (s : ByteArray) (w : World) (hs : s.size ≤ 1048576) :
    Calls Try.prog 34 #[.string s, .string ⟨#[80, 60]⟩] w fun e w' => e = .returned (.bool (has2 s)) ∧ w = w' := by
  go_enter Try.func34, Try.ntmps34
  go_wp2
  · go_ret
    exact ⟨ret_bool (by rw [pre2 s (by omega)]; unfold has2; rw [decide_eq_true (show 2 ≤ s.size by omega)]; rfl), rfl⟩
  · go_ret
    exact ⟨ret_bool (by unfold has2; rw [decide_eq_false (show ¬ 2 ≤ s.size by omega)]; rfl), rfl⟩

set_option maxHeartbeats 400000 in
theorem cut_yes (s : ByteArray) (w : World) (hs : s.size ≤ 1048576) (h2 : 2 ≤ s.size) (e : ((s.extract 0 2).toList == [40, 63]) = true) :
    Calls Try.prog 33 #[.string s, .string ⟨#[40, 63]⟩] w fun e w' => e = .returned (.tuple #[.string (s.extract 2 s.size), .bool true]) ∧ w = w' := by
  have h2' : (2 : Int) ≤ s.size := by omega
  go_enter Try.func33, Try.ntmps33
  go_wp2
  go_ret2
  exact ⟨rfl, rfl⟩

set_option maxHeartbeats 400000 in
theorem cut_no2 (s : ByteArray) (w : World) (hs : s.size ≤ 1048576) (h2 : 2 ≤ s.size) (e : ((s.extract 0 2).toList == [40, 63]) = false) :
    Calls Try.prog 33 #[.string s, .string ⟨#[40, 63]⟩] w fun e w' => e = .returned (.tuple #[.string s, .bool false]) ∧ w = w' := by
  have h2' : (2 : Int) ≤ s.size := by omega
  go_enter Try.func33, Try.ntmps33
  go_wp2
  go_ret2
  exact ⟨rfl, rfl⟩

set_option maxHeartbeats 400000 in
theorem cut_no1 (s : ByteArray) (w : World) (h2 : s.size < 2) :
    Calls Try.prog 33 #[.string s, .string ⟨#[40, 63]⟩] w fun e w' => e = .returned (.tuple #[.string s, .bool false]) ∧ w = w' := by
  have h2' : (s.size : Int) < 2 := by omega
  go_enter Try.func33, Try.ntmps33
  go_wp2
  go_ret2
  exact ⟨rfl, rfl⟩

theorem cut_no (s : ByteArray) (w : World) (hs : s.size ≤ 1048576) (h : s.size < 2 ∨ bt s 1 ≠ 63) :
    Calls Try.prog 33 #[.string s, .string ⟨#[40, 63]⟩] w fun e w' => e = .returned (.tuple #[.string s, .bool false]) ∧ w = w' := by
  by_cases h2 : s.size < 2
  · exact cut_no1 s w h2
  · refine cut_no2 s w hs (by omega) ?_
    rw [pre2 s (by omega)]
    have : bt s 1 ≠ 63 := by omega
    simp [this]

theorem cut_ok (s : ByteArray) (w : World) (hs : s.size ≤ 1048576) (h2 : 2 ≤ s.size) (h0 : bt s 0 = 40) (h1 : bt s 1 = 63) :
    Calls Try.prog 33 #[.string s, .string ⟨#[40, 63]⟩] w fun e w' => e = .returned (.tuple #[.string (s.extract 2 s.size), .bool true]) ∧ w = w' := by
  refine cut_yes s w hs h2 ?_
  rw [pre2 s h2, h0, h1]; rfl

end Go.Proofs.Qxb6604067a.psg
