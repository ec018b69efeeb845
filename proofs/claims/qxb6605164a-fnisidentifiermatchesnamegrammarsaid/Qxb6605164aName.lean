import Derived.Test.Qxb6605164aProg
import Derived.Test.Qxb6605164aPlain
import Derived.WalkKit
import Derived.WalkSpells
namespace Go.Proofs.Qxb6605164a.idn
open Go.RowKit

theorem ret_bool {a b : Bool} (h : a = b) : Ending.returned (.bool a) = .returned (.bool b) := by rw [h]

/-- Folding the case bit sends the letters, and no other byte, onto the small letters. -/
theorem fold_fin : ∀ n : Fin 256, (decide (97 ≤ bits BinOp.or IntKind.u8 ((n.val : Nat) : Int) 32) && decide (bits BinOp.or IntKind.u8 ((n.val : Nat) : Int) 32 ≤ 122)) =
    ((decide (97 ≤ ((n.val : Nat) : Int)) && decide (((n.val : Nat) : Int) ≤ 122)) || (decide (65 ≤ ((n.val : Nat) : Int)) && decide (((n.val : Nat) : Int) ≤ 90))) := by decide +kernel
theorem fold_byte (c : UInt8) : (decide (97 ≤ bits BinOp.or IntKind.u8 (c.toNat : Int) 32) && decide (bits BinOp.or IntKind.u8 (c.toNat : Int) 32 ≤ 122)) =
    ((decide (97 ≤ (c.toNat : Int)) && decide ((c.toNat : Int) ≤ 122)) || (decide (65 ≤ (c.toNat : Int)) && decide ((c.toNat : Int) ≤ 90))) :=
  fold_fin ⟨c.toNat, c.toNat_lt⟩

theorem start_95 {c : Int} (h : (c == 95) = true) : true = startB c := by unfold startB; rw [h]; rfl
theorem start_hi {c : UInt8} (h : ((c.toNat : Int) == 95) = false) (h1 : 97 ≤ bits BinOp.or IntKind.u8 (c.toNat : Int) 32) : decide (bits BinOp.or IntKind.u8 (c.toNat : Int) 32 ≤ 122) = startB (c.toNat : Int) := by
  unfold startB
  have := fold_byte c
  rw [decide_eq_true h1, Bool.true_and] at this
  rw [h, Bool.false_or, this]
theorem start_lo {c : UInt8} (h : ((c.toNat : Int) == 95) = false) (h1 : bits BinOp.or IntKind.u8 (c.toNat : Int) 32 < 97) : false = startB (c.toNat : Int) := by
  unfold startB
  have := fold_byte c
  rw [decide_eq_false (by omega), Bool.false_and] at this
  rw [h, Bool.false_or, ← this]

set_option maxRecDepth 100000 in
set_option maxHeartbeats 1000000 in
theorem start_any (c : UInt8) (w : World) : Calls Try.prog 8 #[.int .u8 (c.toNat : Int)] w fun e w' => e = .returned (.bool (startB (c.toNat : Int))) ∧ w = w' := by
  go_enter Try.func8, Try.ntmps8
  go_wp2
  · go_ret; exact ⟨ret_bool (start_95 (by assumption)), rfl⟩
  · go_ret; exact ⟨ret_bool (start_hi (by assumption) (by assumption)), rfl⟩
  · go_ret; exact ⟨ret_bool (start_lo (by assumption) (by assumption)), rfl⟩

set_option maxRecDepth 100000 in
set_option maxHeartbeats 1000000 in
theorem dec_any (c : Int) (w : World) : Calls Try.prog 9 #[.int .u8 c] w fun e w' => e = .returned (.bool (decB c)) ∧ w = w' := by
  go_enter Try.func9, Try.ntmps9
  go_wp2
  all_goals (go_ret; exact ⟨ret_bool (by simp [decB]; try omega), rfl⟩)

set_option maxRecDepth 100000 in
set_option maxHeartbeats 1000000 in
theorem bytes_any (s : ByteArray) (w : World) (h : s.size ≤ maxLen) : Calls Try.prog 4 #[.string s] w fun e w' => ∃ b, e = .returned (.bool b) ∧ w = w' := by
  unfold maxLen at h
  go_enter Try.func4, Try.ntmps4
  go_wp2
  all_goals (go_ret; exact ⟨_, rfl, rfl⟩)

set_option maxRecDepth 100000 in
set_option maxHeartbeats 1000000 in
theorem grammar_big (s : ByteArray) (w : World) (h : s.size ≤ 1048576) (hb : 63 < s.size) : Calls Try.prog 6 #[.string s] w fun e w' => e = .returned (.bool (nameB s)) ∧ w = w' := by
  have hn : Hid (false = nameB s) := (name_big hb).symm
  go_enter Try.func6, Try.ntmps6
  go_wp2
  go_ret
  exact ⟨ret_bool hn.out, rfl⟩

set_option maxRecDepth 100000 in
set_option maxHeartbeats 2000000 in
theorem grammar_mid (s : ByteArray) (w : World) (hb : s.size ≤ 63) : Calls Try.prog 6 #[.string s] w fun e w' => e = .returned (.bool (nameB s)) ∧ w = w' := by
  go_enter Try.func6, Try.ntmps6
  go_wp2_with fail
  go_loop [3, 4] (fun u i => ∃ k : Nat, k ≤ s.size ∧ i = .int .i64 k ∧ u = .int .i64 (state s k)) (fun _ i => s.size - (intOf i).toNat)
  case atStart => exact ⟨0, Nat.zero_le _, rfl, rfl⟩
  case round =>
    obtain ⟨k, hk, rfl, rfl⟩ := hrel
    by_cases hlt : k < s.size
    · have hlt' : (k : Int) < (s.size : Int) := by omega
      have HB : Hid (((s[k]'hlt).toNat : Int) = bt s k) := bt_get s k hlt
      rcases state_cases s k with ⟨hk0, hs⟩ | ⟨hk0, hg, hs⟩ | ⟨hk0, hg, hs⟩
      · rw [hs]
        have HK0 : Hid (k = 0) := hk0
        clear hk0
        have hs' : Hid (state s k = 0) := hs
        clear hs
        go_wp2_with (go_at_call 8; refine (start_any (s[k]'hlt) _).mono ?_; rintro e w' ⟨rfl, rfl⟩)
        · have hb1 : startB (s[k].toNat : Int) = true := by assumption
          have hst : state s (k + 1) = 1 := by rw [HB.out, HK0.out] at hb1; rw [HK0.out]; exact state_one rfl (okAt_first hb1)
          go_round
          case rel => exact ⟨k + 1, by omega, by go_num, by rw [hst]⟩
          case measure => simp [intOf]; omega
        · have hb1 : startB (s[k].toNat : Int) = false := by assumption
          have hst : state s (k + 1) = 2 := by rw [HB.out, HK0.out] at hb1; rw [HK0.out]; exact state_two (.inr (okAt_first hb1))
          go_round
          case rel => exact ⟨k + 1, by omega, by go_num, by rw [hst]⟩
          case measure => simp [intOf]; omega
      · rw [hs]
        have HG : Hid (good s k = true) := hg
        clear hs hg
        go_wp2_with (first | (go_at_call 8; refine (start_any (s[k]'hlt) _).mono ?_; rintro e w' ⟨rfl, rfl⟩) | (go_at_call 9; refine (dec_any _ _).mono ?_; rintro e w' ⟨rfl, rfl⟩))
        · have hb1 : startB (s[k].toNat : Int) = true := by assumption
          have hst : state s (k + 1) = 1 := by rw [HB.out] at hb1; exact state_one HG.out (by rw [okAt_later hk0, hb1]; rfl)
          go_round
          case rel => exact ⟨k + 1, by omega, by go_num, by rw [hst]⟩
          case measure => simp [intOf]; omega
        · have hb1 : ¬ startB (s[k].toNat : Int) = true := by assumption
          have hb2 : (!decB (s[k].toNat : Int)) = true := by assumption
          have hst : state s (k + 1) = 2 := by rw [HB.out] at hb1 hb2; exact state_two (.inr (by rw [okAt_later hk0]; simp at hb1 hb2; simp [hb1, hb2]))
          go_round
          case rel => exact ⟨k + 1, by omega, by go_num, by rw [hst]⟩
          case measure => simp [intOf]; omega
        · have hb1 : (!decB (s[k].toNat : Int)) = false := by assumption
          have hst : state s (k + 1) = 1 := by rw [HB.out] at hb1; exact state_one HG.out (by rw [okAt_later hk0]; simp at hb1; simp [hb1])
          go_round
          case rel => exact ⟨k + 1, by omega, by go_num, by rw [hst]⟩
          case measure => simp [intOf]; omega
      · rw [hs]
        have HG : Hid (good s k = false) := hg
        clear hs hg
        have hst : Hid (state s (k + 1) = 2) := state_two (.inl HG.out)
        go_wp2_with fail
        go_round
        case rel => exact ⟨k + 1, by omega, by go_num, by rw [hst.out]⟩
        case measure => simp [intOf]; omega
    · have hlt' : ¬ (k : Int) < (s.size : Int) := by omega
      have hkn : Hid (k = s.size) := by show k = s.size; omega
      go_wp2_with fail
      go_ret
      exact ⟨ret_bool (by rw [hkn.out]; exact state_end hb), rfl⟩

theorem ok1 {s : ByteArray} {k : Nat} (h : k < s.size) (e : (((s[k]'h).toNat : Int) == 95) = true) : okAt s k = true := by
  rw [bt_get] at e; unfold okAt startB; rw [e]; rfl
theorem ok2 {s : ByteArray} {k : Nat} (h : k < s.size) (e1 : 97 ≤ ((s[k]'h).toNat : Int)) (e2 : ((s[k]'h).toNat : Int) ≤ 122) : okAt s k = true := by
  rw [bt_get] at e1 e2; unfold okAt startB; simp [e1, e2]
theorem ok3 {s : ByteArray} {k : Nat} (h : k < s.size) (e1 : 65 ≤ ((s[k]'h).toNat : Int)) (e2 : ((s[k]'h).toNat : Int) ≤ 90) : okAt s k = true := by
  rw [bt_get] at e1 e2; unfold okAt startB; simp [e1, e2]
theorem ok4 {s : ByteArray} {k : Nat} (h : k < s.size) (e1 : 48 ≤ ((s[k]'h).toNat : Int)) (e2 : ((s[k]'h).toNat : Int) ≤ 57) (hk : 0 < k) : okAt s k = true := by
  rw [bt_get] at e1 e2; unfold okAt decB; simp [e1, e2, hk]
theorem nok {s : ByteArray} {k : Nat} (h : k < s.size) (e : (((s[k]'h).toNat : Int) == 95) = false) (e1 : 97 ≤ ((s[k]'h).toNat : Int) → 122 < ((s[k]'h).toNat : Int)) (e2 : 65 ≤ ((s[k]'h).toNat : Int) → 90 < ((s[k]'h).toNat : Int))
    (e3 : 48 ≤ ((s[k]'h).toNat : Int) → 57 < ((s[k]'h).toNat : Int) ∨ k = 0) : okAt s k = false := by
  rw [bt_get] at e e1 e2 e3
  have a1 : (decide (97 ≤ bt s k) && decide (bt s k ≤ 122)) = false := by
    rw [Bool.and_eq_false_iff]; simp; omega
  have a2 : (decide (65 ≤ bt s k) && decide (bt s k ≤ 90)) = false := by
    rw [Bool.and_eq_false_iff]; simp; omega
  have a3 : ((decide (48 ≤ bt s k) && decide (bt s k ≤ 57)) && decide (0 < k)) = false := by
    rw [Bool.and_eq_false_iff, Bool.and_eq_false_iff]; simp; omega
  unfold okAt startB decB
  rw [e, a1, a2, a3]; rfl
theorem good_next {s : ByteArray} {k : Nat} (h1 : good s k = true) (h2 : okAt s k = true) : good s (k + 1) = true := by
  show (good s k && okAt s k) = true
  rw [h1, h2]; rfl

set_option maxRecDepth 100000 in
set_option maxHeartbeats 2000000 in
theorem ident_mid (s : ByteArray) (w : World) (h1 : 1 ≤ s.size) (hb : s.size ≤ 63) : Calls Try.prog 7 #[.string s] w fun e w' => e = .returned (.bool (nameB s)) ∧ w = w' := by
  have hne : s.toList.isEmpty = false := by
    rw [ByteArray.toList_eq]
    cases e : s.data.toList with
    | nil => have : s.data.toList.length = 0 := by rw [e]; rfl
             have h2 : s.data.toList.length = s.size := by simp
             omega
    | cons a l => rfl
  go_enter Try.func7, Try.ntmps7
  go_wp2_with fail
  go_loop [3] (fun i => ∃ k : Nat, k ≤ s.size ∧ i = .int .i64 k ∧ Hid (good s k = true)) (fun i => s.size - (intOf i).toNat)
  case atStart => exact ⟨0, Nat.zero_le _, rfl, rfl⟩
  case round =>
    obtain ⟨k, hk, rfl, hg⟩ := hrel
    by_cases hlt : k < s.size
    · have hlt' : (k : Int) < (s.size : Int) := by omega
      go_wp2_with fail
      · have hok := ok1 hlt (by assumption)
        go_round
        case rel => exact ⟨k + 1, by omega, by go_num, good_next hg.out hok⟩
        case measure => simp [intOf]; omega
      · have hok := ok2 hlt (by assumption) (by assumption)
        go_round
        case rel => exact ⟨k + 1, by omega, by go_num, good_next hg.out hok⟩
        case measure => simp [intOf]; omega
      · have hno := nok hlt (by assumption) (by omega) (by omega) (by omega)
        go_ret
        exact ⟨ret_bool (by rw [name_mid h1 hb, good_stop hno s.size hlt]), rfl⟩
      · have hok := ok3 hlt (by assumption) (by assumption)
        go_round
        case rel => exact ⟨k + 1, by omega, by go_num, good_next hg.out hok⟩
        case measure => simp [intOf]; omega
      · have hno := nok hlt (by assumption) (by omega) (by omega) (by omega)
        go_ret
        exact ⟨ret_bool (by rw [name_mid h1 hb, good_stop hno s.size hlt]), rfl⟩
      · have hok := ok4 hlt (by assumption) (by assumption) (by assumption)
        go_round
        case rel => exact ⟨k + 1, by omega, by go_num, good_next hg.out hok⟩
        case measure => simp [intOf]; omega
      · have hno := nok hlt (by assumption) (by omega) (by omega) (by omega)
        go_ret
        exact ⟨ret_bool (by rw [name_mid h1 hb, good_stop hno s.size hlt]), rfl⟩
      · have hno := nok hlt (by assumption) (by omega) (by omega) (by omega)
        go_ret
        exact ⟨ret_bool (by rw [name_mid h1 hb, good_stop hno s.size hlt]), rfl⟩
      · have hno := nok hlt (by assumption) (by omega) (by omega) (by omega)
        go_ret
        exact ⟨ret_bool (by rw [name_mid h1 hb, good_stop hno s.size hlt]), rfl⟩
    · have hlt' : ¬ (k : Int) < (s.size : Int) := by omega
      have hkn : Hid (k = s.size) := by show k = s.size; omega
      go_wp2_with fail
      go_ret
      exact ⟨ret_bool (by rw [name_mid h1 hb, ← hkn.out, hg.out]), rfl⟩

set_option maxRecDepth 100000 in
set_option maxHeartbeats 1000000 in
theorem ident_big (s : ByteArray) (w : World) (h : s.size ≤ 1048576) (hb : 63 < s.size) : Calls Try.prog 7 #[.string s] w fun e w' => e = .returned (.bool (nameB s)) ∧ w = w' := by
  have hn : Hid (false = nameB s) := (name_big hb).symm
  go_enter Try.func7, Try.ntmps7
  go_wp2
  all_goals (go_ret; exact ⟨ret_bool hn.out, rfl⟩)

set_option maxRecDepth 100000 in
set_option maxHeartbeats 1000000 in
theorem ident_none (s : ByteArray) (w : World) (hb : s.size = 0) : Calls Try.prog 7 #[.string s] w fun e w' => e = .returned (.bool (nameB s)) ∧ w = w' := by
  have hn : Hid (false = nameB s) := (name_small hb).symm
  have hne : s.toList.isEmpty = true := by
    rw [ByteArray.toList_eq]
    have h2 : s.data.toList.length = s.size := by simp
    cases e : s.data.toList with
    | nil => rfl
    | cons a l => rw [e] at h2; simp at h2; omega
  clear hb
  go_enter Try.func7, Try.ntmps7
  go_wp2
  all_goals (go_ret; exact ⟨ret_bool hn.out, rfl⟩)

theorem ident_any (s : ByteArray) (w : World) (h : s.size ≤ 1048576) : Calls Try.prog 7 #[.string s] w fun e w' => e = .returned (.bool (nameB s)) ∧ w = w' := by
  by_cases h0 : s.size = 0
  · exact ident_none s w h0
  · by_cases h1 : 63 < s.size
    · exact ident_big s w h h1
    · exact ident_mid s w (by omega) (by omega)
theorem grammar_any (s : ByteArray) (w : World) (h : s.size ≤ 1048576) : Calls Try.prog 6 #[.string s] w fun e w' => e = .returned (.bool (nameB s)) ∧ w = w' := by
  by_cases h1 : 63 < s.size
  · exact grammar_big s w h h1
  · exact grammar_mid s w (by omega)

set_option maxRecDepth 100000 in
set_option maxHeartbeats 1000000 in
theorem zz_any (s : ByteArray) (w : World) (h : s.size ≤ 1048576) : Calls Try.prog 5 #[.string s] w fun e w' => e = .returned (.bool (nameB s)) ∧ w = w' := by
  go_enter Try.func5, Try.ntmps5
  go_wp2_with (go_at_call 7; refine (ident_any s _ h).mono ?_; rintro e w' ⟨rfl, rfl⟩)
  go_ret
  exact ⟨rfl, rfl⟩

end Go.Proofs.Qxb6605164a.idn
