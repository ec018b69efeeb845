import Derived.Test.Qxb6604120aCopy
namespace Go.Proofs.Qxb6604120a.scn
open Go.RowKit

theorem ret_ans {Z : Nat → Int} {n : Nat} {i : Int} {b : Bool} {x : Int} (h : ans Z n i = (b, x)) :
    Ending.returned (.tuple #[.bool b, .int .i64 x]) = .returned (.tuple #[.bool (ans Z n i).1, .int .i64 (ans Z n i).2]) := by rw [h]
theorem ret_ans' {Z : Nat → Int} {n : Nat} {i : Int} {b : Bool} {x y : Int} (h : ans Z n i = (b, x)) (e : y = x) :
    Ending.returned (.tuple #[.bool b, .int .i64 y]) = .returned (.tuple #[.bool (ans Z n i).1, .int .i64 (ans Z n i).2]) := by rw [h, e]

set_option maxRecDepth 100000 in
set_option maxHeartbeats 1000000 in
theorem model_past (a : Option Addr) (n c : Nat) (i : Int) (Z : Nat → Int) (w : World) (hp : ¬ i < n) :
    Calls Try.prog 14 #[.slice a n c, .int .i64 i] w fun e w' => e = .returned (.tuple #[.bool (ans Z n i).1, .int .i64 (ans Z n i).2]) ∧ w = w' := by
  have ha : Hid (ans Z n i = (false, i)) := ans_past hp
  go_enter Try.func14, Try.ntmps14
  go_wp2
  go_ret2
  exact ⟨ret_ans ha.out, rfl⟩

set_option maxRecDepth 100000 in
set_option maxHeartbeats 1000000 in
theorem model_other (b off n c k : Nat) (Z : Nat → Int) (w : World) (hk : k < n) (hr : Hid (BRow w b off n Z)) (hz : Z k ≠ 34) :
    Calls Try.prog 14 #[.slice (some ⟨b, off, none⟩) n c, .int .i64 k] w fun e w' => e = .returned (.tuple #[.bool (ans Z n k).1, .int .i64 (ans Z n k).2]) ∧ w = w' := by
  have ha : Hid (ans Z n k = (false, (k : Int))) := ans_other hz
  have hk' : (k : Int) < (n : Int) := by omega
  have hc := hr.out k hk
  have hz' : (Z k != 34) = true := by simpa using hz
  clear hz
  go_enter Try.func14, Try.ntmps14
  go_wp2
  go_ret2
  exact ⟨ret_ans ha.out, rfl⟩

set_option maxRecDepth 100000 in
set_option maxHeartbeats 2000000 in
theorem model_quote (b off n c k : Nat) (Z : Nat → Int) (w : World) (hn : n ≤ 1048576) (hk : k < n) (hr : Hid (BRow w b off n Z)) (hz : Z k = 34) :
    Calls Try.prog 14 #[.slice (some ⟨b, off, none⟩) n c, .int .i64 k] w fun e w' => e = .returned (.tuple #[.bool (ans Z n k).1, .int .i64 (ans Z n k).2]) ∧ w = w' := by
  have HZ : Hid (Z k = 34) := hz
  have hk' : (k : Int) < (n : Int) := by omega
  have hc := hr.out k hk
  have hz' : (Z k != 34) = false := by simp [hz]
  have hnk : ¬ n ≤ k := by omega
  have hnk' : decide (n ≤ k) = false := by simpa using hnk
  clear hz
  go_enter Try.func14, Try.ntmps14
  go_wp2_with fail
  clear hc hz'
  go_loop [6] (fun u => ∃ m : Nat, k < m ∧ m ≤ n ∧ u = .int .i64 m ∧ Hid (∀ i, k < i → i < m → Z i = 34 → run Z k i % 2 = 1)) (fun u => n - (intOf u).toNat)
  case atStart => exact ⟨k + 1, by omega, by omega, by go_num, fun i h1 h2 => absurd h2 (by omega)⟩
  case round =>
    obtain ⟨m, hkm, hm, rfl, hodd⟩ := hrel
    by_cases hlt : m < n
    · have hlt' : (m : Int) < (n : Int) := by omega
      have hc := hr.out m hlt
      by_cases h34 : Z m = 34
      · have h34' : (Z m != 34) = false := by simp [h34]
        have H34 : Hid (Z m = 34) := h34
        clear h34
        go_wp2_with fail
        go_loop [7, 8] (fun u v => ∃ cnt q : Nat, k ≤ q ∧ q < m ∧ cnt ≤ m ∧ u = .int .i64 cnt ∧ v = .int .i64 q ∧ Hid (cnt + run Z k (q + 1) = run Z k m)) (fun _ v => (intOf v).toNat)
        case atStart => exact ⟨0, m - 1, by omega, by omega, by omega, rfl, by go_num, by show 0 + run Z k (m - 1 + 1) = run Z k m; rw [show m - 1 + 1 = m from by omega]; omega⟩
        case round =>
          obtain ⟨cnt, q, hq1, hq2, hcm, rfl, rfl, hrun⟩ := hrel
          by_cases hq : k < q
          · have hq' : (k : Int) < (q : Int) := by omega
            have hqn : (q : Int) < (n : Int) := by omega
            have hcq := hr.out q (by omega)
            by_cases h92 : Z q = 92
            · have h92' : (Z q == 92) = true := by simp [h92]
              have hnx : Hid (cnt + 1 + run Z k (q - 1 + 1) = run Z k m) := by
                show cnt + 1 + run Z k (q - 1 + 1) = run Z k m
                rw [show q - 1 + 1 = q from by omega, ← hrun.out, run_back hq h92]; omega
              have hcl : Hid (cnt + 1 ≤ m) := by
                show cnt + 1 ≤ m
                have := run_le Z k m
                have := hnx.out
                omega
              clear h92
              go_wp2_with fail
              go_round
              case rel => exact ⟨cnt + 1, q - 1, by omega, by omega, hcl.out, by go_num, by go_num, hnx⟩
              case measure => simp [intOf]; omega
            · have h92' : (Z q == 92) = false := by simp [h92]
              have hcr : Hid (cnt = run Z k m) := by show cnt = run Z k m; rw [← hrun.out, run_other h92]; omega
              by_cases hpar : cnt % 2 = 0
              · have hpar' : ((cnt : Int) % 2 == 0) = true := beq_iff_eq.2 (by omega)
                have ha : Hid (ans Z n k = (true, ((m + 1 : Nat) : Int))) := ans_quote hk HZ.out (model_closes hkm hlt H34.out (by rw [← hcr.out]; exact hpar) hodd.out)
                go_wp2_with fail
                go_ret2
                exact ⟨ret_ans' ha.out (by omega), rfl⟩
              · have hpar' : ((cnt : Int) % 2 == 0) = false := beq_eq_false_iff_ne.2 (by omega)
                have hod : Hid (run Z k m % 2 = 1) := by
                  show run Z k m % 2 = 1
                  rw [← hcr.out]; omega
                go_wp2_with fail
                go_round
                case rel => exact ⟨m + 1, by omega, by omega, by go_num, fun i h1 h2 h3 => by rcases Nat.lt_succ_iff_lt_or_eq.1 h2 with h | h; exact hodd.out i h1 h h3; rw [h]; exact hod.out⟩
                case measure => simp [intOf]; omega
          · have hq' : ¬ (k : Int) < (q : Int) := by omega
            have hcr : Hid (cnt = run Z k m) := by show cnt = run Z k m; rw [← hrun.out, run_start (by omega)]; omega
            by_cases hpar : cnt % 2 = 0
            · have hpar' : ((cnt : Int) % 2 == 0) = true := beq_iff_eq.2 (by omega)
              have ha : Hid (ans Z n k = (true, ((m + 1 : Nat) : Int))) := ans_quote hk HZ.out (model_closes hkm hlt H34.out (by rw [← hcr.out]; exact hpar) hodd.out)
              go_wp2_with fail
              go_ret2
              exact ⟨ret_ans' ha.out (by omega), rfl⟩
            · have hpar' : ((cnt : Int) % 2 == 0) = false := beq_eq_false_iff_ne.2 (by omega)
              have hod : Hid (run Z k m % 2 = 1) := by
                show run Z k m % 2 = 1
                rw [← hcr.out]; omega
              go_wp2_with fail
              go_round
              case rel => exact ⟨m + 1, by omega, by omega, by go_num, fun i h1 h2 h3 => by rcases Nat.lt_succ_iff_lt_or_eq.1 h2 with h | h; exact hodd.out i h1 h h3; rw [h]; exact hod.out⟩
              case measure => simp [intOf]; omega
      · have h34' : (Z m != 34) = true := by simp [h34]
        go_wp2_with fail
        go_round
        case rel => exact ⟨m + 1, by omega, by omega, by go_num, fun i h1 h2 h3 => by rcases Nat.lt_succ_iff_lt_or_eq.1 h2 with h | h; exact hodd.out i h1 h h3; rw [h] at h3; exact absurd h3 h34⟩
        case measure => simp [intOf]; omega
    · have hlt' : ¬ (m : Int) < (n : Int) := by omega
      have ha : Hid (ans Z n k = (false, (n : Int))) := ans_quote hk HZ.out (model_open (fun i h1 h2 => hodd.out i h1 (by omega)))
      go_wp2_with fail
      go_ret2
      exact ⟨ret_ans ha.out, rfl⟩

theorem model_any (a : Option Addr) (n c : Nat) (i : Int) (Z : Nat → Int) (w : World) (hn : n ≤ 1048576) (h0 : 0 ≤ i) (h : InB w a n Z) :
    Calls Try.prog 14 #[.slice a n c, .int .i64 i] w fun e w' => e = .returned (.tuple #[.bool (ans Z n i).1, .int .i64 (ans Z n i).2]) ∧ w = w' := by
  by_cases hp : i < n
  · obtain ⟨k, rfl⟩ := Int.eq_ofNat_of_zero_le h0
    rcases h with rfl | ⟨b, off, rfl, hb, hr⟩
    · omega
    · by_cases hz : Z k = 34
      · exact model_quote b off n c k Z w hn (by omega) hr hz
      · exact model_other b off n c k Z w (by omega) hr hz
  · exact model_past a n c i Z w hp

end Go.Proofs.Qxb6604120a.scn
