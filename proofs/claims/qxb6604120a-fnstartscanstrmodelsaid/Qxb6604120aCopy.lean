import Derived.Test.Qxb6604120aProg
import Derived.Test.Qxb6604120aPlain
import Derived.WalkKit
import Derived.WalkSpells
import Derived.Lib.LazyBuf
namespace Go.Proofs.Qxb6604120a.scn
open Go.RowKit

theorem info5 : (Try.prog.info? 5).map (fun i => (i.zero, i.size, i.bytes)) = some (some (.int .u8 0), 1, 1) := by kernel_rfl

/-- The n bytes Z lie in block b from offset off on. -/
def BRow (w : World) (b off : Nat) (n : Nat) (Z : Nat → Int) : Prop := ∀ k, k < n → w.cell? ⟨b, off + k, none⟩ = some (.int .u8 (Z k))

/-- What is known of a slice that is read: it is empty, or its n bytes lie there. -/
def InB (w : World) (a : Option Addr) (n : Nat) (Z : Nat → Int) : Prop := n = 0 ∨ ∃ b off, a = some ⟨b, off, none⟩ ∧ b < w.heap.size ∧ BRow w b off n Z

theorem InB.below {w w' : World} {T : Nat} {a : Option Addr} {n : Nat} {Z : Nat → Int} (h : InB w a n Z) (hB : Below T w w') (hw : w.heap.size ≤ T) : InB w' a n Z := by
  rcases h with h | ⟨b, off, rfl, hb, hr⟩
  · exact .inl h
  · refine .inr ⟨b, off, rfl, Nat.lt_of_lt_of_le hb hB.size, fun k hk => ?_⟩
    have hbB : b < T := Nat.lt_of_lt_of_le hb hw
    rw [hB.cell (p := ⟨b, _, none⟩) hbB]
    exact hr k hk

theorem rowB_step {wr : World} {base g n k : Nat} {xs : List Value} {Z : Nat → Int} (ho : wr.ownsRow base 5 1 (.slice (some ⟨g, 0, none⟩) n n) n xs) (hG : BRow wr g 0 k Z) (hk : k < n) :
    BRow (wr.setCell ⟨g, k, none⟩ (.int .u8 (Z k))) g 0 (k + 1) Z ∧ ∃ ys, (wr.setCell ⟨g, k, none⟩ (.int .u8 (Z k))).ownsRow base 5 1 (.slice (some ⟨g, 0, none⟩) n n) n ys := by
  obtain ⟨h0, _⟩ := ho.stored k (.int .u8 (Z k))
  refine ⟨fun j hj => ?_, _, h0⟩
  have hl := ho.1
  simp only [Nat.zero_add]
  rw [h0.cellAt j (by omega)]
  rcases Nat.lt_succ_iff_lt_or_eq.1 hj with h | rfl
  · have old := hG j h
    simp only [Nat.zero_add] at old
    rw [ho.cellAt j (by omega)] at old
    rw [List.getElem?_set, if_neg (by omega)]
    exact old
  · simp [List.getElem?_set, hl]
    omega

set_option maxRecDepth 100000 in
set_option maxHeartbeats 1000000 in
theorem copy_some (b off n cap : Nat) (Z : Nat → Int) (w : World) (hn : n ≤ 1048576) (hr : Hid (BRow w b off n Z)) (hbl : b < w.heap.size) :
    Calls Try.prog 12 #[.slice (some ⟨b, off, none⟩) n cap] w fun e w' => e = .returned (.slice (some ⟨w.heap.size, 0, none⟩) n n) ∧ w.heap.size < w'.heap.size ∧ BRow w' w.heap.size 0 n Z ∧ Below w.heap.size w w' := by
  obtain ⟨i0, hi, hz0, hz1, hz2⟩ := info_parts info5
  have hnil := fun wx => Lib.run_eql_slice_nil (P := Try.prog) wx 34 5 (some ⟨b, off, none⟩) n cap 0 0 Try.underlying34
  go_enter Try.func12, Try.ntmps12
  go_wp2_with (at_make; refine wpList_make_full _ rfl _ _ 34 rfl w.heap.size 5 i0 (.int .u8 0) 1 Try.underlying34 hi hz0 hz1 .i64 .i64 _ _ n rfl rfl rfl rfl (by rw [hz2]; omega) (by unfold maxLen; omega) (by omega) ?_; intro w1 hown hgrow)
  go_loopw [4] (fun i wr => ∃ k : Nat, k ≤ n ∧ i = .int .i64 k ∧ (∃ xs, Hid (BRow wr w.heap.size 0 k Z) ∧ wr.ownsRow w.heap.size 5 1 (.slice (some ⟨w.heap.size, 0, none⟩) n n) n xs) ∧ Below w.heap.size w wr) (fun i _ => n - (intOf i).toNat)
  case atStart => exact ⟨0, Nat.zero_le _, rfl, ⟨_, fun k hk => absurd hk (by omega), hown⟩, (Below.refl _ _).grown hgrow (Nat.le_refl _) (fun k hk => by cases hk)⟩
  case round =>
    obtain ⟨k, hk, rfl, ⟨xs, hG, ho⟩, hbel⟩ := hrel
    by_cases hlt : k < n
    · have hlt' : (k : Int) < (n : Int) := by omega
      have a0 := hr.out k hlt
      have d0 := (hbel.cell (p := ⟨b, off + k, none⟩) hbl).trans a0
      have fz := ho.frozenAt
      have hl := ho.1
      have e0 := ho.cellAt k (by omega)
      rw [List.getElem?_eq_getElem (by omega)] at e0
      have S := rowB_step ho hG.out hlt
      have HS : Hid _ := S
      clear a0 S
      go_wp2
      obtain ⟨S1, ys, S2⟩ := HS.out
      go_roundw
      case rel => exact ⟨k + 1, by omega, by go_num, ⟨ys, S1, S2⟩, hbel.setCell (Nat.le_refl _) _⟩
      case measure => simp [intOf]; omega
    · have hlt' : ¬ (k : Int) < (n : Int) := by omega
      obtain rfl : k = n := by omega
      have hsz := (ho.lt w.heap.size rfl).2
      go_wp2
      go_ret
      exact ⟨rfl, hsz, hG.out, hbel⟩

set_option maxRecDepth 100000 in
set_option maxHeartbeats 1000000 in
theorem copy_empty (x : Addr) (cap : Nat) (w : World) :
    Calls Try.prog 12 #[.slice (some x) 0 cap] w fun e w' => e = .returned (.slice (some ⟨w.heap.size, 0, none⟩) 0 0) ∧ Below w.heap.size w w' := by
  obtain ⟨i0, hi, hz0, hz1, hz2⟩ := info_parts info5
  have hnil := fun wx => Lib.run_eql_slice_nil (P := Try.prog) wx 34 5 (some x) 0 cap 0 0 Try.underlying34
  go_enter Try.func12, Try.ntmps12
  go_wp2_with (at_make; refine wpList_make_full _ rfl _ _ 34 rfl w.heap.size 5 i0 (.int .u8 0) 1 Try.underlying34 hi hz0 hz1 .i64 .i64 _ _ 0 rfl rfl rfl rfl (by omega) (by unfold maxLen; omega) (by omega) ?_; intro w1 hown hgrow)
  refine wp_loop_rounds 1 ?_
  rw [rounds_succ]
  go_wp2
  go_ret
  exact ⟨rfl, (Below.refl _ _).grown hgrow (Nat.le_refl _) (fun k hk => by cases hk)⟩

set_option maxRecDepth 100000 in
set_option maxHeartbeats 1000000 in
theorem copy_nil (w : World) :
    Calls Try.prog 12 #[.slice none 0 0] w fun e w' => e = .returned (.slice none 0 0) ∧ w = w' := by
  have hnil := fun wx => Lib.run_eql_slice_nil (P := Try.prog) wx 34 5 none 0 0 0 0 Try.underlying34
  go_enter Try.func12, Try.ntmps12
  go_wp2
  go_ret
  exact ⟨rfl, rfl⟩

theorem copy_any (a : Option Addr) (n cap : Nat) (Z : Nat → Int) (w : World) (hn : n ≤ 1048576) (hnil : a = none → n = 0 ∧ cap = 0) (h : InB w a n Z) :
    Calls Try.prog 12 #[.slice a n cap] w fun e w' => ∃ a' c', e = .returned (.slice a' n c') ∧ InB w' a' n Z ∧ Below w.heap.size w w' := by
  cases a with
  | none =>
    obtain ⟨rfl, rfl⟩ := hnil rfl
    refine (copy_nil w).mono fun e w' ⟨he, hw⟩ => ?_
    subst hw
    exact ⟨_, _, he, .inl rfl, Below.refl _ _⟩
  | some x =>
    rcases h with rfl | ⟨b, off, hx, hb, hr⟩
    · exact (copy_empty x cap w).mono fun e w' ⟨he, hB⟩ => ⟨_, _, he, .inl rfl, hB⟩
    · cases hx
      exact (copy_some b off n cap Z w hn hr hb).mono fun e w' ⟨he, hs, hR, hB⟩ => ⟨_, _, he, .inr ⟨_, _, rfl, hs, hR⟩, hB⟩

set_option maxHeartbeats 400000 in
theorem bytes_any (a : Option Addr) (n c : Nat) (i : Int) (w : World) (h : n ≤ maxLen) :
    Calls Try.prog 11 #[.slice a n c, .int .i64 i] w fun e w' => ∃ b, e = .returned (.bool b) ∧ w = w' := by
  unfold maxLen at h
  go_enter Try.func11, Try.ntmps11
  go_wp2
  all_goals (go_ret; exact ⟨_, rfl, rfl⟩)

end Go.Proofs.Qxb6604120a.scn
