import Derived.Test.Qxb6604067aScan
import Derived.Lib.LazyBuf
namespace Go.Proofs.Qxb6604067a.psg
open Go.RowKit

theorem info31 : (Try.prog.info? 31).map (fun i => (i.zero, i.size, i.bytes)) = some (some (.agg #[.bool false, .bool false, .bool false]), 3, 3) := by kernel_rfl

/-- Row of n elements from block b, offset off on. -/
def GRow (w : World) (b off : Nat) (n : Nat) (A B C : Nat → Bool) : Prop :=
  ∀ k, k < n → w.cell? ⟨b, off + k * 3, none⟩ = some (.bool (A k)) ∧ w.cell? ⟨b, off + k * 3 + 1, none⟩ = some (.bool (B k)) ∧ w.cell? ⟨b, off + k * 3 + 2, none⟩ = some (.bool (C k))

/-- What is known of a slice that is read: it is empty, or its n elements lie there. -/
def InG (w : World) (a : Option Addr) (n : Nat) (A B C : Nat → Bool) : Prop :=
  n = 0 ∨ ∃ b off, a = some ⟨b, off, none⟩ ∧ b < w.heap.size ∧ GRow w b off n A B C

theorem InG.below {w w' : World} {T : Nat} {a : Option Addr} {n : Nat} {A B C : Nat → Bool} (h : InG w a n A B C) (hB : Below T w w') (hw : w.heap.size ≤ T) : InG w' a n A B C := by
  rcases h with h | ⟨b, off, rfl, hb, hr⟩
  · exact .inl h
  · refine .inr ⟨b, off, rfl, Nat.lt_of_lt_of_le hb hB.size, fun k hk => ?_⟩
    have hbB : b < T := Nat.lt_of_lt_of_le hb hw
    simp only [hB.cell (p := ⟨b, _, none⟩) hbB]
    exact hr k hk

theorem rowG_step {wr : World} {base g n k : Nat} {xs : List Value} {A B C : Nat → Bool} (ho : wr.ownsRow base 31 3 (.slice (some ⟨g, 0, none⟩) n n) n xs) (hG : GRow wr g 0 k A B C) (hk : k < n) :
    GRow (((wr.setCell ⟨g, k * 3, none⟩ (.bool (A k))).setCell ⟨g, k * 3 + 1, none⟩ (.bool (B k))).setCell ⟨g, k * 3 + 2, none⟩ (.bool (C k))) g 0 (k + 1) A B C ∧ ∃ ys, (((wr.setCell ⟨g, k * 3, none⟩ (.bool (A k))).setCell ⟨g, k * 3 + 1, none⟩ (.bool (B k))).setCell ⟨g, k * 3 + 2, none⟩ (.bool (C k))).ownsRow base 31 3 (.slice (some ⟨g, 0, none⟩) n n) n ys := by
  obtain ⟨h0, _⟩ := ho.stored (k * 3) (.bool (A k))
  obtain ⟨h1, _⟩ := h0.stored (k * 3 + 1) (.bool (B k))
  obtain ⟨h2, _⟩ := h1.stored (k * 3 + 2) (.bool (C k))
  refine ⟨fun j hj => ?_, _, h2⟩
  have hl := ho.1
  simp only [Nat.zero_add]
  rw [h2.cellAt (j * 3) (by omega), h2.cellAt (j * 3 + 1) (by omega), h2.cellAt (j * 3 + 2) (by omega)]
  rcases Nat.lt_succ_iff_lt_or_eq.1 hj with h | rfl
  · have old := hG j h
    simp only [Nat.zero_add] at old
    rw [ho.cellAt (j * 3) (by omega), ho.cellAt (j * 3 + 1) (by omega), ho.cellAt (j * 3 + 2) (by omega)] at old
    simp only [List.getElem?_set]
    repeat rw [if_neg (by omega)]
    exact old
  · simp [List.getElem?_set, hl]
    omega

set_option maxRecDepth 100000 in
set_option maxHeartbeats 1000000 in
theorem copyG_some (b off n cap : Nat) (A B C : Nat → Bool) (w : World) (hn : n ≤ 1048576) (hr : Hid (GRow w b off n A B C)) (hbl : b < w.heap.size) :
    Calls Try.prog 6 #[.slice (some ⟨b, off, none⟩) n cap] w fun e w' => e = .returned (.slice (some ⟨w.heap.size, 0, none⟩) n n) ∧ w.heap.size < w'.heap.size ∧ GRow w' w.heap.size 0 n A B C ∧ Below w.heap.size w w' := by
  obtain ⟨i0, hi, hz0, hz1, hz2⟩ := info_parts info31
  have hnil := fun wx => Lib.run_eql_slice_nil (P := Try.prog) wx 22 31 (some ⟨b, off, none⟩) n cap 0 0 Try.underlying22
  go_enter Try.func6, Try.ntmps6
  go_wp2_with (at_make; refine wpList_make_full _ rfl _ _ 22 rfl w.heap.size 31 i0 (.agg #[.bool false, .bool false, .bool false]) 3 Try.underlying22 hi hz0 hz1 .i64 .i64 _ _ n rfl rfl rfl rfl (by rw [hz2]; omega) (by unfold maxLen; omega) (by omega) ?_; intro w1 hown hgrow)
  go_loopw [4] (fun i wr => ∃ k : Nat, k ≤ n ∧ i = .int .i64 k ∧ (∃ xs, Hid (GRow wr w.heap.size 0 k A B C) ∧ wr.ownsRow w.heap.size 31 3 (.slice (some ⟨w.heap.size, 0, none⟩) n n) n xs) ∧ Below w.heap.size w wr) (fun i _ => n - (intOf i).toNat)
  case atStart => exact ⟨0, Nat.zero_le _, rfl, ⟨_, fun k hk => absurd hk (by omega), hown⟩, (Below.refl _ _).grown hgrow (Nat.le_refl _) (fun k hk => by cases hk)⟩
  case round =>
    obtain ⟨k, hk, rfl, ⟨xs, hG, ho⟩, hbel⟩ := hrel
    by_cases hlt : k < n
    · have hlt' : (k : Int) < (n : Int) := by omega
      obtain ⟨a0, a1, a2⟩ := hr.out k hlt
      have d0 := (hbel.cell (p := ⟨b, off + k * 3, none⟩) hbl).trans a0
      have d1 := (hbel.cell (p := ⟨b, off + k * 3 + 1, none⟩) hbl).trans a1
      have d2 := (hbel.cell (p := ⟨b, off + k * 3 + 2, none⟩) hbl).trans a2
      have fz := ho.frozenAt
      have hl := ho.1
      have e0 := ho.cellAt (k * 3) (by omega)
      have e1 := ho.cellAt (k * 3 + 1) (by omega)
      have e2 := ho.cellAt (k * 3 + 2) (by omega)
      rw [List.getElem?_eq_getElem (by omega)] at e0 e1 e2
      have S := rowG_step ho hG.out hlt
      have HS : Hid _ := S
      clear a0 a1 a2 S
      go_wp2
      obtain ⟨S1, ys, S2⟩ := HS.out
      go_roundw
      case rel => exact ⟨k + 1, by omega, by go_num, ⟨ys, S1, S2⟩, ((hbel.setCell (Nat.le_refl _) _).setCell (Nat.le_refl _) _).setCell (Nat.le_refl _) _⟩
      case measure => simp [intOf]; omega
    · have hlt' : ¬ (k : Int) < (n : Int) := by omega
      obtain rfl : k = n := by omega
      have hsz := (ho.lt w.heap.size rfl).2
      go_wp2
      go_ret
      exact ⟨rfl, hsz, hG.out, hbel⟩

set_option maxRecDepth 100000 in
set_option maxHeartbeats 1000000 in
theorem copyG_empty (x : Addr) (cap : Nat) (w : World) :
    Calls Try.prog 6 #[.slice (some x) 0 cap] w fun e w' => e = .returned (.slice (some ⟨w.heap.size, 0, none⟩) 0 0) ∧ Below w.heap.size w w' := by
  obtain ⟨i0, hi, hz0, hz1, hz2⟩ := info_parts info31
  have hnil := fun wx => Lib.run_eql_slice_nil (P := Try.prog) wx 22 31 (some x) 0 cap 0 0 Try.underlying22
  go_enter Try.func6, Try.ntmps6
  go_wp2_with (at_make; refine wpList_make_full _ rfl _ _ 22 rfl w.heap.size 31 i0 (.agg #[.bool false, .bool false, .bool false]) 3 Try.underlying22 hi hz0 hz1 .i64 .i64 _ _ 0 rfl rfl rfl rfl (by omega) (by unfold maxLen; omega) (by omega) ?_; intro w1 hown hgrow)
  refine wp_loop_rounds 1 ?_
  rw [rounds_succ]
  go_wp2
  go_ret
  exact ⟨rfl, (Below.refl _ _).grown hgrow (Nat.le_refl _) (fun k hk => by cases hk)⟩

set_option maxRecDepth 100000 in
set_option maxHeartbeats 1000000 in
theorem copyG_nil (w : World) :
    Calls Try.prog 6 #[.slice none 0 0] w fun e w' => e = .returned (.slice none 0 0) ∧ w = w' := by
  have hnil := fun wx => Lib.run_eql_slice_nil (P := Try.prog) wx 22 31 none 0 0 0 0 Try.underlying22
  go_enter Try.func6, Try.ntmps6
  go_wp2
  go_ret
  exact ⟨rfl, rfl⟩

theorem copyG_any (a : Option Addr) (n cap : Nat) (A B C : Nat → Bool) (w : World) (hn : n ≤ 1048576) (hnil : a = none → n = 0 ∧ cap = 0) (h : InG w a n A B C) :
    Calls Try.prog 6 #[.slice a n cap] w fun e w' => ∃ a' c', e = .returned (.slice a' n c') ∧ InG w' a' n A B C ∧ Below w.heap.size w w' := by
  cases a with
  | none =>
    obtain ⟨rfl, rfl⟩ := hnil rfl
    refine (copyG_nil w).mono fun e w' ⟨he, hw⟩ => ?_
    subst hw
    exact ⟨_, _, he, .inl rfl, Below.refl _ _⟩
  | some x =>
    rcases h with rfl | ⟨b, off, hx, hb, hr⟩
    · exact (copyG_empty x cap w).mono fun e w' ⟨he, hB⟩ => ⟨_, _, he, .inl rfl, hB⟩
    · cases hx
      exact (copyG_some b off n cap A B C w hn hr hb).mono fun e w' ⟨he, hs, hR, hB⟩ => ⟨_, _, he, .inr ⟨_, _, rfl, hs, hR⟩, hB⟩

theorem info34 : (Try.prog.info? 34).map (fun i => (i.zero, i.size, i.bytes)) = some (some (.agg #[.int .i64 0, .int .i64 0]), 2, 16) := by kernel_rfl

/-- Row of n elements from block b, offset off on. -/
def RRow (w : World) (b off : Nat) (n : Nat) (A B : Nat → Int) : Prop :=
  ∀ k, k < n → w.cell? ⟨b, off + k * 2, none⟩ = some (.int .i64 (A k)) ∧ w.cell? ⟨b, off + k * 2 + 1, none⟩ = some (.int .i64 (B k))

/-- What is known of a slice that is read: it is empty, or its n elements lie there. -/
def InR (w : World) (a : Option Addr) (n : Nat) (A B : Nat → Int) : Prop :=
  n = 0 ∨ ∃ b off, a = some ⟨b, off, none⟩ ∧ b < w.heap.size ∧ RRow w b off n A B

theorem InR.below {w w' : World} {T : Nat} {a : Option Addr} {n : Nat} {A B : Nat → Int} (h : InR w a n A B) (hB : Below T w w') (hw : w.heap.size ≤ T) : InR w' a n A B := by
  rcases h with h | ⟨b, off, rfl, hb, hr⟩
  · exact .inl h
  · refine .inr ⟨b, off, rfl, Nat.lt_of_lt_of_le hb hB.size, fun k hk => ?_⟩
    have hbB : b < T := Nat.lt_of_lt_of_le hb hw
    simp only [hB.cell (p := ⟨b, _, none⟩) hbB]
    exact hr k hk

theorem rowR_step {wr : World} {base g n k : Nat} {xs : List Value} {A B : Nat → Int} (ho : wr.ownsRow base 34 2 (.slice (some ⟨g, 0, none⟩) n n) n xs) (hG : RRow wr g 0 k A B) (hk : k < n) :
    RRow ((wr.setCell ⟨g, k * 2, none⟩ (.int .i64 (A k))).setCell ⟨g, k * 2 + 1, none⟩ (.int .i64 (B k))) g 0 (k + 1) A B ∧ ∃ ys, ((wr.setCell ⟨g, k * 2, none⟩ (.int .i64 (A k))).setCell ⟨g, k * 2 + 1, none⟩ (.int .i64 (B k))).ownsRow base 34 2 (.slice (some ⟨g, 0, none⟩) n n) n ys := by
  obtain ⟨h0, _⟩ := ho.stored (k * 2) (.int .i64 (A k))
  obtain ⟨h1, _⟩ := h0.stored (k * 2 + 1) (.int .i64 (B k))
  refine ⟨fun j hj => ?_, _, h1⟩
  have hl := ho.1
  simp only [Nat.zero_add]
  rw [h1.cellAt (j * 2) (by omega), h1.cellAt (j * 2 + 1) (by omega)]
  rcases Nat.lt_succ_iff_lt_or_eq.1 hj with h | rfl
  · have old := hG j h
    simp only [Nat.zero_add] at old
    rw [ho.cellAt (j * 2) (by omega), ho.cellAt (j * 2 + 1) (by omega)] at old
    simp only [List.getElem?_set]
    repeat rw [if_neg (by omega)]
    exact old
  · simp [List.getElem?_set, hl]
    omega

set_option maxRecDepth 100000 in
set_option maxHeartbeats 1000000 in
theorem copyR_some (b off n cap : Nat) (A B : Nat → Int) (w : World) (hn : n ≤ 1048576) (hr : Hid (RRow w b off n A B)) (hbl : b < w.heap.size) :
    Calls Try.prog 7 #[.slice (some ⟨b, off, none⟩) n cap] w fun e w' => e = .returned (.slice (some ⟨w.heap.size, 0, none⟩) n n) ∧ w.heap.size < w'.heap.size ∧ RRow w' w.heap.size 0 n A B ∧ Below w.heap.size w w' := by
  obtain ⟨i0, hi, hz0, hz1, hz2⟩ := info_parts info34
  have hnil := fun wx => Lib.run_eql_slice_nil (P := Try.prog) wx 23 34 (some ⟨b, off, none⟩) n cap 0 0 Try.underlying23
  go_enter Try.func7, Try.ntmps7
  go_wp2_with (at_make; refine wpList_make_full _ rfl _ _ 23 rfl w.heap.size 34 i0 (.agg #[.int .i64 0, .int .i64 0]) 2 Try.underlying23 hi hz0 hz1 .i64 .i64 _ _ n rfl rfl rfl rfl (by rw [hz2]; omega) (by unfold maxLen; omega) (by omega) ?_; intro w1 hown hgrow)
  go_loopw [4] (fun i wr => ∃ k : Nat, k ≤ n ∧ i = .int .i64 k ∧ (∃ xs, Hid (RRow wr w.heap.size 0 k A B) ∧ wr.ownsRow w.heap.size 34 2 (.slice (some ⟨w.heap.size, 0, none⟩) n n) n xs) ∧ Below w.heap.size w wr) (fun i _ => n - (intOf i).toNat)
  case atStart => exact ⟨0, Nat.zero_le _, rfl, ⟨_, fun k hk => absurd hk (by omega), hown⟩, (Below.refl _ _).grown hgrow (Nat.le_refl _) (fun k hk => by cases hk)⟩
  case round =>
    obtain ⟨k, hk, rfl, ⟨xs, hG, ho⟩, hbel⟩ := hrel
    by_cases hlt : k < n
    · have hlt' : (k : Int) < (n : Int) := by omega
      obtain ⟨a0, a1⟩ := hr.out k hlt
      have d0 := (hbel.cell (p := ⟨b, off + k * 2, none⟩) hbl).trans a0
      have d1 := (hbel.cell (p := ⟨b, off + k * 2 + 1, none⟩) hbl).trans a1
      have fz := ho.frozenAt
      have hl := ho.1
      have e0 := ho.cellAt (k * 2) (by omega)
      have e1 := ho.cellAt (k * 2 + 1) (by omega)
      rw [List.getElem?_eq_getElem (by omega)] at e0 e1
      have S := rowR_step ho hG.out hlt
      have HS : Hid _ := S
      clear a0 a1 S
      go_wp2
      obtain ⟨S1, ys, S2⟩ := HS.out
      go_roundw
      case rel => exact ⟨k + 1, by omega, by go_num, ⟨ys, S1, S2⟩, (hbel.setCell (Nat.le_refl _) _).setCell (Nat.le_refl _) _⟩
      case measure => simp [intOf]; omega
    · have hlt' : ¬ (k : Int) < (n : Int) := by omega
      obtain rfl : k = n := by omega
      have hsz := (ho.lt w.heap.size rfl).2
      go_wp2
      go_ret
      exact ⟨rfl, hsz, hG.out, hbel⟩

set_option maxRecDepth 100000 in
set_option maxHeartbeats 1000000 in
theorem copyR_empty (x : Addr) (cap : Nat) (w : World) :
    Calls Try.prog 7 #[.slice (some x) 0 cap] w fun e w' => e = .returned (.slice (some ⟨w.heap.size, 0, none⟩) 0 0) ∧ Below w.heap.size w w' := by
  obtain ⟨i0, hi, hz0, hz1, hz2⟩ := info_parts info34
  have hnil := fun wx => Lib.run_eql_slice_nil (P := Try.prog) wx 23 34 (some x) 0 cap 0 0 Try.underlying23
  go_enter Try.func7, Try.ntmps7
  go_wp2_with (at_make; refine wpList_make_full _ rfl _ _ 23 rfl w.heap.size 34 i0 (.agg #[.int .i64 0, .int .i64 0]) 2 Try.underlying23 hi hz0 hz1 .i64 .i64 _ _ 0 rfl rfl rfl rfl (by omega) (by unfold maxLen; omega) (by omega) ?_; intro w1 hown hgrow)
  refine wp_loop_rounds 1 ?_
  rw [rounds_succ]
  go_wp2
  go_ret
  exact ⟨rfl, (Below.refl _ _).grown hgrow (Nat.le_refl _) (fun k hk => by cases hk)⟩

set_option maxRecDepth 100000 in
set_option maxHeartbeats 1000000 in
theorem copyR_nil (w : World) :
    Calls Try.prog 7 #[.slice none 0 0] w fun e w' => e = .returned (.slice none 0 0) ∧ w = w' := by
  have hnil := fun wx => Lib.run_eql_slice_nil (P := Try.prog) wx 23 34 none 0 0 0 0 Try.underlying23
  go_enter Try.func7, Try.ntmps7
  go_wp2
  go_ret
  exact ⟨rfl, rfl⟩

theorem copyR_any (a : Option Addr) (n cap : Nat) (A B : Nat → Int) (w : World) (hn : n ≤ 1048576) (hnil : a = none → n = 0 ∧ cap = 0) (h : InR w a n A B) :
    Calls Try.prog 7 #[.slice a n cap] w fun e w' => ∃ a' c', e = .returned (.slice a' n c') ∧ InR w' a' n A B ∧ Below w.heap.size w w' := by
  cases a with
  | none =>
    obtain ⟨rfl, rfl⟩ := hnil rfl
    refine (copyR_nil w).mono fun e w' ⟨he, hw⟩ => ?_
    subst hw
    exact ⟨_, _, he, .inl rfl, Below.refl _ _⟩
  | some x =>
    rcases h with rfl | ⟨b, off, hx, hb, hr⟩
    · exact (copyR_empty x cap w).mono fun e w' ⟨he, hB⟩ => ⟨_, _, he, .inl rfl, hB⟩
    · cases hx
      exact (copyR_some b off n cap A B w hn hr hb).mono fun e w' ⟨he, hs, hR, hB⟩ => ⟨_, _, he, .inr ⟨_, _, rfl, hs, hR⟩, hB⟩

end Go.Proofs.Qxb6604067a.psg
