import Derived.Test.Qxb6604120aParts
namespace Go.Proofs.Qxb6604120a.act
open Go.RowKit

set_option maxRecDepth 100000 in
set_option maxHeartbeats 1000000 in
theorem same_any {w : World} {f1 f2 : Nat} {l : List ByteArray} (hl : l.length ≤ 1048576) (h1 : Hid (FB w f1 l)) (h2 : Hid (FB w f2 l)) :
    Calls Try.prog 16 #[.slice (some ⟨f1, 0, none⟩) l.length l.length, .slice (some ⟨f2, 0, none⟩) l.length l.length] w fun e w' => e = .returned (.bool true) ∧ ∃ m, w' = w.drewN m := by
  go_enter Try.func16, Try.ntmps16
  go_wp2_with fail
  go_loopw [5] (fun i wr => ∃ k : Nat, k ≤ l.length ∧ i = .int .i64 k ∧ ∃ m, wr = w.drewN m) (fun i _ => l.length - (intOf i).toNat)
  case atStart => exact ⟨0, Nat.zero_le _, rfl, 0, rfl⟩
  case round =>
    obtain ⟨k, hk, rfl, m, rfl⟩ := hrel
    by_cases hlt : k < l.length
    · have hlt' : (k : Int) < (l.length : Int) := by omega
      have hk0 : (0 : Int) ≤ (k : Int) := Int.natCast_nonneg _
      obtain ⟨s, hs⟩ : ∃ s, l[k]? = some s := ⟨_, List.getElem?_eq_getElem hlt⟩
      have c1 : w.cell? ⟨f1, k, none⟩ = some (.string s) := h1.out.cell hs
      have c2 : w.cell? ⟨f2, k, none⟩ = some (.string s) := h2.out.cell hs
      clear hs
      go_wp2_with fail
      go_quiet (fail)
      go_wp2_with fail
      go_roundw
      case rel => exact ⟨k + 1, by omega, by go_num, _, rfl⟩
      case measure => simp [intOf]; omega
    · have hlt' : ¬ (k : Int) < (l.length : Int) := by omega
      go_wp2_with fail
      go_ret
      exact ⟨rfl, m, rfl⟩

set_option maxRecDepth 100000 in
set_option maxHeartbeats 1000000 in
theorem take_none (an af bn bf : Option Addr) (n cn cf cb cc : Nat) (pos : Int) (hp : 0 ≤ pos) (hp4 : pos ≤ 100) (w : World) :
    Calls Try.prog 10 #[.slice an n cn, .slice af n cf, .int .i64 pos, .slice bn 0 cb, .slice bf 0 cc, .bool false] w fun e w' => e = .returned (.tuple #[.int .i64 (pos + 0), .bool true]) ∧ Below w.heap.size w w' := by
  go_enter Try.func10, Try.ntmps10
  go_wp2_with fail
  refine wp_loop_rounds 1 ?_
  rw [rounds_succ]
  go_wp2_with fail
  go_ret2
  exact ⟨by simp, Below.refl _ _⟩

set_option maxRecDepth 100000 in
set_option maxHeartbeats 2000000 in
theorem take_one {w : World} {g h g' h' fb fb' n cn cf cb cc k : Nat} {e : Ent} (hk : k < n) (hn : n ≤ 100) (hl : e.2.length ≤ 100)
    (a1 : w.cell? ⟨g, k, none⟩ = some (.string e.1)) (a2 : w.cell? ⟨h, k, none⟩ = some (.slice (some ⟨fb, 0, none⟩) e.2.length e.2.length))
    (b1 : w.cell? ⟨g', 0, none⟩ = some (.string e.1)) (b2 : w.cell? ⟨h', 0, none⟩ = some (.slice (some ⟨fb', 0, none⟩) e.2.length e.2.length)) (hF : Hid (FB w fb e.2)) (hF' : Hid (FB w fb' e.2)) :
    Calls Try.prog 10 #[.slice (some ⟨g, 0, none⟩) n cn, .slice (some ⟨h, 0, none⟩) n cf, .int .i64 k, .slice (some ⟨g', 0, none⟩) 1 cb, .slice (some ⟨h', 0, none⟩) 1 cc, .bool true] w
      fun e w' => e = .returned (.tuple #[.int .i64 ((k : Int) + 1), .bool true]) ∧ Below w.heap.size w w' := by
  have hk' : (k : Int) < (n : Int) := by omega
  have hk0 : (0 : Int) ≤ (k : Int) := Int.natCast_nonneg _
  go_enter Try.func10, Try.ntmps10
  go_wp2_with fail
  refine wp_loop_rounds 2 ?_
  rw [rounds_succ]
  go_wp2_with fail
  go_quiet ((go_at_call 16; exact Calls.quiet_of (same_any (w := w.drewN _) (by omega) hF hF')))
  go_wp2_with fail
  rw [rounds_succ]
  go_wp2_with fail
  go_ret2
  exact ⟨rfl, below_drewN (Below.refl _ _) _⟩

/-- One part of the answer: it stands in the whole answer behind 'pre'. -/
theorem take_any {w : World} {an af bn bf : Option Addr} {cn cf cb cc : Nat} {L pre part post : List Ent} (hL : L = pre ++ part ++ post) (hn : L.length ≤ 100) (hp : part.length ≤ 1) (hfig : ∀ e ∈ part, e.2.length ≤ 100)
    (hA : Res w an af L) (hB : Res w bn bf part) (pos : Int) (hpos : pos = (pre.length : Int)) (g : Bool) (hg : g = decide (0 < part.length)) (pl : Nat) (hpl : pl = part.length) :
    Calls Try.prog 10 #[.slice an L.length cn, .slice af L.length cf, .int .i64 pos, .slice bn pl cb, .slice bf pl cc, .bool g] w
      fun e w' => e = .returned (.tuple #[.int .i64 (((pre ++ part).length : Nat) : Int), .bool true]) ∧ Below w.heap.size w w' := by
  subst hpos hg hpl
  have hlen : L.length = pre.length + part.length + post.length := by rw [hL]; simp; omega
  match part, hp with
  | [], _ =>
    refine (take_none an af bn bf L.length cn cf cb cc (pre.length : Int) (by omega) (by omega) w).mono fun e w' ⟨he, hb⟩ => ⟨?_, hb⟩
    rw [he]; simp
  | [x], _ =>
    have hx : L[pre.length]? = some x := by rw [hL]; simp
    rcases hA with h0 | ⟨ga, ha, rfl, rfl, _, _, hca⟩
    · rw [h0] at hx; simp at hx
    rcases hB with h0 | ⟨gb, hb, rfl, rfl, _, _, hcb⟩
    · cases h0
    obtain ⟨t1, fa, t2, t3⟩ := hca _ _ hx
    obtain ⟨u1, fb, u2, u3⟩ := hcb 0 x rfl
    refine (take_one (by simp at hlen; omega) hn (hfig x (by simp)) t1 t2 u1 u2 t3 u3).mono fun e w' ⟨he, hb⟩ => ⟨?_, hb⟩
    rw [he]; simp

/-! ### The pointers copied; the rights made -/
set_option maxHeartbeats 1000000 in
theorem copy_nil (w : World) : Calls Try.prog 7 #[.pointer none] w fun e w' => e = .returned (.pointer none) ∧ w = w' := by
  go_enter Try.func7, Try.ntmps7
  go_wp2
  go_ret
  exact ⟨rfl, rfl⟩
set_option maxHeartbeats 1000000 in
theorem copy_some {w : World} {b off : Nat} {s : ByteArray} (hc : w.cell? ⟨b, off, none⟩ = some (.string s)) :
    Calls Try.prog 7 #[.pointer (some ⟨b, off, none⟩)] w fun e w' => e = .returned (.pointer (some ⟨w.heap.size, 0, none⟩)) ∧ w.alloc (.cells #[.string s] 9) = w' := by
  go_enter Try.func7, Try.ntmps7
  go_wp2
  go_ret
  exact ⟨rfl, rfl⟩
theorem copy_any {w : World} {p : Option Addr} {o : Option ByteArray} (h : PS w p o) :
    Calls Try.prog 7 #[.pointer p] w fun e w' => ∃ p', e = .returned (.pointer p') ∧ PS w' p' o ∧ Below w.heap.size w w' := by
  rcases h with ⟨rfl, rfl⟩ | ⟨b, off, s, rfl, rfl, hb, hc⟩
  · refine (copy_nil w).mono fun e w' ⟨he, hw⟩ => ?_
    subst hw
    exact ⟨_, he, .inl ⟨rfl, rfl⟩, Below.refl _ _⟩
  · refine (copy_some hc).mono fun e w' ⟨he, hw⟩ => ?_
    subst hw
    refine ⟨_, he, .inr ⟨_, _, s, rfl, rfl, by simp, ?_⟩, (Below.refl _ _).alloc (Nat.le_refl _) _⟩
    rw [cell_of_row _ _ 0 _ _ _ (heap_alloc_new w _)]; rfl

def rightsOf (hr : Bool) (a b c : ByteArray) : Option (ByteArray × ByteArray × ByteArray) := if hr = true then some (a, b, c) else none

set_option maxHeartbeats 1000000 in
theorem make_no (w : World) (a b c : ByteArray) : Calls Try.prog 8 #[.bool false, .string a, .string b, .string c] w fun e w' => e = .returned (.pointer none) ∧ w = w' := by
  go_enter Try.func8, Try.ntmps8
  go_wp2
  go_ret
  exact ⟨rfl, rfl⟩
set_option maxHeartbeats 1000000 in
theorem make_yes (w : World) (a b c : ByteArray) : Calls Try.prog 8 #[.bool true, .string a, .string b, .string c] w fun e w' => e = .returned (.pointer (some ⟨w.heap.size, 0, none⟩)) ∧ w.alloc (.cells #[.string a, .string b, .string c] 40) = w' := by
  go_enter Try.func8, Try.ntmps8
  go_wp2
  go_ret
  exact ⟨rfl, rfl⟩
theorem make_any (w : World) (hr : Bool) (a b c : ByteArray) :
    Calls Try.prog 8 #[.bool hr, .string a, .string b, .string c] w fun e w' => ∃ p, e = .returned (.pointer p) ∧ PR w' p (rightsOf hr a b c) ∧ Below w.heap.size w w' := by
  cases hr with
  | false =>
    refine (make_no w a b c).mono fun e w' ⟨he, hw⟩ => ?_
    subst hw
    exact ⟨_, he, .inl ⟨rfl, rfl⟩, Below.refl _ _⟩
  | true =>
    refine (make_yes w a b c).mono fun e w' ⟨he, hw⟩ => ?_
    subst hw
    have hn := heap_alloc_new w (.cells #[.string a, .string b, .string c] 40)
    refine ⟨_, he, .inr ⟨_, (a, b, c), rfl, rfl, by simp, ?_, ?_, ?_⟩, (Below.refl _ _).alloc (Nat.le_refl _) _⟩
    · rw [cell_of_row _ _ 0 _ _ _ hn]; rfl
    · rw [cell_of_row _ _ 1 _ _ _ hn]; rfl
    · rw [cell_of_row _ _ 2 _ _ _ hn]; rfl

end Go.Proofs.Qxb6604120a.act
