import Derived.Test.Qxb6604120aCopy
import Derived.BigQuiet
import Derived.Deep.QuietTactic
import Derived.WalkSmall
import Derived.Deep.LoopGhost
namespace Go.Proofs.Qxb6604120a.scn
open Go.RowKit

/-- THE SCAN IN MEMORY: its two fields lie in block b. -/
def At (w : World) (b : Nat) (a : Option Addr) (n c : Nat) (i : Int) : Prop := w.heap[b]? = some (.cells #[.slice a n c, .int .i64 i] 51 (0, 0))

theorem At.lt {w : World} {b : Nat} {a : Option Addr} {n c : Nat} {i : Int} (h : At w b a n c i) : b < w.heap.size := by
  rcases Nat.lt_or_ge b w.heap.size with hlt | hge
  · exact hlt
  · unfold At at h; rw [Array.getElem?_eq_none hge] at h; cases h
theorem At.c0 {w : World} {b : Nat} {a : Option Addr} {n c : Nat} {i : Int} (h : At w b a n c i) : w.cell? ⟨b, 0, none⟩ = some (.slice a n c) := by rw [cell_of_row w b 0 _ _ _ h]; rfl
theorem At.c1 {w : World} {b : Nat} {a : Option Addr} {n c : Nat} {i : Int} (h : At w b a n c i) : w.cell? ⟨b, 1, none⟩ = some (.int .i64 i) := by rw [cell_of_row w b 1 _ _ _ h]; rfl
theorem At.f1 {w : World} {b : Nat} {a : Option Addr} {n c : Nat} {i : Int} (h : At w b a n c i) : w.frozen? ⟨b, 1, none⟩ = false := frozen_of_row w b 1 _ _ h
theorem At.set {w : World} {b : Nat} {a : Option Addr} {n c : Nat} {i : Int} (h : At w b a n c i) (j : Int) : At (w.setCell ⟨b, 1, none⟩ (.int .i64 j)) b a n c j := heap_setCell_same w b 1 _ _ _ h
theorem At.drewN {w : World} {b : Nat} {a : Option Addr} {n c : Nat} {i : Int} (h : At w b a n c i) (k : Nat) : At (w.drewN k) b a n c i := h

set_option maxRecDepth 100000 in
set_option maxHeartbeats 1000000 in
theorem next_past {w : World} {b : Nat} {a : Option Addr} {n c : Nat} {i : Int} (H : At w b a n c i) (hp : ¬ i < n) (x : Int) :
    Calls Try.prog 19 #[.pointer (some ⟨b, 0, none⟩), .int .u8 x] w fun e w' => e = .returned (.bool false) ∧ ∃ k, w' = w.drewN k := by
  have c0 := H.c0
  have c1 := H.c1
  have hd : decide (i < (n : Int)) = false := by simpa using hp
  clear H hp
  go_enter Try.func19, Try.ntmps19
  go_wp2
  go_quiet (fail)
  go_wp2
  go_ret
  exact ⟨rfl, nq, rfl⟩

set_option maxRecDepth 100000 in
set_option maxHeartbeats 1000000 in
theorem next_in {w : World} {b b0 off : Nat} {n c k : Nat} {Z : Nat → Int} (H : At w b (some ⟨b0, off, none⟩) n c k) (hk : k < n) (hr : BRow w b0 off n Z) (x : Int) :
    Calls Try.prog 19 #[.pointer (some ⟨b, 0, none⟩), .int .u8 x] w fun e w' => e = .returned (.bool (Z k == x)) ∧ ∃ k, w' = w.drewN k := by
  have c0 := H.c0
  have c1 := H.c1
  have cz := hr k hk
  have hd : (k : Int) < (n : Int) := by omega
  have hk0 : (0 : Int) ≤ (k : Int) := Int.natCast_nonneg _
  clear H hr
  go_enter Try.func19, Try.ntmps19
  go_wp2
  go_quiet (fail)
  go_wp2
  go_ret
  exact ⟨rfl, nq, rfl⟩

set_option maxRecDepth 100000 in
set_option maxHeartbeats 1000000 in
theorem take_past {w : World} {b : Nat} {a : Option Addr} {n c : Nat} {i : Int} (H : At w b a n c i) (hp : ¬ i < n) (x : Int) :
    Calls Try.prog 18 #[.pointer (some ⟨b, 0, none⟩), .int .u8 x] w fun e w' => e = .returned (.bool false) ∧ At w' b a n c i ∧ Below b w w' := by
  go_enter Try.func18, Try.ntmps18
  go_wp2_with (go_at_call 19; refine (next_past H hp x).mono ?_; rintro e w' ⟨rfl, k, rfl⟩)
  go_ret
  exact ⟨rfl, H.drewN _, below_drewN (Below.refl _ _) _⟩

set_option maxRecDepth 100000 in
set_option maxHeartbeats 1000000 in
theorem take_not {w : World} {b b0 off : Nat} {n c k : Nat} {Z : Nat → Int} (H : At w b (some ⟨b0, off, none⟩) n c k) (hk : k < n) (hr : Hid (BRow w b0 off n Z)) (x : Int) (hx : (Z k == x) = false) :
    Calls Try.prog 18 #[.pointer (some ⟨b, 0, none⟩), .int .u8 x] w fun e w' => e = .returned (.bool false) ∧ At w' b (some ⟨b0, off, none⟩) n c k ∧ Below b w w' := by
  go_enter Try.func18, Try.ntmps18
  go_wp2_with (go_at_call 19; refine (next_in H hk hr.out x).mono ?_; rintro e w' ⟨rfl, k, rfl⟩)
  go_ret
  exact ⟨rfl, H.drewN _, below_drewN (Below.refl _ _) _⟩

set_option maxRecDepth 100000 in
set_option maxHeartbeats 1000000 in
theorem take_yes {w : World} {b b0 off : Nat} {n c k : Nat} {Z : Nat → Int} (H : At w b (some ⟨b0, off, none⟩) n c k) (hn : n ≤ 1048576) (hk : k < n) (hr : Hid (BRow w b0 off n Z)) (x : Int) (hx : (Z k == x) = true) :
    Calls Try.prog 18 #[.pointer (some ⟨b, 0, none⟩), .int .u8 x] w fun e w' => e = .returned (.bool true) ∧ At w' b (some ⟨b0, off, none⟩) n c ((k + 1 : Nat) : Int) ∧ Below b w w' := by
  have c1 := H.c1
  have f1 := H.f1
  go_enter Try.func18, Try.ntmps18
  go_wp2_with (go_at_call 19; refine (next_in H hk hr.out x).mono ?_; rintro e w' ⟨rfl, j, rfl⟩)
  go_ret
  refine ⟨rfl, ?_, (below_drewN (Below.refl b w) j).setCell (p := ⟨b, 1, none⟩) (Nat.le_refl b) _⟩
  have := (H.drewN j).set ((k : Int) + 1)
  simpa using this

theorem s_end {w w' : World} {b n c : Nat} {a : Option Addr} {Z : Nat → Int} {i x y : Int} {r : Bool} (h : ans Z n i = (r, x)) (e : x = y) (A : At w' b a n c y) (B : Below b w w') :
    Ending.returned (.bool r) = .returned (.bool (ans Z n i).1) ∧ At w' b a n c (ans Z n i).2 ∧ Below b w w' := by
  rw [h]; subst e; exact ⟨rfl, A, B⟩
theorem below_set {w wr : World} {b : Nat} (h : Below b w wr) (i : Int) : Below b w (wr.setCell ⟨b, 1, none⟩ (.int .i64 i)) := h.setCell (p := ⟨b, 1, none⟩) (Nat.le_refl b) _
theorem At.cast {w : World} {b : Nat} {a : Option Addr} {n c : Nat} {i j : Int} (h : At w b a n c i) (e : i = j) : At w b a n c j := e ▸ h

set_option maxRecDepth 100000 in
set_option maxHeartbeats 2000000 in
theorem str_quote {w : World} {b b0 off : Nat} {n c k : Nat} {Z : Nat → Int} (H : At w b (some ⟨b0, off, none⟩) n c k) (hn : n ≤ 1048576) (hk : k < n) (hb0 : b0 < b) (hr : Hid (BRow w b0 off n Z)) (hz : Hid (Z k = 34)) :
    Calls Try.prog 17 #[.pointer (some ⟨b, 0, none⟩)] w fun e w' => e = .returned (.bool (ans Z n k).1) ∧ At w' b (some ⟨b0, off, none⟩) n c (ans Z n k).2 ∧ Below b w w' := by
  have hz' : Hid ((Z k == 34) = true) := by show (Z k == 34) = true; rw [hz.out]; rfl
  go_enter Try.func17, Try.ntmps17
  go_wp2_with (go_at_call 18; refine (take_yes H hn hk hr 34 hz'.out).mono ?_; rintro e w1 ⟨rfl, H1, B1⟩)
  go_loopg [3] (n - (k + 1)) (fun g _ wr => ∃ p : Nat, k < p ∧ p ≤ n ∧ g = n - p ∧ Hid (At wr b (some ⟨b0, off, none⟩) n c p) ∧ Hid (S Z n (k + 1) = S Z n p) ∧ Hid (Below b w wr))
  case atStart => exact ⟨k + 1, by omega, by omega, rfl, H1, rfl, B1⟩
  case round =>
    obtain ⟨p, hkp, hpn, rfl, HA, HS, HB⟩ := hrel
    have c0 := HA.out.c0
    have c1 := HA.out.c1
    have f1 := HA.out.f1
    by_cases hlt : p < n
    · have hlt' : (p : Int) < (n : Int) := by omega
      have hp0 : (0 : Int) ≤ (p : Int) := Int.natCast_nonneg _
      have cz : wr.cell? ⟨b0, off + p, none⟩ = some (.int .u8 (Z p)) := (HB.out.cell (p := ⟨b0, off + p, none⟩) hb0).trans (hr.out p hlt)
      by_cases h34 : Z p = 34
      · have h34' : (Z p == 34) = true := by simp [h34]
        have HQ : Hid (ans Z n k = (true, ((p + 1 : Nat) : Int))) := ans_quote hk hz.out (HS.out.trans (S_quote hlt h34))
        clear h34
        go_wp2_with fail
        go_quiet (fail)
        go_wp2_with fail
        go_quiet (fail)
        go_wp2_with fail
        go_ret
        exact s_end HQ.out (by omega) ((HA.out.drewN _).set _) (below_set (below_drewN HB.out _) _)
      · have h34' : (Z p == 34) = false := by simp [h34]
        by_cases h92 : Z p = 92
        · have h92' : (Z p == 92) = true := by simp [h92]
          have H92 : Hid (Z p = 92) := h92
          clear h92
          by_cases hl : p + 1 < n
          · have hl' : (p : Int) + 1 < (n : Int) := by omega
            go_wp2_with fail
            go_quiet (fail)
            go_wp2_with fail
            go_quiet (fail)
            go_wp2_with fail
            go_quiet (fail)
            go_wp2_with fail
            go_roundg (n - (p + 2))
            case measure => omega
            case rel => exact ⟨p + 2, by omega, by omega, rfl, ((((HA.out.drewN _).set _).drewN _).set _).cast (by omega), HS.out.trans (S_esc hl H92.out), below_set (below_drewN (below_set (below_drewN HB.out _) _) _) _⟩
          · have hl' : decide ((p : Int) + 1 < (n : Int)) = false := by simp; omega
            go_wp2_with fail
            go_quiet (fail)
            go_wp2_with fail
            go_quiet (fail)
            go_wp2_with fail
            go_quiet (fail)
            go_wp2_with fail
            go_roundg (n - (p + 1))
            case measure => omega
            case rel => exact ⟨p + 1, by omega, by omega, rfl, (((HA.out.drewN _).set _).drewN _).cast (by omega), HS.out.trans (S_last hlt hl H92.out), below_drewN (below_set (below_drewN HB.out _) _) _⟩
        · have h92' : (Z p == 92) = false := by simp [h92]
          go_wp2_with fail
          go_quiet (fail)
          go_wp2_with fail
          go_quiet (fail)
          go_wp2_with fail
          go_quiet (fail)
          go_wp2_with fail
          go_roundg (n - (p + 1))
          case measure => omega
          case rel => exact ⟨p + 1, by omega, by omega, rfl, (((HA.out.drewN _).set _).drewN _).cast (by omega), HS.out.trans (S_plain hlt h34 h92), below_drewN (below_set (below_drewN HB.out _) _) _⟩
    · have hd : decide ((p : Int) < (n : Int)) = false := by simp; omega
      have HQ : Hid (ans Z n k = (false, (n : Int))) := ans_quote hk hz.out (HS.out.trans (S_end (by omega)))
      go_wp2_with fail
      go_quiet (fail)
      go_wp2
      go_ret
      exact s_end HQ.out (by omega) (HA.out.drewN _) (below_drewN HB.out _)

set_option maxRecDepth 100000 in
set_option maxHeartbeats 1000000 in
theorem str_past {w : World} {b : Nat} {a : Option Addr} {n c : Nat} {i : Int} {Z : Nat → Int} (H : At w b a n c i) (hp : ¬ i < n) :
    Calls Try.prog 17 #[.pointer (some ⟨b, 0, none⟩)] w fun e w' => e = .returned (.bool (ans Z n i).1) ∧ At w' b a n c (ans Z n i).2 ∧ Below b w w' := by
  have HQ : Hid (ans Z n i = (false, i)) := ans_past hp
  go_enter Try.func17, Try.ntmps17
  go_wp2_with (go_at_call 18; refine (take_past H hp 34).mono ?_; rintro e w1 ⟨rfl, H1, B1⟩)
  go_ret
  exact s_end HQ.out rfl H1 B1

set_option maxRecDepth 100000 in
set_option maxHeartbeats 1000000 in
theorem str_other {w : World} {b b0 off : Nat} {n c k : Nat} {Z : Nat → Int} (H : At w b (some ⟨b0, off, none⟩) n c k) (hk : k < n) (hr : Hid (BRow w b0 off n Z)) (hz : Hid (Z k ≠ 34)) :
    Calls Try.prog 17 #[.pointer (some ⟨b, 0, none⟩)] w fun e w' => e = .returned (.bool (ans Z n k).1) ∧ At w' b (some ⟨b0, off, none⟩) n c (ans Z n k).2 ∧ Below b w w' := by
  have HQ : Hid (ans Z n k = (false, (k : Int))) := ans_other hz.out
  have hz' : Hid ((Z k == 34) = false) := by show (Z k == 34) = false; simpa using hz.out
  go_enter Try.func17, Try.ntmps17
  go_wp2_with (go_at_call 18; refine (take_not H hk hr 34 hz'.out).mono ?_; rintro e w1 ⟨rfl, H1, B1⟩)
  go_ret
  exact s_end HQ.out rfl H1 B1

theorem str_any {w : World} {b : Nat} {a : Option Addr} {n c : Nat} {i : Int} {Z : Nat → Int} (H : At w b a n c i) (hn : n ≤ 1048576) (h0 : 0 ≤ i) (h : n = 0 ∨ ∃ b0 off, a = some ⟨b0, off, none⟩ ∧ b0 < b ∧ BRow w b0 off n Z) :
    Calls Try.prog 17 #[.pointer (some ⟨b, 0, none⟩)] w fun e w' => e = .returned (.bool (ans Z n i).1) ∧ At w' b a n c (ans Z n i).2 ∧ Below b w w' := by
  by_cases hp : i < n
  · obtain ⟨k, rfl⟩ := Int.eq_ofNat_of_zero_le h0
    rcases h with rfl | ⟨b0, off, rfl, hb, hr⟩
    · omega
    · by_cases hz : Z k = 34
      · exact str_quote H hn (by omega) hb hr hz
      · exact str_other H (by omega) hr hz
  · exact str_past H hp

set_option maxRecDepth 100000 in
set_option maxHeartbeats 1000000 in
theorem zz_any (a : Option Addr) (n c : Nat) (i : Int) (Z : Nat → Int) (w : World) (hn : n ≤ 1048576) (h0 : 0 ≤ i) (h : InB w a n Z) :
    Calls Try.prog 13 #[.slice a n c, .int .i64 i] w fun e w' => e = .returned (.tuple #[.bool (ans Z n i).1, .int .i64 (ans Z n i).2]) ∧ Below w.heap.size w w' := by
  have HA : Hid (At (w.alloc (.cells #[.slice a n c, .int .i64 i] 51)) w.heap.size a n c i) := heap_alloc_new w _
  have HB : Hid (Below w.heap.size w (w.alloc (.cells #[.slice a n c, .int .i64 i] 51))) := (Below.refl _ _).alloc (Nat.le_refl _) _
  have HI : Hid (n = 0 ∨ ∃ b0 off, a = some ⟨b0, off, none⟩ ∧ b0 < w.heap.size ∧ BRow (w.alloc (.cells #[.slice a n c, .int .i64 i] 51)) b0 off n Z) := by
    rcases h with h | ⟨b0, off, ha, hb, hr⟩
    · exact .inl h
    · exact .inr ⟨b0, off, ha, hb, fun k hk => (HB.out.cell (p := ⟨b0, off + k, none⟩) hb).trans (hr k hk)⟩
  clear h
  go_enter Try.func13, Try.ntmps13
  go_wp2_with fail
  refine (str_any HA.out hn h0 HI.out).mono ?_
  rintro e w1 ⟨rfl, H1, B1⟩
  have c1 := H1.c1
  have HB1 : Hid (Below w.heap.size w w1) := HB.out.trans B1
  clear B1 H1
  go_wp2_with fail
  go_quiet (fail)
  go_wp2
  go_ret2
  exact ⟨rfl, below_drewN HB1.out _⟩

end Go.Proofs.Qxb6604120a.scn
