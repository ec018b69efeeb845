import Derived.Test.Qxb6604067aGroup
import Derived.Test.Qxb6604067aModel
namespace Go.Proofs.Qxb6604067a.psg
open Go.RowKit

/-- WHAT 'group' LEAVES OF THE SCAN: r: the text behind the head, the fold, whether a group is pushed, whether it captures. -/
def GPost (b : Nat) (text : ByteArray) (f : Bool) (n : Nat) (xs : List Value) (m : Nat) (ys : List Value) (nn : Bool) (c h s st : Int) (w : World) (r : ByteArray × Bool × Bool × Bool) (w' : World) : Prop :=
  Scan w' b text r.2.1 (if r.2.2.1 = true then n + 1 else n) (if r.2.2.1 = true then xs ++ [.bool f, .bool r.2.2.2, .bool false] else xs) m ys nn c h s st ∧ Below b w w'

section
variable {b : Nat} {text : ByteArray} {f nn : Bool} {c h s st : Int} {n m : Nat} {xs ys : List Value} {w : World}

theorem scan_fold (fo : Bool) (H : Scan w b text f n xs m ys nn c h s st) : Scan (w.setCell ⟨b, 1, none⟩ (.bool fo)) b text fo n xs m ys nn c h s st := by
  obtain ⟨ag, cg, ar, cr, hb, hg, hr⟩ := H
  exact ⟨ag, cg, ar, cr, heap_setCell_same w b 1 _ _ _ hb, ownsRow_setCell_below hg (Nat.lt_succ_self b) _, ownsRow_setCell_below hr (Nat.lt_succ_self b) _⟩

theorem gpost_fail (H : Scan w b text f n xs m ys nn c h s st) (r : ByteArray) : GPost b text f n xs m ys nn c h s st w (r, f, false, false) w := ⟨H, Below.refl _ _⟩
theorem gpost_fold (H : Scan w b text f n xs m ys nn c h s st) (r : ByteArray) (fo : Bool) : GPost b text f n xs m ys nn c h s st w (r, fo, false, false) (w.setCell ⟨b, 1, none⟩ (.bool fo)) :=
  ⟨scan_fold fo H, (Below.refl b w).setCell (p := ⟨b, 1, none⟩) (Nat.le_refl b) _⟩
theorem gpost_push {W : World} (H : Scan W b text f (n + 1) (xs ++ [.bool f, .bool false, .bool false]) m ys nn c h s st) (hbel : Below b w W) (r : ByteArray) (fo : Bool) :
    GPost b text f n xs m ys nn c h s st w (r, fo, true, false) (W.setCell ⟨b, 1, none⟩ (.bool fo)) :=
  ⟨scan_fold fo H, hbel.setCell (Nat.le_refl _) _⟩

theorem gend {t fl : ByteArray} {w' : World} (hp : plainB t = false) (hfl : t.extract 2 t.size = fl) {r : ByteArray} {f' p : Bool} (hg : G fl f f false 0 = (r, f', p))
    (hP : GPost b text f n xs m ys nn c h s st w (r, f', p, false) w') : Ending.returned (.string r) = .returned (.string (out f t).1) ∧ GPost b text f n xs m ys nn c h s st w (out f t) w' := by
  subst hfl
  rw [out_flags f t hp hg]
  exact ⟨rfl, hP⟩

set_option maxRecDepth 100000 in
set_option maxHeartbeats 2000000 in
theorem group_flags (t : ByteArray) (H : Scan w b text f n xs m ys nn c h s st) (hn : n ≤ 1048576)
    (hs : t.size ≤ 1048576) (h2 : 2 ≤ t.size) (b0 : bt t 0 = 40) (b1 : bt t 1 = 63) (q1 : has1 (t.extract 2 t.size) = false) (q2 : has2 (t.extract 2 t.size) = false) (hp : Hid (plainB t = false)) :
    Calls Try.prog 26 #[.pointer (some ⟨b, 0, none⟩), .string t] w
      fun e w' => e = .returned (.string (out f t).1) ∧ GPost b text f n xs m ys nn c h s st w (out f t) w' := by
  have HH : Hid (Scan w b text f n xs m ys nn c h s st) := H
  obtain ⟨ag, cg, ar, cr, hb, hg, hr⟩ := H
  have hlt := block_lt hb
  have c1 : w.cell? ⟨b, 1, none⟩ = some (.bool f) := by rw [cell_of_row w b 1 _ _ _ hb]; rfl
  have c2 : w.cell? ⟨b, 2, none⟩ = some (.slice ag n cg) := by rw [cell_of_row w b 2 _ _ _ hb]; rfl
  have f1 : w.frozen? ⟨b, 1, none⟩ = false := frozen_of_row w b 1 _ _ hb
  obtain ⟨i0, hi, hz0, hz1, hz2⟩ := info_parts info62
  have HB : Hid (w.heap[b]? = some (.cells #[.string text, .bool f, .slice ag n cg, .slice ar m cr, .bool nn, .int .i64 c, .int .i64 h, .int .i64 s, .int .i64 st] 60 (0, 0))) := hb
  have HN : Hid (bt t 0 = 40 ∧ bt t 1 = 63) := ⟨b0, b1⟩
  have hsz : (t.extract 2 t.size).size ≤ 1048576 := by rw [size_cut]; omega
  have HS : Hid ((t.extract 2 t.size).size ≤ 1048576) := hsz
  clear hb b0 b1 hsz
  go_enter Try.func26, Try.ntmps26
  go_upto_region 1 with fail
  go_cut [5, 6] (fun u v wc => ∃ fl, u = .string fl ∧ v = .bool true ∧ Hid (t.extract 2 t.size = fl) ∧ fl.size ≤ 1048576 ∧ has1 fl = false ∧ has2 fl = false ∧ w = wc)
  case first =>
    go_wp2_with (go_at_call 33; refine (cut_ok t _ hs h2 HN.out.1 HN.out.2).mono ?_; rintro e w' ⟨rfl, rfl⟩)
    go_meet
    case rel => exact ⟨_, rfl, rfl, rfl, HS.out, q1, q2, rfl⟩
  case rest =>
    obtain ⟨fl, rfl, rfl, hfl, hfs, p1, p2, rfl⟩ := hcut
    clear q1 q2
    go_wp2_with (first | (go_at_call_of 34 (Value.string ⟨#[60]⟩); refine (has1_any fl _ hfs).mono ?_; rintro e w' ⟨rfl, rfl⟩) | (go_at_call_of 34 (Value.string ⟨#[80, 60]⟩); refine (has2_any fl _ hfs).mono ?_; rintro e w' ⟨rfl, rfl⟩))
    go_loop [7, 8, 47] (fun u v i => ∃ (k : Nat) (fo cl : Bool), k ≤ fl.size ∧ u = .bool fo ∧ v = .bool cl ∧ i = .int .i64 k ∧ Hid (G fl f f false 0 = G fl f fo cl k)) (fun _ _ i => fl.size - (intOf i).toNat)
    case atStart => exact ⟨0, f, false, Nat.zero_le _, rfl, rfl, rfl, rfl⟩
    case round =>
      obtain ⟨k, fo, cl, hk, rfl, rfl, rfl, hG⟩ := hrel
      by_cases hltk : k < fl.size
      · have hlt' : (k : Int) < (fl.size : Int) := by omega
        go_wp2_with fail
        · have hc := bt_of (n := 105) hltk (by assumption)
          go_round
          case rel => exact ⟨k + 1, _, _, by omega, rfl, rfl, by go_num, hG.out.trans (G_i _ _ _ _ _ hltk hc)⟩
          case measure => simp [intOf]; omega
        · have hc := bt_of (n := 109) hltk (by assumption)
          go_round
          case rel => exact ⟨k + 1, _, _, by omega, rfl, rfl, by go_num, hG.out.trans (G_o _ _ _ _ _ hltk (by omega))⟩
          case measure => simp [intOf]; omega
        · have hc := bt_of (n := 115) hltk (by assumption)
          go_round
          case rel => exact ⟨k + 1, _, _, by omega, rfl, rfl, by go_num, hG.out.trans (G_o _ _ _ _ _ hltk (by omega))⟩
          case measure => simp [intOf]; omega
        · have hc := bt_of (n := 85) hltk (by assumption)
          go_round
          case rel => exact ⟨k + 1, _, _, by omega, rfl, rfl, by go_num, hG.out.trans (G_o _ _ _ _ _ hltk (by omega))⟩
          case measure => simp [intOf]; omega
        · have hc := bt_of (n := 45) hltk (by assumption)
          have hcl : cl = true := by assumption
          have hg2 : G fl f f false 0 = (⟨#[]⟩, f, false) := by rw [hG.out, hcl]; exact G_d2 _ _ _ _ hltk hc
          go_ret
          exact gend hp.out hfl.out hg2 (gpost_fail HH.out _)
        · have hc := bt_of (n := 45) hltk (by assumption)
          have hcl : cl = false := by assumption
          have hg2 : G fl f f false 0 = G fl f fo true (k + 1) := by rw [hG.out, hcl]; exact G_d1 _ _ _ _ hltk hc
          go_round
          case rel => exact ⟨k + 1, _, _, by omega, rfl, rfl, by go_num, hg2⟩
          case measure => simp [intOf]; omega
        · have hc := bt_of (n := 58) hltk (by assumption)
          have hg2 : Hid (G fl f f false 0 = (fl.extract (k+1) fl.size, fo, true)) := hG.out.trans (G_c _ _ _ _ _ hltk hc)
          have hb0 := (Below.heap_alloc w (.cells #[.bool f, .bool false, .bool false] 62) b hlt).trans HB.out
          have HB0 : Hid ((w.alloc (.cells #[.bool f, .bool false, .bool false] 62)).drew.heap[b]? = some (.cells #[.string text, .bool f, .slice ag n cg, .slice ar m cr, .bool nn, .int .i64 c, .int .i64 h, .int .i64 s, .int .i64 st] 60 (0, 0))) := hb0
          clear hb0 hc
          go_region_law ((refine step_append_lies _ (by rfl) _ _ 57 (by rfl) (b + 1) 62 i0 (.agg #[.bool false, .bool false, .bool false]) 3 3 Try.underlying57 hi hz0 hz1 hz2 rfl (by omega) (.slice ag n cg) n xs (by rfl) ((hg.alloc _).drew) ⟨w.heap.size, 0, none⟩ 1 1 [.bool f, .bool false, .bool false] (by rfl) (by rfl) (World.news_of_block (cs := #[.bool f, .bool false, .bool false]) (t := 62) (fr := (0, 0)) (heap_alloc_new w _)) (cells3 rfl rfl rfl) (by omega) (by unfold maxLen; omega) (by omega) (by simp; omega) (w.heap.size + 1) (by simp) ?_; intro g cap w1 hown hgrow hat hlt1; have hb1 := scan_block HB0.out (hg.alloc _).drew hgrow; have c2' : w1.cell? ⟨b, 2, none⟩ = some (.slice ag n cg) := (by rw [cell_of_row w1 b 2 _ _ _ hb1]; rfl); have f2' : w1.frozen? ⟨b, 2, none⟩ = false := frozen_of_row w1 b 2 _ _ hb1; have c1' : w1.cell? ⟨b, 1, none⟩ = some (.bool f) := (by rw [cell_of_row w1 b 1 _ _ _ hb1]; rfl); have f1' : w1.frozen? ⟨b, 1, none⟩ = false := frozen_of_row w1 b 1 _ _ hb1; have S := scan_pushg HB0.out (hg.alloc _).drew (hr.alloc _).drew hown hgrow; have BB := below_push ((Below.refl b w).alloc (Nat.le_of_lt hlt) _).drew HB0.out (hg.alloc _).drew hgrow 2 (.slice (some ⟨g, 0, none⟩) (n + 1) cap); clear hb1))
          all_goals go_wp2
          all_goals (go_ret; exact gend hp.out hfl.out hg2.out (gpost_push S BB _ _))
        · have hc := bt_of (n := 41) hltk (by assumption)
          have hg2 : G fl f f false 0 = (fl.extract (k+1) fl.size, fo, false) := hG.out.trans (G_p _ _ _ _ _ hltk hc)
          go_ret
          exact gend hp.out hfl.out hg2 (gpost_fold HH.out _ _)
        · have d1 := bt_not (n := 105) hltk (by assumption)
          have d2 := bt_not (n := 109) hltk (by assumption)
          have d3 := bt_not (n := 115) hltk (by assumption)
          have d4 := bt_not (n := 85) hltk (by assumption)
          have d5 := bt_not (n := 45) hltk (by assumption)
          have d6 := bt_not (n := 58) hltk (by assumption)
          have d7 := bt_not (n := 41) hltk (by assumption)
          have hg2 : G fl f f false 0 = (⟨#[]⟩, f, false) := hG.out.trans (G_n _ _ _ _ _ hltk (by simp [flagB]; omega) d6 d7)
          go_ret
          exact gend hp.out hfl.out hg2 (gpost_fail HH.out _)
      · have hlt' : ¬ (k : Int) < (fl.size : Int) := by omega
        have hg2 : Hid (G fl f f false 0 = (⟨#[]⟩, f, false)) := hG.out.trans (G_end _ _ _ _ _ (by omega))
        go_wp2_with fail
        go_ret
        exact gend hp.out hfl.out hg2.out (gpost_fail HH.out _)

theorem group_any (t : ByteArray) (H : Scan w b text f n xs m ys nn c h s st) (hn : n ≤ 1048576) (hs : t.size ≤ 1048576) (h1 : 1 ≤ t.size) (b0 : bt t 0 = 40) :
    Calls Try.prog 26 #[.pointer (some ⟨b, 0, none⟩), .string t] w
      fun e w' => e = .returned (.string (out f t).1) ∧ GPost b text f n xs m ys nn c h s st w (out f t) w' := by
  cases hp : plainB t with
  | true =>
    rw [out_plain f t hp]
    by_cases hno : t.size < 2 ∨ bt t 1 ≠ 63
    · exact (group_no t H hn hs h1 hno).mono fun e w' ⟨he, hS, hB⟩ => ⟨he, hS, hB⟩
    · have h2 : 2 ≤ t.size := by omega
      have b1 : bt t 1 = 63 := by omega
      cases q1 : has1 (t.extract 2 t.size) with
      | true => exact (group_p1 t H hn hs h1 h2 b0 b1 q1).mono fun e w' ⟨he, hS, hB⟩ => ⟨he, hS, hB⟩
      | false =>
        cases q2 : has2 (t.extract 2 t.size) with
        | true => exact (group_p2 t H hn hs h1 h2 b0 b1 q1 q2).mono fun e w' ⟨he, hS, hB⟩ => ⟨he, hS, hB⟩
        | false =>
          exfalso
          rw [plainB_eq, q1, q2, b1] at hp
          simp at hp
          omega
  | false =>
    have h := np0 hp
    rw [plainB_eq] at hp
    simp only [Bool.or_eq_false_iff] at hp
    have hp' : plainB t = false := by rw [plainB_eq]; simp only [Bool.or_eq_false_iff]; exact hp
    exact group_flags t H hn hs h.1 b0 h.2.1 hp.1.2 hp.2 hp'

set_option maxHeartbeats 400000 in
theorem zzgroup_any (t : ByteArray) (H : Scan w b text f n xs m ys nn c h s st) (hn : n ≤ 1048576) (hs : t.size ≤ 1048576) (h1 : 1 ≤ t.size) (b0 : Hid (bt t 0 = 40)) :
    Calls Try.prog 11 #[.pointer (some ⟨b, 0, none⟩), .string t] w
      fun e w' => e = .returned (.string (out f t).1) ∧ GPost b text f n xs m ys nn c h s st w (out f t) w' := by
  go_enter Try.func11, Try.ntmps11
  go_wp2_with (go_at_call 26; refine (group_any t H hn hs h1 b0.out).mono ?_; rintro e w' ⟨rfl, hP⟩)
  go_ret
  exact ⟨rfl, hP⟩

end
end Go.Proofs.Qxb6604067a.psg
