import Derived.Test.Qxb6604067aPre
import Derived.Test.Qxb6604067aScan
import Derived.Deep.RegionHeld3
import Derived.Deep.RegionLaw
import Derived.Deep.DeepCutAuto
import Derived.Deep.CutBlock
namespace Go.Proofs.Qxb6604067a.psg
open Go.RowKit

set_option maxRecDepth 100000 in
set_option maxHeartbeats 1000000 in
theorem group_no {b : Nat} {text : ByteArray} {f nn : Bool} {c h s st : Int} {n m : Nat} {xs ys : List Value} {w : World} (t : ByteArray) (H : Scan w b text f n xs m ys nn c h s st) (hn : n ≤ 1048576)
    (hs : t.size ≤ 1048576) (h1 : 1 ≤ t.size) (hno : t.size < 2 ∨ bt t 1 ≠ 63) :
    Calls Try.prog 26 #[.pointer (some ⟨b, 0, none⟩), .string t] w
      fun e w' => e = .returned (.string (t.extract 1 t.size)) ∧ Scan w' b text f (n + 1) (xs ++ [.bool f, .bool true, .bool false]) m ys nn c h s st ∧ Below b w w' := by
  obtain ⟨ag, cg, ar, cr, hb, hg, hr⟩ := H
  have hlt := block_lt hb
  have c1 : w.cell? ⟨b, 1, none⟩ = some (.bool f) := by rw [cell_of_row w b 1 _ _ _ hb]; rfl
  have c2 : w.cell? ⟨b, 2, none⟩ = some (.slice ag n cg) := by rw [cell_of_row w b 2 _ _ _ hb]; rfl
  have f2 : w.frozen? ⟨b, 2, none⟩ = false := frozen_of_row w b 2 _ _ hb
  obtain ⟨i0, hi, hz0, hz1, hz2⟩ := info_parts info62
  have HB : Hid (w.heap[b]? = some (.cells #[.string text, .bool f, .slice ag n cg, .slice ar m cr, .bool nn, .int .i64 c, .int .i64 h, .int .i64 s, .int .i64 st] 60 (0, 0))) := hb
  have HN : Hid (t.size < 2 ∨ bt t 1 ≠ 63) := hno
  clear hb hno
  go_enter Try.func26, Try.ntmps26
  go_wp2_with (go_at_call 33; refine (cut_no t _ hs HN.out).mono ?_; rintro e w' ⟨rfl, rfl⟩)
  have hb0 := (Below.heap_alloc w (.cells #[.bool f, .bool true, .bool false] 62) b hlt).trans HB.out
  have hb0d : (w.alloc (.cells #[.bool f, .bool true, .bool false] 62)).drew.heap[b]? = some (.cells #[.string text, .bool f, .slice ag n cg, .slice ar m cr, .bool nn, .int .i64 c, .int .i64 h, .int .i64 s, .int .i64 st] 60 (0, 0)) := hb0
  have HB0 : Hid ((w.alloc (.cells #[.bool f, .bool true, .bool false] 62)).drew.heap[b]? = some (.cells #[.string text, .bool f, .slice ag n cg, .slice ar m cr, .bool nn, .int .i64 c, .int .i64 h, .int .i64 s, .int .i64 st] 60 (0, 0))) := hb0d
  have f2a : (w.alloc (.cells #[.bool f, .bool true, .bool false] 62)).drew.frozen? ⟨b, 2, none⟩ = false := frozen_of_row _ b 2 _ _ hb0d
  have f2b : (w.alloc (.cells #[.bool f, .bool true, .bool false] 62)).frozen? ⟨b, 2, none⟩ = false := frozen_of_row _ b 2 _ _ hb0
  clear hb0 hb0d
  go_region_law ((refine step_append_lies _ (by rfl) _ _ 57 (by rfl) (b + 1) 62 i0 (.agg #[.bool false, .bool false, .bool false]) 3 3 Try.underlying57 hi hz0 hz1 hz2 rfl (by omega) (.slice ag n cg) n xs (by rfl) ((hg.alloc _).drew) ⟨w.heap.size, 0, none⟩ 1 1 [.bool f, .bool true, .bool false] (by rfl) (by rfl) (World.news_of_block (cs := #[.bool f, .bool true, .bool false]) (t := 62) (fr := (0, 0)) (heap_alloc_new w _)) (cells3 rfl rfl rfl) (by omega) (by unfold maxLen; omega) (by omega) (by simp; omega) (w.heap.size + 1) (by simp) ?_; intro g cap w1 hown hgrow hat hlt1; have hb1 := scan_block HB0.out (hg.alloc _).drew hgrow; have c2' : w1.cell? ⟨b, 2, none⟩ = some (.slice ag n cg) := (by rw [cell_of_row w1 b 2 _ _ _ hb1]; rfl); have f2' : w1.frozen? ⟨b, 2, none⟩ = false := frozen_of_row w1 b 2 _ _ hb1; have S := scan_pushg HB0.out (hg.alloc _).drew (hr.alloc _).drew hown hgrow; have BB := below_push ((Below.refl b w).alloc (Nat.le_of_lt hlt) _).drew HB0.out (hg.alloc _).drew hgrow 2 (.slice (some ⟨g, 0, none⟩) (n + 1) cap); clear hb1))
  all_goals go_wp2
  all_goals (go_ret; exact ⟨rfl, S, BB⟩)

set_option maxRecDepth 100000 in
set_option maxHeartbeats 1000000 in
theorem group_p1 {b : Nat} {text : ByteArray} {f nn : Bool} {c h s st : Int} {n m : Nat} {xs ys : List Value} {w : World} (t : ByteArray) (H : Scan w b text f n xs m ys nn c h s st) (hn : n ≤ 1048576)
    (hs : t.size ≤ 1048576) (h1 : 1 ≤ t.size) (h2 : 2 ≤ t.size) (b0 : bt t 0 = 40) (b1 : bt t 1 = 63) (q1 : has1 (t.extract 2 t.size) = true) :
    Calls Try.prog 26 #[.pointer (some ⟨b, 0, none⟩), .string t] w
      fun e w' => e = .returned (.string (t.extract 1 t.size)) ∧ Scan w' b text f (n + 1) (xs ++ [.bool f, .bool true, .bool false]) m ys nn c h s st ∧ Below b w w' := by
  obtain ⟨ag, cg, ar, cr, hb, hg, hr⟩ := H
  have hlt := block_lt hb
  have c1 : w.cell? ⟨b, 1, none⟩ = some (.bool f) := by rw [cell_of_row w b 1 _ _ _ hb]; rfl
  have c2 : w.cell? ⟨b, 2, none⟩ = some (.slice ag n cg) := by rw [cell_of_row w b 2 _ _ _ hb]; rfl
  have f2 : w.frozen? ⟨b, 2, none⟩ = false := frozen_of_row w b 2 _ _ hb
  obtain ⟨i0, hi, hz0, hz1, hz2⟩ := info_parts info62
  have HB : Hid (w.heap[b]? = some (.cells #[.string text, .bool f, .slice ag n cg, .slice ar m cr, .bool nn, .int .i64 c, .int .i64 h, .int .i64 s, .int .i64 st] 60 (0, 0))) := hb
  have HN : Hid (bt t 0 = 40 ∧ bt t 1 = 63) := ⟨b0, b1⟩
  have hsz : (t.extract 2 t.size).size ≤ 1048576 := by rw [size_cut]; omega
  have HS : Hid ((t.extract 2 t.size).size ≤ 1048576) := hsz
  clear hb b0 b1 hsz
  go_enter Try.func26, Try.ntmps26
  go_wp2_with (first | (go_at_call 33; refine (cut_ok t _ hs h2 HN.out.1 HN.out.2).mono ?_; rintro e w' ⟨rfl, rfl⟩) | (go_at_call 34; refine (has1_any (t.extract 2 t.size) _ HS.out).mono ?_; rintro e w' ⟨rfl, rfl⟩))
  have hb0 := (Below.heap_alloc w (.cells #[.bool f, .bool true, .bool false] 62) b hlt).trans HB.out
  have hb0d : (w.alloc (.cells #[.bool f, .bool true, .bool false] 62)).drew.heap[b]? = some (.cells #[.string text, .bool f, .slice ag n cg, .slice ar m cr, .bool nn, .int .i64 c, .int .i64 h, .int .i64 s, .int .i64 st] 60 (0, 0)) := hb0
  have HB0 : Hid ((w.alloc (.cells #[.bool f, .bool true, .bool false] 62)).drew.heap[b]? = some (.cells #[.string text, .bool f, .slice ag n cg, .slice ar m cr, .bool nn, .int .i64 c, .int .i64 h, .int .i64 s, .int .i64 st] 60 (0, 0))) := hb0d
  have f2a : (w.alloc (.cells #[.bool f, .bool true, .bool false] 62)).drew.frozen? ⟨b, 2, none⟩ = false := frozen_of_row _ b 2 _ _ hb0d
  have f2b : (w.alloc (.cells #[.bool f, .bool true, .bool false] 62)).frozen? ⟨b, 2, none⟩ = false := frozen_of_row _ b 2 _ _ hb0
  clear hb0 hb0d
  go_region_law ((refine step_append_lies _ (by rfl) _ _ 57 (by rfl) (b + 1) 62 i0 (.agg #[.bool false, .bool false, .bool false]) 3 3 Try.underlying57 hi hz0 hz1 hz2 rfl (by omega) (.slice ag n cg) n xs (by rfl) ((hg.alloc _).drew) ⟨w.heap.size, 0, none⟩ 1 1 [.bool f, .bool true, .bool false] (by rfl) (by rfl) (World.news_of_block (cs := #[.bool f, .bool true, .bool false]) (t := 62) (fr := (0, 0)) (heap_alloc_new w _)) (cells3 rfl rfl rfl) (by omega) (by unfold maxLen; omega) (by omega) (by simp; omega) (w.heap.size + 1) (by simp) ?_; intro g cap w1 hown hgrow hat hlt1; have hb1 := scan_block HB0.out (hg.alloc _).drew hgrow; have c2' : w1.cell? ⟨b, 2, none⟩ = some (.slice ag n cg) := (by rw [cell_of_row w1 b 2 _ _ _ hb1]; rfl); have f2' : w1.frozen? ⟨b, 2, none⟩ = false := frozen_of_row w1 b 2 _ _ hb1; have S := scan_pushg HB0.out (hg.alloc _).drew (hr.alloc _).drew hown hgrow; have BB := below_push ((Below.refl b w).alloc (Nat.le_of_lt hlt) _).drew HB0.out (hg.alloc _).drew hgrow 2 (.slice (some ⟨g, 0, none⟩) (n + 1) cap); clear hb1))
  all_goals go_wp2
  all_goals (go_ret; exact ⟨rfl, S, BB⟩)

set_option maxRecDepth 100000 in
set_option maxHeartbeats 1000000 in
theorem group_p2 {b : Nat} {text : ByteArray} {f nn : Bool} {c h s st : Int} {n m : Nat} {xs ys : List Value} {w : World} (t : ByteArray) (H : Scan w b text f n xs m ys nn c h s st) (hn : n ≤ 1048576)
    (hs : t.size ≤ 1048576) (h1 : 1 ≤ t.size) (h2 : 2 ≤ t.size) (b0 : bt t 0 = 40) (b1 : bt t 1 = 63) (q1 : has1 (t.extract 2 t.size) = false) (q2 : has2 (t.extract 2 t.size) = true) :
    Calls Try.prog 26 #[.pointer (some ⟨b, 0, none⟩), .string t] w
      fun e w' => e = .returned (.string (t.extract 1 t.size)) ∧ Scan w' b text f (n + 1) (xs ++ [.bool f, .bool true, .bool false]) m ys nn c h s st ∧ Below b w w' := by
  obtain ⟨ag, cg, ar, cr, hb, hg, hr⟩ := H
  have hlt := block_lt hb
  have c1 : w.cell? ⟨b, 1, none⟩ = some (.bool f) := by rw [cell_of_row w b 1 _ _ _ hb]; rfl
  have c2 : w.cell? ⟨b, 2, none⟩ = some (.slice ag n cg) := by rw [cell_of_row w b 2 _ _ _ hb]; rfl
  have f2 : w.frozen? ⟨b, 2, none⟩ = false := frozen_of_row w b 2 _ _ hb
  obtain ⟨i0, hi, hz0, hz1, hz2⟩ := info_parts info62
  have HB : Hid (w.heap[b]? = some (.cells #[.string text, .bool f, .slice ag n cg, .slice ar m cr, .bool nn, .int .i64 c, .int .i64 h, .int .i64 s, .int .i64 st] 60 (0, 0))) := hb
  have HN : Hid (bt t 0 = 40 ∧ bt t 1 = 63) := ⟨b0, b1⟩
  have hsz : (t.extract 2 t.size).size ≤ 1048576 := by rw [size_cut]; omega
  have HS : Hid ((t.extract 2 t.size).size ≤ 1048576) := hsz
  clear hb b0 b1 hsz
  go_enter Try.func26, Try.ntmps26
  go_wp2_with (first | (go_at_call 33; refine (cut_ok t _ hs h2 HN.out.1 HN.out.2).mono ?_; rintro e w' ⟨rfl, rfl⟩) | (go_at_call_of 34 (Value.string ⟨#[60]⟩); refine (has1_any (t.extract 2 t.size) _ HS.out).mono ?_; rintro e w' ⟨rfl, rfl⟩) | (go_at_call_of 34 (Value.string ⟨#[80, 60]⟩); refine (has2_any (t.extract 2 t.size) _ HS.out).mono ?_; rintro e w' ⟨rfl, rfl⟩))
  have hb0 := (Below.heap_alloc w (.cells #[.bool f, .bool true, .bool false] 62) b hlt).trans HB.out
  have hb0d : (w.alloc (.cells #[.bool f, .bool true, .bool false] 62)).drew.heap[b]? = some (.cells #[.string text, .bool f, .slice ag n cg, .slice ar m cr, .bool nn, .int .i64 c, .int .i64 h, .int .i64 s, .int .i64 st] 60 (0, 0)) := hb0
  have HB0 : Hid ((w.alloc (.cells #[.bool f, .bool true, .bool false] 62)).drew.heap[b]? = some (.cells #[.string text, .bool f, .slice ag n cg, .slice ar m cr, .bool nn, .int .i64 c, .int .i64 h, .int .i64 s, .int .i64 st] 60 (0, 0))) := hb0d
  have f2a : (w.alloc (.cells #[.bool f, .bool true, .bool false] 62)).drew.frozen? ⟨b, 2, none⟩ = false := frozen_of_row _ b 2 _ _ hb0d
  have f2b : (w.alloc (.cells #[.bool f, .bool true, .bool false] 62)).frozen? ⟨b, 2, none⟩ = false := frozen_of_row _ b 2 _ _ hb0
  clear hb0 hb0d
  go_region_law ((refine step_append_lies _ (by rfl) _ _ 57 (by rfl) (b + 1) 62 i0 (.agg #[.bool false, .bool false, .bool false]) 3 3 Try.underlying57 hi hz0 hz1 hz2 rfl (by omega) (.slice ag n cg) n xs (by rfl) ((hg.alloc _).drew) ⟨w.heap.size, 0, none⟩ 1 1 [.bool f, .bool true, .bool false] (by rfl) (by rfl) (World.news_of_block (cs := #[.bool f, .bool true, .bool false]) (t := 62) (fr := (0, 0)) (heap_alloc_new w _)) (cells3 rfl rfl rfl) (by omega) (by unfold maxLen; omega) (by omega) (by simp; omega) (w.heap.size + 1) (by simp) ?_; intro g cap w1 hown hgrow hat hlt1; have hb1 := scan_block HB0.out (hg.alloc _).drew hgrow; have c2' : w1.cell? ⟨b, 2, none⟩ = some (.slice ag n cg) := (by rw [cell_of_row w1 b 2 _ _ _ hb1]; rfl); have f2' : w1.frozen? ⟨b, 2, none⟩ = false := frozen_of_row w1 b 2 _ _ hb1; have S := scan_pushg HB0.out (hg.alloc _).drew (hr.alloc _).drew hown hgrow; have BB := below_push ((Below.refl b w).alloc (Nat.le_of_lt hlt) _).drew HB0.out (hg.alloc _).drew hgrow 2 (.slice (some ⟨g, 0, none⟩) (n + 1) cap); clear hb1))
  all_goals go_wp2
  all_goals (go_ret; exact ⟨rfl, S, BB⟩)

end Go.Proofs.Qxb6604067a.psg
