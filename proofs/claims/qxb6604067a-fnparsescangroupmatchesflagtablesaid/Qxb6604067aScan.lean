import Derived.Test.Qxb6604067aLeaf
import Derived.Deep.AppendLies
import Derived.WalkSmall
import Derived.BigQuiet
import Derived.Deep.QuietTactic
namespace Go.Proofs.Qxb6604067a.psg
open Go.RowKit

theorem info62 : (Try.prog.info? 62).map (fun i => (i.zero, i.size, i.bytes)) = some (some (.agg #[.bool false, .bool false, .bool false]), 3, 3) := by kernel_rfl
theorem info64 : (Try.prog.info? 64).map (fun i => (i.zero, i.size, i.bytes)) = some (some (.agg #[.int .i64 0, .int .i64 0]), 2, 16) := by kernel_rfl

/-- THE SCAN IN MEMORY: its nine fields lie in block b; its two slices own their cells. -/
def Scan (w : World) (b : Nat) (text : ByteArray) (f : Bool) (n : Nat) (xs : List Value) (m : Nat) (ys : List Value) (nn : Bool) (c h s st : Int) : Prop :=
  ∃ (ag : Option Addr) (cg : Nat) (ar : Option Addr) (cr : Nat),
    w.heap[b]? = some (.cells #[.string text, .bool f, .slice ag n cg, .slice ar m cr, .bool nn, .int .i64 c, .int .i64 h, .int .i64 s, .int .i64 st] 60 (0, 0)) ∧
    w.ownsRow (b + 1) 62 3 (.slice ag n cg) n xs ∧ w.ownsRow (b + 1) 64 2 (.slice ar m cr) m ys

theorem block_lt {w : World} {b : Nat} {o : Obj} (h : w.heap[b]? = some o) : b < w.heap.size := by
  rcases Nat.lt_or_ge b w.heap.size with hlt | hge
  · exact hlt
  · rw [Array.getElem?_eq_none hge] at h; cases h

/-- Two rows of different element types lie in different blocks. -/
theorem rows_apart {w : World} {b : Nat} {v u : Value} {n m : Nat} {xs ys : List Value} (hv : w.ownsRow b 62 3 v n xs) (hu : w.ownsRow b 64 2 u m ys) : ∀ k, v.ownBlock = some k → u.ownBlock ≠ some k := by
  intro k hk he
  rcases hv.2 with ⟨rfl, _⟩ | ⟨g, cap, cur, rfl, _, hg, _⟩
  · simp [Value.ownBlock] at hk
  rcases hu.2 with ⟨rfl, _⟩ | ⟨g', cap', cur', rfl, _, hg', _⟩
  · simp [Value.ownBlock] at he
  simp [Value.ownBlock] at hk he
  subst hk he
  rw [hg] at hg'
  simp at hg'

set_option maxHeartbeats 400000 in
theorem new_any (text : ByteArray) (f nn : Bool) (c h s st : Int) (w : World) :
    Calls Try.prog 8 #[.string text, .bool f, .bool nn, .int .i64 c, .int .i64 h, .int .i64 s, .int .i64 st] w
      fun e w' => e = .returned (.pointer (some ⟨w.heap.size, 0, none⟩)) ∧ Scan w' w.heap.size text f 0 [] 0 [] nn c h s st ∧ Below w.heap.size w w' := by
  go_enter Try.func8, Try.ntmps8
  go_wp2
  go_ret
  exact ⟨rfl, ⟨none, 0, none, 0, heap_alloc_new w _, World.ownsRow_nil _ _ _ _, World.ownsRow_nil _ _ _ _⟩, (Below.refl _ _).alloc (Nat.le_refl _) _⟩

theorem own_ne {w : World} {b : Nat} {e : TypeId} {z : Nat} {v : Value} {n : Nat} {xs : List Value} (h : w.ownsRow (b + 1) e z v n xs) : some b ≠ v.ownBlock := by
  intro e
  have := (h.lt b e.symm).1
  omega

/-- The block of the scan behind an append to one of its rows. -/
theorem scan_block {w0 w1 : World} {b : Nat} {o : Obj} {e : TypeId} {z : Nat} {v : Value} {n : Nat} {xs : List Value} (hb : w0.heap[b]? = some o) (hv : w0.ownsRow (b + 1) e z v n xs) (hgrow : w0.grownBy w1 v.ownBlock) : w1.heap[b]? = some o := by
  rw [hgrow.block b (block_lt hb) (own_ne hv)]; exact hb

theorem below_push {w w0 w1 : World} {b : Nat} {o : Obj} {e : TypeId} {z : Nat} {v : Value} {n : Nat} {xs : List Value} (hbel : Below b w w0) (hb : w0.heap[b]? = some o) (hv : w0.ownsRow (b + 1) e z v n xs) (hgrow : w0.grownBy w1 v.ownBlock) (k : Nat) (u : Value) :
    Below b w (w1.setCell ⟨b, k, none⟩ u) :=
  (hbel.grown hgrow (Nat.le_of_lt (block_lt hb)) (fun k hk => by have := (hv.lt k hk).1; omega)).setCell (Nat.le_refl _) _

/-- One more group: the world behind the append to the groups' row and the store of the new slice into the scan. -/
theorem scan_pushg {w0 w1 : World} {b : Nat} {text : ByteArray} {f nn : Bool} {c h s st : Int} {n m : Nat} {xs ys news : List Value} {ag ar : Option Addr} {cg cr g cap : Nat}
    (hb : w0.heap[b]? = some (.cells #[.string text, .bool f, .slice ag n cg, .slice ar m cr, .bool nn, .int .i64 c, .int .i64 h, .int .i64 s, .int .i64 st] 60 (0, 0)))
    (hg : w0.ownsRow (b + 1) 62 3 (.slice ag n cg) n xs) (hr : w0.ownsRow (b + 1) 64 2 (.slice ar m cr) m ys)
    (hown : w1.ownsRow (b + 1) 62 3 (.slice (some ⟨g, 0, none⟩) (n + 1) cap) (n + 1) (xs ++ news)) (hgrow : w0.grownBy w1 (Value.slice ag n cg).ownBlock) :
    Scan (w1.setCell ⟨b, 2, none⟩ (.slice (some ⟨g, 0, none⟩) (n + 1) cap)) b text f (n + 1) (xs ++ news) m ys nn c h s st := by
  have h1 := scan_block hb hg hgrow
  refine ⟨_, _, _, _, ?_, ownsRow_setCell_below hown (Nat.lt_succ_self b) _, ownsRow_setCell_below (hr.kept hgrow ?_) (Nat.lt_succ_self b) _⟩
  · exact heap_setCell_same w1 b 2 _ _ _ h1
  · cases hv : (Value.slice ar m cr).ownBlock with
    | none => exact .inl rfl
    | some k => exact .inr (fun e => rows_apart hg hr k e.symm hv)

theorem scan_pushr {w0 w1 : World} {b : Nat} {text : ByteArray} {f nn : Bool} {c h s st : Int} {n m : Nat} {xs ys news : List Value} {ag ar : Option Addr} {cg cr g cap : Nat}
    (hb : w0.heap[b]? = some (.cells #[.string text, .bool f, .slice ag n cg, .slice ar m cr, .bool nn, .int .i64 c, .int .i64 h, .int .i64 s, .int .i64 st] 60 (0, 0)))
    (hg : w0.ownsRow (b + 1) 62 3 (.slice ag n cg) n xs) (hr : w0.ownsRow (b + 1) 64 2 (.slice ar m cr) m ys)
    (hown : w1.ownsRow (b + 1) 64 2 (.slice (some ⟨g, 0, none⟩) (m + 1) cap) (m + 1) (ys ++ news)) (hgrow : w0.grownBy w1 (Value.slice ar m cr).ownBlock) :
    Scan (w1.setCell ⟨b, 3, none⟩ (.slice (some ⟨g, 0, none⟩) (m + 1) cap)) b text f n xs (m + 1) (ys ++ news) nn c h s st := by
  have h1 := scan_block hb hr hgrow
  refine ⟨_, _, _, _, ?_, ownsRow_setCell_below (hg.kept hgrow ?_) (Nat.lt_succ_self b) _, ownsRow_setCell_below hown (Nat.lt_succ_self b) _⟩
  · exact heap_setCell_same w1 b 3 _ _ _ h1
  · cases hv : (Value.slice ag n cg).ownBlock with
    | none => exact .inl rfl
    | some k => exact .inr (fun e => rows_apart hg hr k hv e.symm)

theorem cells3 {x y z : Value} (hx : x.oneCell' = true) (hy : y.oneCell' = true) (hz : z.oneCell' = true) : ∀ u ∈ [x, y, z], u.oneCell' = true := by
  intro u hu
  simp at hu
  rcases hu with rfl | rfl | rfl <;> assumption
theorem cells2 {x y : Value} (hx : x.oneCell' = true) (hy : y.oneCell' = true) : ∀ u ∈ [x, y], u.oneCell' = true := by
  intro u hu
  simp at hu
  rcases hu with rfl | rfl <;> assumption

set_option maxHeartbeats 400000 in
theorem addg_any {b : Nat} {text : ByteArray} {f nn : Bool} {c h s st : Int} {n m : Nat} {xs ys : List Value} {w : World} (x y z : Bool) (H : Scan w b text f n xs m ys nn c h s st) (hn : n ≤ 1048576) :
    Calls Try.prog 9 #[.pointer (some ⟨b, 0, none⟩), .bool x, .bool y, .bool z] w
      fun e w' => e = .returned (.tuple #[]) ∧ Scan w' b text f (n + 1) (xs ++ [.bool x, .bool y, .bool z]) m ys nn c h s st ∧ Below b w w' := by
  obtain ⟨ag, cg, ar, cr, hb, hg, hr⟩ := H
  have hlt := block_lt hb
  have c2 : w.cell? ⟨b, 2, none⟩ = some (.slice ag n cg) := by rw [cell_of_row w b 2 _ _ _ hb]; rfl
  obtain ⟨i0, hi, hz0, hz1, hz2⟩ := info_parts info62
  have HB : Hid (w.heap[b]? = some (.cells #[.string text, .bool f, .slice ag n cg, .slice ar m cr, .bool nn, .int .i64 c, .int .i64 h, .int .i64 s, .int .i64 st] 60 (0, 0))) := hb
  clear hb
  go_enter Try.func9, Try.ntmps9
  go_wp2_with (at_builtin; refine wpList_append_lies _ rfl _ _ 57 rfl (b + 1) 62 i0 (.agg #[.bool false, .bool false, .bool false]) 3 3 Try.underlying57 hi hz0 hz1 hz2 rfl (by omega) (.slice ag n cg) n xs rfl (hg.alloc _) ⟨w.heap.size, 0, none⟩ 1 1 [.bool x, .bool y, .bool z] rfl rfl (World.news_of_block (heap_alloc_new w _)) (cells3 rfl rfl rfl) (by omega) (by unfold maxLen; omega) (by omega) (by simp; omega) (w.heap.size + 1) (by simp) ?_; intro g cap w1 hown hgrow hat hlt1; have hb0 := (Below.heap_alloc w (.cells #[.bool x, .bool y, .bool z] 62) b hlt).trans HB.out; have hb1 := scan_block hb0 (hg.alloc _) hgrow; have c2' : w1.cell? ⟨b, 2, none⟩ = some (.slice ag n cg) := (by rw [cell_of_row w1 b 2 _ _ _ hb1]; rfl); have f2' : w1.frozen? ⟨b, 2, none⟩ = false := frozen_of_row w1 b 2 _ _ hb1; have S := scan_pushg hb0 (hg.alloc _) (hr.alloc _) hown hgrow; have BB := below_push ((Below.refl b w).alloc (Nat.le_of_lt hlt) _) hb0 (hg.alloc _) hgrow 2 (.slice (some ⟨g, 0, none⟩) (n + 1) cap); clear hb0 hb1)
  go_end0
  exact ⟨rfl, S, BB⟩

set_option maxHeartbeats 400000 in
theorem addr_any {b : Nat} {text : ByteArray} {f nn : Bool} {c h s st : Int} {n m : Nat} {xs ys : List Value} {w : World} (x y : Int) (H : Scan w b text f n xs m ys nn c h s st) (hm : m ≤ 1048576) :
    Calls Try.prog 10 #[.pointer (some ⟨b, 0, none⟩), .int .i64 x, .int .i64 y] w
      fun e w' => e = .returned (.tuple #[]) ∧ Scan w' b text f n xs (m + 1) (ys ++ [.int .i64 x, .int .i64 y]) nn c h s st ∧ Below b w w' := by
  obtain ⟨ag, cg, ar, cr, hb, hg, hr⟩ := H
  have hlt := block_lt hb
  have c2 : w.cell? ⟨b, 3, none⟩ = some (.slice ar m cr) := by rw [cell_of_row w b 3 _ _ _ hb]; rfl
  obtain ⟨i0, hi, hz0, hz1, hz2⟩ := info_parts info64
  have HB : Hid (w.heap[b]? = some (.cells #[.string text, .bool f, .slice ag n cg, .slice ar m cr, .bool nn, .int .i64 c, .int .i64 h, .int .i64 s, .int .i64 st] 60 (0, 0))) := hb
  clear hb
  go_enter Try.func10, Try.ntmps10
  go_wp2_with (at_builtin; refine wpList_append_lies _ rfl _ _ 58 rfl (b + 1) 64 i0 (.agg #[.int .i64 0, .int .i64 0]) 2 16 Try.underlying58 hi hz0 hz1 hz2 rfl (by omega) (.slice ar m cr) m ys rfl (hr.alloc _) ⟨w.heap.size, 0, none⟩ 1 1 [.int .i64 x, .int .i64 y] rfl rfl (World.news_of_block (heap_alloc_new w _)) (cells2 rfl rfl) (by omega) (by unfold maxLen; omega) (by omega) (by simp; omega) (w.heap.size + 1) (by simp) ?_; intro g cap w1 hown hgrow hat hlt1; have hb0 := (Below.heap_alloc w (.cells #[.int .i64 x, .int .i64 y] 64) b hlt).trans HB.out; have hb1 := scan_block hb0 (hr.alloc _) hgrow; have c2' : w1.cell? ⟨b, 3, none⟩ = some (.slice ar m cr) := (by rw [cell_of_row w1 b 3 _ _ _ hb1]; rfl); have f2' : w1.frozen? ⟨b, 3, none⟩ = false := frozen_of_row w1 b 3 _ _ hb1; have S := scan_pushr hb0 (hg.alloc _) (hr.alloc _) hown hgrow; have BB := below_push ((Below.refl b w).alloc (Nat.le_of_lt hlt) _) hb0 (hr.alloc _) hgrow 3 (.slice (some ⟨g, 0, none⟩) (m + 1) cap); clear hb0 hb1)
  go_end0
  exact ⟨rfl, S, BB⟩

/-- What lies below the heap's end is as it was: the scan is as it was. -/
theorem scan_below {b : Nat} {text : ByteArray} {f nn : Bool} {c h s st : Int} {n m : Nat} {xs ys : List Value} {w w' : World} (H : Scan w b text f n xs m ys nn c h s st) (hbel : Below w.heap.size w w') : Scan w' b text f n xs m ys nn c h s st := by
  obtain ⟨ag, cg, ar, cr, hb, hg, hr⟩ := H
  have gr : w.grownBy w' none := ⟨hbel.os, hbel.tape, hbel.output, hbel.size, fun k hk _ => hbel.block k hk⟩
  refine ⟨ag, cg, ar, cr, by rw [hbel.block b (block_lt hb)]; exact hb, hg.kept gr ?_, hr.kept gr ?_⟩
  · cases h : (Value.slice ag n cg).ownBlock <;> simp
  · cases h : (Value.slice ar m cr).ownBlock <;> simp

set_option maxHeartbeats 400000 in
theorem countg_any {b : Nat} {text : ByteArray} {f nn : Bool} {c h s st : Int} {n m : Nat} {xs ys : List Value} {w : World} (H : Scan w b text f n xs m ys nn c h s st) :
    Calls Try.prog 14 #[.pointer (some ⟨b, 0, none⟩)] w fun e w' => e = .returned (.int .i64 n) ∧ w = w' := by
  obtain ⟨ag, cg, ar, cr, hb, hg, hr⟩ := H
  have c2 : w.cell? ⟨b, 2, none⟩ = some (.slice ag n cg) := by rw [cell_of_row w b 2 _ _ _ hb]; rfl
  clear hb hg hr
  go_enter Try.func14, Try.ntmps14
  go_wp2
  go_ret
  exact ⟨rfl, rfl⟩

set_option maxHeartbeats 400000 in
theorem countr_any {b : Nat} {text : ByteArray} {f nn : Bool} {c h s st : Int} {n m : Nat} {xs ys : List Value} {w : World} (H : Scan w b text f n xs m ys nn c h s st) :
    Calls Try.prog 16 #[.pointer (some ⟨b, 0, none⟩)] w fun e w' => e = .returned (.int .i64 m) ∧ w = w' := by
  obtain ⟨ag, cg, ar, cr, hb, hg, hr⟩ := H
  have c2 : w.cell? ⟨b, 3, none⟩ = some (.slice ar m cr) := by rw [cell_of_row w b 3 _ _ _ hb]; rfl
  clear hb hg hr
  go_enter Try.func16, Try.ntmps16
  go_wp2
  go_ret
  exact ⟨rfl, rfl⟩

set_option maxRecDepth 100000 in
set_option maxHeartbeats 1000000 in
theorem fields_any {b : Nat} {text : ByteArray} {f nn : Bool} {c h s st : Int} {n m : Nat} {xs ys : List Value} {w : World} (H : Scan w b text f n xs m ys nn c h s st) :
    Calls Try.prog 13 #[.pointer (some ⟨b, 0, none⟩)] w
      fun e w' => e = .returned (.tuple #[.string text, .bool f, .bool nn, .int .i64 c, .int .i64 h, .int .i64 s, .int .i64 st]) ∧ Below w.heap.size w w' := by
  obtain ⟨ag, cg, ar, cr, hb, hg, hr⟩ := H
  have c0 : w.cell? ⟨b, 0, none⟩ = some (.string text) := by rw [cell_of_row w b 0 _ _ _ hb]; rfl
  have c1 : w.cell? ⟨b, 1, none⟩ = some (.bool f) := by rw [cell_of_row w b 1 _ _ _ hb]; rfl
  have c4 : w.cell? ⟨b, 4, none⟩ = some (.bool nn) := by rw [cell_of_row w b 4 _ _ _ hb]; rfl
  have c5 : w.cell? ⟨b, 5, none⟩ = some (.int .i64 c) := by rw [cell_of_row w b 5 _ _ _ hb]; rfl
  have c6 : w.cell? ⟨b, 6, none⟩ = some (.int .i64 h) := by rw [cell_of_row w b 6 _ _ _ hb]; rfl
  have c7 : w.cell? ⟨b, 7, none⟩ = some (.int .i64 s) := by rw [cell_of_row w b 7 _ _ _ hb]; rfl
  have c8 : w.cell? ⟨b, 8, none⟩ = some (.int .i64 st) := by rw [cell_of_row w b 8 _ _ _ hb]; rfl
  clear hb hg hr
  go_enter Try.func13, Try.ntmps13
  go_wp2
  go_quiet (fail)
  go_wp2
  refine bodyPost_ret (v := .tuple #[.string text, .bool f, .bool nn, .int .i64 c, .int .i64 h, .int .i64 s, .int .i64 st]) (by simp [results, Try.results13, go_sem]) rfl ⟨rfl, below_drewN (Below.refl _ _) nq⟩

set_option maxRecDepth 100000 in
set_option maxHeartbeats 1000000 in
theorem atg_any {b : Nat} {text : ByteArray} {f nn : Bool} {c h s st : Int} {n m : Nat} {xs ys : List Value} {w : World} (H : Scan w b text f n xs m ys nn c h s st) (k : Nat) (hk : k < n) (hn : n ≤ 1048576) (x y z : Bool)
    (hx : xs[k * 3]? = some (.bool x)) (hy : xs[k * 3 + 1]? = some (.bool y)) (hz : xs[k * 3 + 2]? = some (.bool z)) :
    Calls Try.prog 15 #[.pointer (some ⟨b, 0, none⟩), .int .i64 k] w
      fun e w' => e = .returned (.tuple #[.bool x, .bool y, .bool z]) ∧ Below w.heap.size w w' := by
  obtain ⟨ag, cg, ar, cr, hb, hg, hr⟩ := H
  have c2 : w.cell? ⟨b, 2, none⟩ = some (.slice ag n cg) := by rw [cell_of_row w b 2 _ _ _ hb]; rfl
  obtain ⟨g, cap, hv, hbg, hgl⟩ := hg.form (by omega)
  rw [hv] at hg c2
  have d0 : w.cell? ⟨g, k * 3, none⟩ = some (.bool x) := (hg.cellAt (k * 3) (by omega)).trans hx
  have d1 : w.cell? ⟨g, k * 3 + 1, none⟩ = some (.bool y) := (hg.cellAt (k * 3 + 1) (by omega)).trans hy
  have d2 : w.cell? ⟨g, k * 3 + 2, none⟩ = some (.bool z) := (hg.cellAt (k * 3 + 2) (by omega)).trans hz
  clear hb hg hr hv
  have hk' : (k : Int) < (n : Int) := by omega
  go_enter Try.func15, Try.ntmps15
  go_wp2
  go_quiet (fail)
  go_wp2
  go_ret3
  exact ⟨rfl, below_drewN ((Below.refl _ _).alloc (Nat.le_refl _) _) nq⟩

set_option maxRecDepth 100000 in
set_option maxHeartbeats 1000000 in
theorem atr_any {b : Nat} {text : ByteArray} {f nn : Bool} {c h s st : Int} {n m : Nat} {xs ys : List Value} {w : World} (H : Scan w b text f n xs m ys nn c h s st) (k : Nat) (hk : k < m) (hm : m ≤ 1048576) (x y : Int)
    (hx : ys[k * 2]? = some (.int .i64 x)) (hy : ys[k * 2 + 1]? = some (.int .i64 y)) :
    Calls Try.prog 17 #[.pointer (some ⟨b, 0, none⟩), .int .i64 k] w
      fun e w' => e = .returned (.tuple #[.int .i64 x, .int .i64 y]) ∧ Below w.heap.size w w' := by
  obtain ⟨ag, cg, ar, cr, hb, hg, hr⟩ := H
  have c2 : w.cell? ⟨b, 3, none⟩ = some (.slice ar m cr) := by rw [cell_of_row w b 3 _ _ _ hb]; rfl
  obtain ⟨g, cap, hv, hbg, hgl⟩ := hr.form (by omega)
  rw [hv] at hr c2
  have d0 : w.cell? ⟨g, k * 2, none⟩ = some (.int .i64 x) := (hr.cellAt (k * 2) (by omega)).trans hx
  have d1 : w.cell? ⟨g, k * 2 + 1, none⟩ = some (.int .i64 y) := (hr.cellAt (k * 2 + 1) (by omega)).trans hy
  clear hb hg hr hv hx hy
  have hk' : (k : Int) < (m : Int) := by omega
  go_enter Try.func17, Try.ntmps17
  go_wp2
  go_quiet (fail)
  go_wp2
  go_ret2
  exact ⟨rfl, below_drewN ((Below.refl _ _).alloc (Nat.le_refl _) _) nq⟩

end Go.Proofs.Qxb6604067a.psg
