import Derived.Test.Qxb6604120aGiven
import Derived.Lib.LazyBuf
namespace Go.Proofs.Qxb6604120a.act
open Go.RowKit

theorem info9 : (Try.prog.info? 9).map (fun i => (i.zero, i.size, i.bytes)) = some (some (.string ByteArray.empty), 1, 16) := by kernel_rfl
theorem info28 : (Try.prog.info? 28).map (fun i => (i.zero, i.size, i.bytes)) = some (some (.slice none 0 0), 1, 24) := by kernel_rfl

/-- THE ANSWER OF ZZActionGiven IN MEMORY: names and figures side by side. -/
def Res (w : World) (an af : Option Addr) (L : List Ent) : Prop :=
  L = [] ∨ ∃ g h, an = some ⟨g, 0, none⟩ ∧ af = some ⟨h, 0, none⟩ ∧ g < w.heap.size ∧ h < w.heap.size ∧
    ∀ (k : Nat) (e : Ent), L[k]? = some e → w.cell? ⟨g, k, none⟩ = some (.string e.1) ∧ ∃ fb, w.cell? ⟨h, k, none⟩ = some (.slice (some ⟨fb, 0, none⟩) e.2.length e.2.length) ∧ FB w fb e.2

theorem Res.below {w w' : World} {T : Nat} {an af : Option Addr} {L : List Ent} (h : Res w an af L) (hB : Below T w w') (hT : w.heap.size ≤ T) : Res w' an af L := by
  rcases h with h | ⟨g, hh, ha, hf, hg, hl, hx⟩
  · exact .inl h
  · refine .inr ⟨g, hh, ha, hf, Nat.lt_of_lt_of_le hg hB.size, Nat.lt_of_lt_of_le hl hB.size, fun k e he => ?_⟩
    obtain ⟨h1, fb, h2, h3⟩ := hx k e he
    exact ⟨(hB.cell (p := ⟨g, k, none⟩) (Nat.lt_of_lt_of_le hg hT)).trans h1, fb, (hB.cell (p := ⟨hh, k, none⟩) (Nat.lt_of_lt_of_le hl hT)).trans h2, h3.below hB hT⟩

/-- What stands of the copy after k rounds. -/
def Half (w1 wr : World) (base n1 n2 : Nat) (L : List Ent) (k : Nat) (xs ys : List Value) : Prop :=
  wr.ownsRow base 9 1 (.slice (some ⟨n1, 0, none⟩) L.length L.length) L.length xs ∧ wr.ownsRow base 28 1 (.slice (some ⟨n2, 0, none⟩) L.length L.length) L.length ys ∧
  ∀ (j : Nat) (e : Ent), j < k → L[j]? = some e → xs[j]? = some (.string e.1) ∧ ∃ fb, ys[j]? = some (.slice (some ⟨fb, 0, none⟩) e.2.length e.2.length) ∧ FB w1 fb e.2

theorem Half.step {w1 wr : World} {base n1 n2 : Nat} {L : List Ent} {k : Nat} {xs ys : List Value} (h : Half w1 wr base n1 n2 L k xs ys) (hne : n1 ≠ n2) {e : Ent} (hk : L[k]? = some e) {fb : Nat} (hF : FB w1 fb e.2) :
    ∃ xs' ys', Half w1 ((wr.setCell ⟨n1, k, none⟩ (.string e.1)).setCell ⟨n2, k, none⟩ (.slice (some ⟨fb, 0, none⟩) e.2.length e.2.length)) base n1 n2 L (k + 1) xs' ys' := by
  obtain ⟨hx, hy, hc⟩ := h
  have hkl : k < L.length := (List.getElem?_eq_some_iff.1 hk).1
  obtain ⟨hx1, g1⟩ := hx.stored k (.string e.1)
  have hy1 := hy.kept g1 (.inr (by simp [Value.ownBlock]; omega))
  obtain ⟨hy2, g2⟩ := hy1.stored k (.slice (some ⟨fb, 0, none⟩) e.2.length e.2.length)
  have hx2 := hx1.kept g2 (.inr (by simp [Value.ownBlock]; omega))
  refine ⟨_, _, hx2, hy2, fun j e' hj he => ?_⟩
  have lx := hx.1
  have ly := hy.1
  rw [List.getElem?_set, List.getElem?_set]
  rcases Nat.lt_succ_iff_lt_or_eq.1 hj with h | rfl
  · rw [if_neg (by omega), if_neg (by omega)]
    exact hc j e' h he
  · rw [hk] at he
    cases he
    rw [if_pos rfl, if_pos rfl, if_pos (by omega), if_pos (by omega)]
    exact ⟨rfl, fb, rfl, hF⟩

theorem Half.res {w1 wr : World} {base n1 n2 : Nat} {L : List Ent} {xs ys : List Value} (h : Half w1 wr base n1 n2 L L.length xs ys) {T : Nat} (hB : Below T w1 wr) (hT : w1.heap.size ≤ T) : Res wr (some ⟨n1, 0, none⟩) (some ⟨n2, 0, none⟩) L := by
  obtain ⟨hx, hy, hc⟩ := h
  refine .inr ⟨n1, n2, rfl, rfl, (hx.lt n1 rfl).2, (hy.lt n2 rfl).2, fun k e he => ?_⟩
  have hkl : k < L.length := (List.getElem?_eq_some_iff.1 he).1
  obtain ⟨h1, fb, h2, h3⟩ := hc k e hkl he
  exact ⟨(hx.cellAt k (by omega)).trans h1, fb, (hy.cellAt k (by omega)).trans h2, h3.below hB hT⟩

def ZPost (L : List Ent) (w : World) (e : Ending) (w' : World) : Prop := ∃ an cn af cf, e = .returned (.tuple #[.slice an L.length cn, .slice af L.length cf]) ∧ Res w' an af L ∧ Below w.heap.size w w'

set_option maxRecDepth 100000 in
set_option maxHeartbeats 2000000 in
theorem zz_any {w : World} {p1 p2 p3 p4 : Option Addr} {o1 o2 o4 : Option ByteArray} {o3 : Option (ByteArray × ByteArray × ByteArray)}
    (h1 : PS w p1 o1) (h2 : PS w p2 o2) (h3 : PR w p3 o3) (h4 : PS w p4 o4) :
    Calls Try.prog 9 #[.pointer p1, .pointer p2, .pointer p3, .pointer p4] w fun e w' => ZPost (ents o1 o2 o3 o4) w e w' := by
  obtain ⟨i9, a9, b9, c9, d9⟩ := info_parts info9
  obtain ⟨i8, a8, b8, c8, d8⟩ := info_parts info28
  have HB : Hid (Below w.heap.size w (w.alloc (.cells #[.pointer p1, .pointer p2, .pointer p3, .pointer p4] 43))) := (Below.refl _ _).alloc (Nat.le_refl _) _
  have hnew := heap_alloc_new w (.cells #[.pointer p1, .pointer p2, .pointer p3, .pointer p4] 43)
  have q0 : (w.alloc (.cells #[.pointer p1, .pointer p2, .pointer p3, .pointer p4] 43)).cell? ⟨w.heap.size, 0, none⟩ = some (.pointer p1) := by rw [cell_of_row _ _ 0 _ _ _ hnew]; rfl
  have q1 : (w.alloc (.cells #[.pointer p1, .pointer p2, .pointer p3, .pointer p4] 43)).cell? ⟨w.heap.size, 1, none⟩ = some (.pointer p2) := by rw [cell_of_row _ _ 1 _ _ _ hnew]; rfl
  have q2 : (w.alloc (.cells #[.pointer p1, .pointer p2, .pointer p3, .pointer p4] 43)).cell? ⟨w.heap.size, 2, none⟩ = some (.pointer p3) := by rw [cell_of_row _ _ 2 _ _ _ hnew]; rfl
  have q3 : (w.alloc (.cells #[.pointer p1, .pointer p2, .pointer p3, .pointer p4] 43)).cell? ⟨w.heap.size, 3, none⟩ = some (.pointer p4) := by rw [cell_of_row _ _ 3 _ _ _ hnew]; rfl
  have CG := given_any (by simp : w.heap.size < (w.alloc (.cells #[.pointer p1, .pointer p2, .pointer p3, .pointer p4] 43)).heap.size) q0 q1 q2 q3
    (h1.below HB.out (Nat.le_refl _)) (h2.below HB.out (Nat.le_refl _)) (h3.below HB.out (Nat.le_refl _)) (h4.below HB.out (Nat.le_refl _))
  obtain ⟨L, hL⟩ : ∃ L, ents o1 o2 o3 o4 = L := ⟨_, rfl⟩
  have hlen : L.length ≤ 4 := by
    rw [← hL]
    have l1 := e1_le o1
    have l2 := e2_le o2
    have l3 := e3_le o3
    have l4 := e4_le o4
    simp [ents]; omega
  rw [hL] at CG ⊢
  clear q0 q1 q2 q3 hnew h1 h2 h3 h4 hL
  go_enter Try.func9, Try.ntmps9
  go_wp2_with fail
  refine CG.mono ?_
  rintro e w1 ⟨v, rfl, hG, hB⟩
  have HB1 : Hid (Below w.heap.size w w1) := HB.out.trans (hB.mono (by simp))
  clear CG HB hB
  obtain ⟨xs0, ho, hn, hx⟩ := hG
  by_cases hL0 : L = []
  · obtain rfl := hn hL0
    have hnil := fun wx => Lib.run_eql_slice_nil (P := Try.prog) wx 44 47 none 0 0 0 0 Try.underlying44
    have hl0 : Hid (L.length = 0) := by show L.length = 0; rw [hL0]; rfl
    have HL0 : Hid (L = []) := hL0
    clear hL0 ho hx hn
    go_wp2_with fail
    go_ret2
    exact ⟨none, 0, none, 0, by rw [hl0.out]; rfl, .inl HL0.out, HB1.out⟩
  · have hpos : 0 < L.length := List.length_pos_iff.2 hL0
    obtain ⟨g, cap, rfl, hbg, hgl⟩ := ho.form hpos
    have hnil := fun wx => Lib.run_eql_slice_nil (P := Try.prog) wx 44 47 (some ⟨g, 0, none⟩) L.length cap 0 0 Try.underlying44
    have HX : Hid (∀ (k : Nat) (e : Ent), L[k]? = some e → w1.cell? ⟨g, k * 2, none⟩ = some (.string e.1) ∧ ∃ fb, w1.cell? ⟨g, k * 2 + 1, none⟩ = some (.slice (some ⟨fb, 0, none⟩) e.2.length e.2.length) ∧ FB w1 fb e.2) := by
      intro k e he
      have hkl : k < L.length := (List.getElem?_eq_some_iff.1 he).1
      obtain ⟨t1, fb, t2, t3⟩ := hx k e he
      exact ⟨(ho.cellAt (k * 2) (by omega)).trans t1, fb, (ho.cellAt (k * 2 + 1) (by omega)).trans t2, t3⟩
    clear hx ho hn hL0 hbg
    go_wp2_with (first | (at_make; refine wpList_make_full _ rfl _ _ 28 rfl w1.heap.size 9 i9 (.string ByteArray.empty) 1 Try.underlying28 a9 b9 c9 .i64 .i64 _ _ L.length rfl rfl rfl rfl (by rw [d9]; omega) (by unfold maxLen; omega) (by omega) ?_; intro w2 hown1 hgrow1) | (at_make; refine wpList_make_full _ rfl _ _ 29 rfl w1.heap.size 28 i8 (.slice none 0 0) 1 Try.underlying29 a8 b8 c8 .i64 .i64 _ _ L.length rfl rfl rfl rfl (by rw [d8]; omega) (by unfold maxLen; omega) (by have := hgrow1.size; omega) ?_; intro w3 hown2 hgrow2))
    have hn12 := (hown1.lt w1.heap.size rfl).2
    have HHalf : Hid (Half w1 w3 w1.heap.size w1.heap.size w2.heap.size L 0 _ _) := ⟨hown1.kept hgrow2 (.inr (by simp [Value.ownBlock])), hown2, fun j e hj => absurd hj (by omega)⟩
    have HB3 : Hid (Below w1.heap.size w1 w3) := ((Below.refl _ _).grown hgrow1 (Nat.le_refl _) (fun k hk => by cases hk)).grown hgrow2 (by omega) (fun k hk => by cases hk)
    clear hown1 hgrow1 hown2 hgrow2
    go_loopw [14] (fun i wr => ∃ k : Nat, k ≤ L.length ∧ i = .int .i64 k ∧ (∃ xs ys, Hid (Half w1 wr w1.heap.size w1.heap.size w2.heap.size L k xs ys)) ∧ Hid (Below w1.heap.size w1 wr)) (fun i _ => L.length - (intOf i).toNat)
    case atStart => exact ⟨0, Nat.zero_le _, rfl, ⟨_, _, HHalf⟩, HB3⟩
    case round =>
      obtain ⟨k, hk, rfl, ⟨xs, ys, hH⟩, hB⟩ := hrel
      by_cases hlt : k < L.length
      · have hlt' : (k : Int) < (L.length : Int) := by omega
        obtain ⟨e, he⟩ : ∃ e, L[k]? = some e := ⟨_, List.getElem?_eq_getElem hlt⟩
        have HE : Hid (L[k]? = some e) := he
        obtain ⟨t1, fb, t2, t3⟩ := HX.out k e he
        have m1 := (hB.out.cell (p := ⟨g, k * 2, none⟩) hgl).trans t1
        have m2 := (hB.out.cell (p := ⟨g, k * 2 + 1, none⟩) hgl).trans t2
        have HF : Hid (FB w1 fb e.2) := t3
        have fz1 := hH.out.1.frozenAt
        have fz2 := hH.out.2.1.frozenAt
        have r1 := hH.out.1.cellAt k (by omega)
        have r2 := hH.out.2.1.cellAt k (by omega)
        have lx := hH.out.1.1
        have ly := hH.out.2.1.1
        rw [List.getElem?_eq_getElem (by omega)] at r1 r2
        clear he t1 t2 t3
        go_wp2_with fail
        obtain ⟨xs', ys', hH'⟩ := hH.out.step (by omega) HE.out HF.out
        go_roundw
        case rel => exact ⟨k + 1, by omega, by go_num, ⟨xs', ys', hH'⟩, (hB.out.setCell (p := ⟨w1.heap.size, k, none⟩) (Nat.le_refl _) _).setCell (p := ⟨w2.heap.size, k, none⟩) (by exact Nat.le_of_lt hn12) _⟩
        case measure => simp [intOf]; omega
      · have hlt' : ¬ (k : Int) < (L.length : Int) := by omega
        have hkL : k = L.length := by omega
        rw [hkL] at hH
        clear hkL
        go_wp2_with fail
        go_ret2
        exact ⟨_, _, _, _, rfl, hH.out.res hB.out (Nat.le_refl _), HB1.out.trans (hB.out.mono HB1.out.size)⟩

end Go.Proofs.Qxb6604120a.act
