import Derived.Test.Qxb6604120aProg
import Derived.WalkKit
import Derived.WalkSpells
import Derived.WalkSmall
import Derived.BigQuiet
import Derived.Deep.QuietTactic
import Derived.Deep.AppendLies
import Derived.Deep.RegionHeld3
import Derived.Deep.DeepCutAuto
namespace Go.Proofs.Qxb6604120a.act
open Go.RowKit

theorem info47 : (Try.prog.info? 47).map (fun i => (i.zero, i.size, i.bytes)) = some (some (.agg #[.string ByteArray.empty, .slice none 0 0]), 2, 40) := by kernel_rfl

/-- An entry: an action's name and its figures. -/
abbrev Ent := ByteArray × List ByteArray

def e1 (o : Option ByteArray) : List Ent := match o with | none => [] | some s => [(⟨#[98, 111, 110, 117, 115]⟩, [s])]
def e2 (o : Option ByteArray) : List Ent := match o with | none => [] | some s => [(⟨#[114, 101, 118, 101, 114, 115, 101]⟩, [s])]
def e3 (o : Option (ByteArray × ByteArray × ByteArray)) : List Ent := match o with | none => [] | some s => [(⟨#[114, 105, 103, 104, 116, 115]⟩, [s.1, s.2.1, s.2.2])]
def e4 (o : Option ByteArray) : List Ent := match o with | none => [] | some s => [(⟨#[100, 105, 118, 105, 100, 101, 110, 100]⟩, [s])]
/-- What an action gives, in the order of its fields. -/
def ents (o1 o2 : Option ByteArray) (o3 : Option (ByteArray × ByteArray × ByteArray)) (o4 : Option ByteArray) : List Ent := ((e1 o1 ++ e2 o2) ++ e3 o3) ++ e4 o4

/-- A pointer to a string, nil or not, and what it leads to. -/
def PS (w : World) (p : Option Addr) (o : Option ByteArray) : Prop :=
  (p = none ∧ o = none) ∨ ∃ b off s, p = some ⟨b, off, none⟩ ∧ o = some s ∧ b < w.heap.size ∧ w.cell? ⟨b, off, none⟩ = some (.string s)
def PR (w : World) (p : Option Addr) (o : Option (ByteArray × ByteArray × ByteArray)) : Prop :=
  (p = none ∧ o = none) ∨ ∃ b s, p = some ⟨b, 0, none⟩ ∧ o = some s ∧ b < w.heap.size ∧ w.cell? ⟨b, 0, none⟩ = some (.string s.1) ∧ w.cell? ⟨b, 1, none⟩ = some (.string s.2.1) ∧ w.cell? ⟨b, 2, none⟩ = some (.string s.2.2)

theorem PS.below {w w' : World} {T : Nat} {p : Option Addr} {o : Option ByteArray} (h : PS w p o) (hB : Below T w w') (hT : w.heap.size ≤ T) : PS w' p o := by
  rcases h with h | ⟨b, off, s, hp, ho, hb, hc⟩
  · exact .inl h
  · exact .inr ⟨b, off, s, hp, ho, Nat.lt_of_lt_of_le hb hB.size, (hB.cell (p := ⟨b, off, none⟩) (Nat.lt_of_lt_of_le hb hT)).trans hc⟩
theorem PR.below {w w' : World} {T : Nat} {p : Option Addr} {o : Option (ByteArray × ByteArray × ByteArray)} (h : PR w p o) (hB : Below T w w') (hT : w.heap.size ≤ T) : PR w' p o := by
  rcases h with h | ⟨b, s, hp, ho, hb, h0, h1, h2⟩
  · exact .inl h
  · have hbT := Nat.lt_of_lt_of_le hb hT
    exact .inr ⟨b, s, hp, ho, Nat.lt_of_lt_of_le hb hB.size, (hB.cell (p := ⟨b, 0, none⟩) hbT).trans h0, (hB.cell (p := ⟨b, 1, none⟩) hbT).trans h1, (hB.cell (p := ⟨b, 2, none⟩) hbT).trans h2⟩

/-- Block fb holds the strings l from its head on. -/
def FB (w : World) (fb : Nat) (l : List ByteArray) : Prop := ∃ cs, w.heap[fb]? = some (.cells cs 9 (0, 0)) ∧ ∀ (j : Nat) (s : ByteArray), l[j]? = some s → cs[j]? = some (.string s)

theorem FB.lt {w : World} {fb : Nat} {l : List ByteArray} (h : FB w fb l) : fb < w.heap.size := by
  obtain ⟨cs, hb, _⟩ := h
  rcases Nat.lt_or_ge fb w.heap.size with hlt | hge
  · exact hlt
  · rw [Array.getElem?_eq_none hge] at hb; cases hb
theorem FB.cell {w : World} {fb : Nat} {l : List ByteArray} (h : FB w fb l) {j : Nat} {s : ByteArray} (hj : l[j]? = some s) : w.cell? ⟨fb, j, none⟩ = some (.string s) := by
  obtain ⟨cs, hb, hc⟩ := h
  rw [cell_of_row w fb j cs 9 (0, 0) hb]
  exact hc j s hj
theorem FB.alloc {w : World} {fb : Nat} {l : List ByteArray} (h : FB w fb l) (o : Obj) : FB (w.alloc o) fb l := by
  obtain ⟨cs, hb, hc⟩ := id h
  exact ⟨cs, (Below.heap_alloc w o fb h.lt).trans hb, hc⟩
theorem FB.drew {w : World} {fb : Nat} {l : List ByteArray} (h : FB w fb l) : FB w.drew fb l := h
theorem FB.below {w w' : World} {T fb : Nat} {l : List ByteArray} (h : FB w fb l) (hB : Below T w w') (hT : w.heap.size ≤ T) : FB w' fb l := by
  obtain ⟨cs, hb, hc⟩ := id h
  exact ⟨cs, (hB.block fb (Nat.lt_of_lt_of_le h.lt hT)).trans hb, hc⟩
/-- A block of strings is none that holds actions. -/
theorem FB.kept {w w' : World} {base fb n : Nat} {l : List ByteArray} {v : Value} {xs : List Value} (h : FB w fb l) (hv : w.ownsRow base 47 2 v n xs) (hg : w.grownBy w' v.ownBlock) : FB w' fb l := by
  obtain ⟨cs, hb, hc⟩ := id h
  refine ⟨cs, (hg.block fb h.lt ?_).trans hb, hc⟩
  intro e
  rcases hv.2 with ⟨rfl, _⟩ | ⟨g, cap, cur, rfl, _, hg', _⟩
  · simp [Value.ownBlock] at e
  · simp [Value.ownBlock] at e
    subst e
    rw [hb] at hg'
    simp at hg'

/-- THE ACTIONS GIVEN SO FAR: v owns a row of them. -/
def GInv (w : World) (base : Nat) (v : Value) (L : List Ent) : Prop :=
  ∃ xs, w.ownsRow base 47 2 v L.length xs ∧ (L = [] → v = .slice none 0 0) ∧ ∀ (k : Nat) (e : Ent), L[k]? = some e → xs[k * 2]? = some (.string e.1) ∧ ∃ fb, xs[k * 2 + 1]? = some (.slice (some ⟨fb, 0, none⟩) e.2.length e.2.length) ∧ FB w fb e.2

theorem GInv_nil (w : World) (base : Nat) : GInv w base (.slice none 0 0) [] := ⟨[], World.ownsRow_nil _ _ _ _, fun _ => rfl, fun k e h => by simp at h⟩

theorem GInv_push {w0 w1 : World} {base fb : Nat} {v v' : Value} {L : List Ent} {xs : List Value} {name : ByteArray} {figs : List ByteArray} (ho : w0.ownsRow base 47 2 v L.length xs)
    (hx : ∀ (k : Nat) (e : Ent), L[k]? = some e → xs[k * 2]? = some (.string e.1) ∧ ∃ fb, xs[k * 2 + 1]? = some (.slice (some ⟨fb, 0, none⟩) e.2.length e.2.length) ∧ FB w0 fb e.2) (hF : FB w0 fb figs)
    (hown : w1.ownsRow base 47 2 v' (L.length + 1) (xs ++ [.string name, .slice (some ⟨fb, 0, none⟩) figs.length figs.length])) (hgrow : w0.grownBy w1 v.ownBlock) : GInv w1 base v' (L ++ [(name, figs)]) := by
  have hl := ho.1
  refine ⟨_, by simpa using hown, fun h => by simp at h, fun k e he => ?_⟩
  by_cases hk : k < L.length
  · rw [List.getElem?_append_left hk] at he
    obtain ⟨h1, fb', h2, h3⟩ := hx k e he
    rw [List.getElem?_append_left (by omega), List.getElem?_append_left (by omega)]
    exact ⟨h1, fb', h2, h3.kept ho hgrow⟩
  · rw [List.getElem?_append_right (by omega)] at he
    have hk0 : k = L.length := by
      rcases Nat.lt_or_ge (k - L.length) 1 with h | h
      · omega
      · rw [List.getElem?_eq_none (by simpa using h)] at he; cases he
    subst hk0
    simp at he
    subst he
    rw [List.getElem?_append_right (by omega), List.getElem?_append_right (by omega), hl]
    exact ⟨by simp, fb, by simp, hF.kept ho hgrow⟩

theorem cells2 {x y : Value} (hx : x.oneCell' = true) (hy : y.oneCell' = true) : ∀ u ∈ [x, y], u.oneCell' = true := by
  intro u hu
  simp at hu
  rcases hu with rfl | rfl <;> assumption

theorem e1_le (o : Option ByteArray) : (e1 o).length ≤ 1 := by cases o <;> simp [e1]
theorem e2_le (o : Option ByteArray) : (e2 o).length ≤ 1 := by cases o <;> simp [e2]
theorem e3_le (o : Option (ByteArray × ByteArray × ByteArray)) : (e3 o).length ≤ 1 := by cases o <;> simp [e3]
theorem e4_le (o : Option ByteArray) : (e4 o).length ≤ 1 := by cases o <;> simp [e4]

theorem new2 (W : World) (A B : Obj) : ((W.alloc A).alloc B).heap[W.heap.size + 1]? = some B := by
  have := heap_alloc_new (W.alloc A) B
  simpa using this
theorem new1 (W : World) (A B : Obj) : ((W.alloc A).alloc B).heap[W.heap.size]? = some A := (Below.heap_alloc _ _ _ (by simp)).trans (heap_alloc_new W A)

theorem GInv.alloc {w : World} {base : Nat} {v : Value} {L : List Ent} (h : GInv w base v L) (o : Obj) : GInv (w.alloc o) base v L := by
  obtain ⟨xs, ho, hn, hx⟩ := h
  refine ⟨xs, ho.alloc o, hn, fun k e he => ?_⟩
  obtain ⟨h1, fb, h2, h3⟩ := hx k e he
  exact ⟨h1, fb, h2, h3.alloc o⟩
theorem GInv.drew {w : World} {base : Nat} {v : Value} {L : List Ent} (h : GInv w base v L) : GInv w.drew base v L := by
  obtain ⟨xs, ho, hn, hx⟩ := h
  exact ⟨xs, ho.drew, hn, hx⟩
/-- What the append law wants to know of the actions so far, and what it leaves of them. -/
theorem GInv.step {w0 : World} {base : Nat} {v : Value} {L : List Ent} (h : GInv w0 base v L) {fb : Nat} {figs : List ByteArray} (hF : FB w0 fb figs) (name : ByteArray) :
    ∃ xs, w0.ownsRow base 47 2 v L.length xs ∧ ∀ (w1 : World) (v' : Value), w1.ownsRow base 47 2 v' (L.length + 1) (xs ++ [.string name, .slice (some ⟨fb, 0, none⟩) figs.length figs.length]) → w0.grownBy w1 v.ownBlock → GInv w1 base v' (L ++ [(name, figs)]) := by
  obtain ⟨xs, ho, hn, hx⟩ := h
  exact ⟨xs, ho, fun w1 v' hown hgrow => GInv_push ho hx hF hown hgrow⟩
theorem GInv.own {w : World} {base : Nat} {v : Value} {L : List Ent} (h : GInv w base v L) : ∀ k, v.ownBlock = some k → base ≤ k := by
  obtain ⟨xs, ho, _⟩ := h
  exact fun k hk => (ho.lt k hk).1

theorem FB1 (W : World) (s : ByteArray) (B : Obj) : FB ((W.alloc (.cells #[.string s] 9)).alloc B) W.heap.size [s] :=
  ⟨_, new1 W _ B, fun j t h => by match j, h with | 0, h => simp at h; subst h; rfl⟩
theorem FB3 (W : World) (s t u : ByteArray) (B : Obj) : FB ((W.alloc (.cells #[.string s, .string t, .string u] 9)).alloc B) W.heap.size [s, t, u] :=
  ⟨_, new1 W _ B, fun j x h => by match j, h with | 0, h => simp at h; subst h; rfl | 1, h => simp at h; subst h; rfl | 2, h => simp at h; subst h; rfl⟩

set_option maxRecDepth 100000 in
set_option maxHeartbeats 4000000 in
theorem given_any {w : World} {b : Nat} {p1 p2 p3 p4 : Option Addr} {o1 o2 o4 : Option ByteArray} {o3 : Option (ByteArray × ByteArray × ByteArray)} (hb : b < w.heap.size)
    (c0 : w.cell? ⟨b, 0, none⟩ = some (.pointer p1)) (c1 : w.cell? ⟨b, 1, none⟩ = some (.pointer p2)) (c2 : w.cell? ⟨b, 2, none⟩ = some (.pointer p3)) (c3 : w.cell? ⟨b, 3, none⟩ = some (.pointer p4))
    (h1 : Hid (PS w p1 o1)) (h2 : Hid (PS w p2 o2)) (h3 : Hid (PR w p3 o3)) (h4 : Hid (PS w p4 o4)) :
    Calls Try.prog 15 #[.pointer (some ⟨b, 0, none⟩)] w fun e w' => ∃ v, e = .returned v ∧ GInv w' w.heap.size v (ents o1 o2 o3 o4) ∧ Below w.heap.size w w' := by
  obtain ⟨i0, hi, hz0, hz1, hz2⟩ := info_parts info47
  have l1 := e1_le o1
  have l2 := e2_le o2
  have l3 := e3_le o3
  have l4 := e4_le o4
  go_enter Try.func15, Try.ntmps15
  go_upto_if 8 with fail
  go_cut [3] (fun v wc => Hid (GInv wc w.heap.size v (e1 o1)) ∧ Hid (Below w.heap.size w wc))
  case first =>
    rcases h1.out with ⟨rfl, rfl⟩ | ⟨bb, off, s, rfl, rfl, hbb, hc⟩
    · go_wp2_with fail
      go_meet
      case rel => exact ⟨GInv_nil _ _, Below.refl _ _⟩
    ·
      obtain ⟨xs, ho, hstep⟩ := GInv.step (((GInv_nil w w.heap.size).alloc (.cells #[.string s] 9)).alloc (.cells #[.string ⟨#[98, 111, 110, 117, 115]⟩, .slice (some ⟨w.heap.size, 0, none⟩) 1 1] 47)) (FB1 w s (.cells #[.string ⟨#[98, 111, 110, 117, 115]⟩, .slice (some ⟨w.heap.size, 0, none⟩) 1 1] 47)) ⟨#[98, 111, 110, 117, 115]⟩
      have HST : Hid _ := hstep
      have hown0 := ((GInv_nil w w.heap.size)).own
      have HO : Hid _ := hown0
      clear hstep hown0
      go_wp2_with (at_builtin; refine wpList_append_lies _ rfl _ _ 44 rfl w.heap.size 47 i0 (.agg #[.string ByteArray.empty, .slice none 0 0]) 2 40 Try.underlying44 hi hz0 hz1 hz2 rfl (by omega) (.slice none 0 0) 0 xs rfl ho ⟨w.heap.size + 1, 0, none⟩ 1 1 [.string ⟨#[98, 111, 110, 117, 115]⟩, .slice (some ⟨w.heap.size, 0, none⟩) 1 1] rfl rfl (World.news_of_block (new2 w _ _)) (cells2 rfl rfl) (by omega) (by unfold maxLen; omega) (by omega) (by simp <;> omega) (w.heap.size + 2) (by simp) ?_; intro g cap w1 hown hgrow hat hlt1)
      go_meet
      case rel => exact ⟨HST.out w1 _ hown hgrow, (((Below.refl w.heap.size w).alloc (by omega) _).alloc (by simp <;> omega) _).grown hgrow (by simp <;> omega) (fun k hk => HO.out k hk)⟩
  case rest =>
    obtain ⟨hG1, hB1⟩ := hcut
    obtain ⟨v1, rfl⟩ : ∃ v1, v1 = u3 := ⟨_, rfl⟩
    obtain ⟨wa, rfl⟩ : ∃ wa, wa = wc := ⟨_, rfl⟩
    have s1 := hB1.out.size
    have d1 : wa.cell? ⟨b, 1, none⟩ = some (.pointer p2) := (hB1.out.cell (p := ⟨b, 1, none⟩) hb).trans c1
    go_upto_if 24 with fail
    go_cut [3] (fun v wc => Hid (GInv wc w.heap.size v (e1 o1 ++ e2 o2)) ∧ Hid (Below w.heap.size w wc))
    case first =>
      rcases h2.out with ⟨rfl, rfl⟩ | ⟨bb, off, s, rfl, rfl, hbb, hc⟩
      · go_wp2_with fail
        go_meet
        case rel => exact ⟨by show GInv _ _ _ _; simpa [e2] using hG1.out, hB1⟩
      · have hc1 : wa.cell? ⟨bb, off, none⟩ = some (.string s) := (hB1.out.cell (p := ⟨bb, off, none⟩) hbb).trans hc
        clear hc
        obtain ⟨xs, ho, hstep⟩ := GInv.step ((hG1.out.alloc (.cells #[.string s] 9)).alloc (.cells #[.string ⟨#[114, 101, 118, 101, 114, 115, 101]⟩, .slice (some ⟨wa.heap.size, 0, none⟩) 1 1] 47)) (FB1 wa s (.cells #[.string ⟨#[114, 101, 118, 101, 114, 115, 101]⟩, .slice (some ⟨wa.heap.size, 0, none⟩) 1 1] 47)) ⟨#[114, 101, 118, 101, 114, 115, 101]⟩
        have HST : Hid _ := hstep
        have hown0 := (hG1.out).own
        have HO : Hid _ := hown0
        clear hstep hown0
        go_wp2_with (at_builtin; refine wpList_append_lies _ rfl _ _ 44 rfl w.heap.size 47 i0 (.agg #[.string ByteArray.empty, .slice none 0 0]) 2 40 Try.underlying44 hi hz0 hz1 hz2 rfl (by omega) v1 (e1 o1).length xs rfl ho ⟨wa.heap.size + 1, 0, none⟩ 1 1 [.string ⟨#[114, 101, 118, 101, 114, 115, 101]⟩, .slice (some ⟨wa.heap.size, 0, none⟩) 1 1] rfl rfl (World.news_of_block (new2 wa _ _)) (cells2 rfl rfl) (by omega) (by unfold maxLen; omega) (by omega) (by simp <;> omega) (wa.heap.size + 2) (by simp) ?_; intro g cap w1 hown hgrow hat hlt1)
        go_meet
        case rel => exact ⟨HST.out w1 _ hown hgrow, ((hB1.out.alloc (by omega) _).alloc (by simp <;> omega) _).grown hgrow (by simp <;> omega) (fun k hk => HO.out k hk)⟩
    case rest =>
      obtain ⟨hG2, hB2⟩ := hcut
      obtain ⟨v2, rfl⟩ : ∃ v2, v2 = u3 := ⟨_, rfl⟩
      obtain ⟨wb, rfl⟩ : ∃ wb, wb = wc := ⟨_, rfl⟩
      have s2 := hB2.out.size
      obtain ⟨L2, hL2⟩ : ∃ L2, e1 o1 ++ e2 o2 = L2 := ⟨_, rfl⟩
      have hn2 : L2.length ≤ 2 := by rw [← hL2]; simp; omega
      rw [hL2] at hG2
      have HL2 : Hid (e1 o1 ++ e2 o2 = L2) := hL2
      clear hL2
      have d2 : wb.cell? ⟨b, 2, none⟩ = some (.pointer p3) := (hB2.out.cell (p := ⟨b, 2, none⟩) hb).trans c2
      clear d1 hG1 hB1 s1
      go_upto_if 40 with fail
      go_cut [3] (fun v wc => Hid (GInv wc w.heap.size v (e1 o1 ++ e2 o2 ++ e3 o3)) ∧ Hid (Below w.heap.size w wc))
      case first =>
        rcases h3.out with ⟨rfl, rfl⟩ | ⟨bb, s, rfl, rfl, hbb, g0, g1, g2⟩
        · go_wp2_with fail
          go_meet
          case rel => exact ⟨by show GInv _ _ _ _; rw [HL2.out]; simpa [e3] using hG2.out, hB2⟩
        · have k0 : wb.cell? ⟨bb, 0, none⟩ = some (.string s.1) := (hB2.out.cell (p := ⟨bb, 0, none⟩) hbb).trans g0
          have k1 : wb.cell? ⟨bb, 1, none⟩ = some (.string s.2.1) := (hB2.out.cell (p := ⟨bb, 1, none⟩) hbb).trans g1
          have k2 : wb.cell? ⟨bb, 2, none⟩ = some (.string s.2.2) := (hB2.out.cell (p := ⟨bb, 2, none⟩) hbb).trans g2
          clear g0 g1 g2
          obtain ⟨xs, ho, hstep⟩ := GInv.step (((hG2.out.alloc (.cells #[.string s.1, .string s.2.1, .string s.2.2] 9)).alloc (.cells #[.string ⟨#[114, 105, 103, 104, 116, 115]⟩, .slice (some ⟨wb.heap.size, 0, none⟩) 3 3] 47)).drew) (FB3 wb s.1 s.2.1 s.2.2 (.cells #[.string ⟨#[114, 105, 103, 104, 116, 115]⟩, .slice (some ⟨wb.heap.size, 0, none⟩) 3 3] 47)).drew ⟨#[114, 105, 103, 104, 116, 115]⟩
          have HST : Hid _ := hstep
          have hown0 := hG2.out.own
          have HO : Hid _ := hown0
          clear hstep hown0
          go_wp2_with fail
          go_region_held3 (fun w' => w'.cell? ⟨b, 2, none⟩ = some (.pointer (some ⟨bb, 0, none⟩)) ∧ w'.cell? ⟨bb, 0, none⟩ = some (.string s.1) ∧ w'.cell? ⟨bb, 1, none⟩ = some (.string s.2.1) ∧ w'.cell? ⟨bb, 2, none⟩ = some (.string s.2.2))
            (first
              | go_keep
              | (go_split_ands
                 refine ⟨?_, ?_, ?_, ?_⟩
                 · (rw [hgrow.cell_far _ (by simp; omega) (fun e => by have := HO.out b e.symm; omega)]; assumption)
                 · (rw [hgrow.cell_far _ (by simp; omega) (fun e => by have := HO.out bb e.symm; omega)]; assumption)
                 · (rw [hgrow.cell_far _ (by simp; omega) (fun e => by have := HO.out bb e.symm; omega)]; assumption)
                 · (rw [hgrow.cell_far _ (by simp; omega) (fun e => by have := HO.out bb e.symm; omega)]; assumption)))
            ((refine step_append_lies _ (by rfl) _ _ 44 (by rfl) w.heap.size 47 i0 (.agg #[.string ByteArray.empty, .slice none 0 0]) 2 40 Try.underlying44 hi hz0 hz1 hz2 rfl (by omega) v2 L2.length xs (by rfl) ho ⟨wb.heap.size + 1, 0, none⟩ 1 1 [.string ⟨#[114, 105, 103, 104, 116, 115]⟩, .slice (some ⟨wb.heap.size, 0, none⟩) 3 3] (by rfl) (by rfl) (World.news_of_block (cs := #[.string ⟨#[114, 105, 103, 104, 116, 115]⟩, .slice (some ⟨wb.heap.size, 0, none⟩) 3 3]) (t := 47) (fr := (0, 0)) (new2 wb _ _)) (cells2 rfl rfl) (by omega) (by unfold maxLen; omega) (by omega) (by simp; omega) (wb.heap.size + 2) (by simp) ?_; intro g cap w1 hown hgrow hat hlt1))
          all_goals (go_wp2; go_meet)
          case rel => exact ⟨by show GInv _ _ _ _; rw [HL2.out]; exact HST.out w1 _ hown hgrow, (((hB2.out.alloc (by omega) _).alloc (by simp <;> omega) _).drew).grown hgrow (by simp <;> omega) (fun k hk => HO.out k hk)⟩
      case rest =>
        obtain ⟨hG3, hB3⟩ := hcut
        obtain ⟨v3, rfl⟩ : ∃ v3, v3 = u3 := ⟨_, rfl⟩
        obtain ⟨wd, rfl⟩ : ∃ wd, wd = wc := ⟨_, rfl⟩
        have s3 := hB3.out.size
        obtain ⟨L3, hL3⟩ : ∃ L3, e1 o1 ++ e2 o2 ++ e3 o3 = L3 := ⟨_, rfl⟩
        have hn3 : L3.length ≤ 3 := by rw [← hL3]; simp; omega
        rw [hL3] at hG3
        have HL3 : Hid (e1 o1 ++ e2 o2 ++ e3 o3 = L3) := hL3
        clear hL3
        have d3 : wd.cell? ⟨b, 3, none⟩ = some (.pointer p4) := (hB3.out.cell (p := ⟨b, 3, none⟩) hb).trans c3
        clear d2 hG2 hB2 s2
        go_upto_if 71 with fail
        go_cut [3] (fun v wc => Hid (GInv wc w.heap.size v (ents o1 o2 o3 o4)) ∧ Hid (Below w.heap.size w wc))
        case first =>
          rcases h4.out with ⟨rfl, rfl⟩ | ⟨bb, off, s, rfl, rfl, hbb, hc⟩
          · go_wp2_with fail
            go_meet
            case rel => exact ⟨by show GInv _ _ _ _; unfold ents; rw [HL3.out]; simpa [e4] using hG3.out, hB3⟩
          · have hc1 : wd.cell? ⟨bb, off, none⟩ = some (.string s) := (hB3.out.cell (p := ⟨bb, off, none⟩) hbb).trans hc
            clear hc
            obtain ⟨xs, ho, hstep⟩ := GInv.step ((hG3.out.alloc (.cells #[.string s] 9)).alloc (.cells #[.string ⟨#[100, 105, 118, 105, 100, 101, 110, 100]⟩, .slice (some ⟨wd.heap.size, 0, none⟩) 1 1] 47)) (FB1 wd s (.cells #[.string ⟨#[100, 105, 118, 105, 100, 101, 110, 100]⟩, .slice (some ⟨wd.heap.size, 0, none⟩) 1 1] 47)) ⟨#[100, 105, 118, 105, 100, 101, 110, 100]⟩
            have HST : Hid _ := hstep
            have hown0 := (hG3.out).own
            have HO : Hid _ := hown0
            clear hstep hown0
            go_wp2_with (at_builtin; refine wpList_append_lies _ rfl _ _ 44 rfl w.heap.size 47 i0 (.agg #[.string ByteArray.empty, .slice none 0 0]) 2 40 Try.underlying44 hi hz0 hz1 hz2 rfl (by omega) v3 L3.length xs rfl ho ⟨wd.heap.size + 1, 0, none⟩ 1 1 [.string ⟨#[100, 105, 118, 105, 100, 101, 110, 100]⟩, .slice (some ⟨wd.heap.size, 0, none⟩) 1 1] rfl rfl (World.news_of_block (new2 wd _ _)) (cells2 rfl rfl) (by omega) (by unfold maxLen; omega) (by omega) (by simp <;> omega) (wd.heap.size + 2) (by simp) ?_; intro g cap w1 hown hgrow hat hlt1)
            go_meet
            case rel => exact ⟨by show GInv _ _ _ _; unfold ents; rw [HL3.out]; exact HST.out w1 _ hown hgrow, ((hB3.out.alloc (by omega) _).alloc (by simp <;> omega) _).grown hgrow (by simp <;> omega) (fun k hk => HO.out k hk)⟩
        case rest =>
          obtain ⟨hG4, hB4⟩ := hcut
          go_wp2_with fail
          go_ret
          exact ⟨_, rfl, hG4.out, hB4.out⟩

end Go.Proofs.Qxb6604120a.act
