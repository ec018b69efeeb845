import Derived.Test.Qxb6604067aCopy
import Derived.ProofKit
import Derived.Deep.Slices
import Derived.Deep.Strs
namespace Go.Proofs.Qxb6604067a.psg
open Go.RowKit Go.Deep

theorem cells31 : Try.prog.cellsOf 31 = 3 := by kernel_rfl
theorem cells34 : Try.prog.cellsOf 34 = 2 := by kernel_rfl
theorem cells4 : Try.prog.cellsOf 4 = 1 := by kernel_rfl
theorem cells3' : Try.prog.cellsOf 3 = 1 := by kernel_rfl
theorem cells2' : Try.prog.cellsOf 2 = 1 := by kernel_rfl

theorem add_pos {x : Addr} (h : x.spot = none) (k : Nat) : x.add k = ⟨x.block, x.off + k, none⟩ := by
  obtain ⟨b, o, s⟩ := x
  simp only at h
  subst h
  unfold Addr.add
  split <;> simp_all

section
variable {H : Type} {enc : TypeId × Value → H} {W : World} {held : Bool}

theorem open_G {a : Option Addr} {len cap fuel : Nat} {x : DataW H × List MemPlace} (h : DataW.trod enc Try.prog W 0 (fun _ => true) held fuel 22 [.slice a len cap] = some x) :
    (a = none → len = 0 ∧ cap = 0) ∧ len ≤ maxLen ∧ ∃ A B C, InG W a len A B C := by
  rcases open_slice Try.underlying22 h with ⟨hcs, _⟩ | ⟨ad, l, c, m, n, D, Pl, hcs, _, hl, hm, hmm, _, hx⟩
  · simp at hcs
    obtain ⟨rfl, rfl, rfl⟩ := hcs
    exact ⟨fun _ => ⟨rfl, rfl⟩, Nat.zero_le _, fun _ => false, fun _ => false, fun _ => false, .inl rfl⟩
  simp at hcs
  obtain ⟨rfl, rfl, rfl⟩ := hcs
  refine ⟨fun hh => (by cases hh), by omega, ?_⟩
  have hlm : len ≤ m := by rw [hmm]; simpa using hl
  have each : ∀ i, i < len → ∃ q : Bool × Bool × Bool, W.cell? (ad.add (i * 3)) = some (.bool q.1) ∧ W.cell? (ad.add (i * 3 + 1)) = some (.bool q.2.1) ∧ W.cell? (ad.add (i * 3 + 2)) = some (.bool q.2.2) := by
    intro i hi
    obtain ⟨cs', h1, h2⟩ := hx i (by omega)
    rw [cells31] at h1
    obtain ⟨_, hlen, hcell⟩ := World.cells?_some h1
    obtain ⟨y0, y1, y2, k, _, _, g0, g1, g2⟩ := trod_struct3 Try.underlying31 h2
    match cs', hlen with
    | [v0, v1, v2], _ =>
      simp [cells4] at g0 g1 g2
      obtain ⟨p0, r0, _⟩ := DataW.trod_bool Try.underlying4 g0
      obtain ⟨p1, r1, _⟩ := DataW.trod_bool Try.underlying4 g1
      obtain ⟨p2, r2, _⟩ := DataW.trod_bool Try.underlying4 g2
      simp at r0 r1 r2
      subst r0 r1 r2
      have e0 := hcell 0 (by omega)
      have e1 := hcell 1 (by omega)
      have e2 := hcell 2 (by omega)
      rw [add_add] at e0 e1 e2
      exact ⟨(p0, p1, p2), by simpa using e0, by simpa using e1, by simpa using e2⟩
  obtain ⟨q, hq⟩ := choose_lt each
  refine ⟨fun i => (q i).1, fun i => (q i).2.1, fun i => (q i).2.2, ?_⟩
  by_cases h0 : len = 0
  · exact .inl h0
  have c0 := (hq 0 (by omega)).1
  have hspot : ad.spot = none := by
    have := World.cell?_spot c0
    simpa [Addr.add] using this
  refine .inr ⟨ad.block, ad.off, by obtain ⟨b, o, s⟩ := ad; simp only at hspot; subst hspot; rfl, ?_, fun k hk => ?_⟩
  · rw [add_pos hspot] at c0
    have hlt := World.block_lt_of_cell? W _ c0
    exact hlt
  · have := hq k hk
    rw [add_pos hspot, add_pos hspot, add_pos hspot] at this
    simpa [Nat.add_assoc] using this

theorem open_R {a : Option Addr} {len cap fuel : Nat} {x : DataW H × List MemPlace} (h : DataW.trod enc Try.prog W 0 (fun _ => true) held fuel 23 [.slice a len cap] = some x) :
    (a = none → len = 0 ∧ cap = 0) ∧ len ≤ maxLen ∧ ∃ A B, InR W a len A B := by
  rcases open_slice Try.underlying23 h with ⟨hcs, _⟩ | ⟨ad, l, c, m, n, D, Pl, hcs, _, hl, hm, hmm, _, hx⟩
  · simp at hcs
    obtain ⟨rfl, rfl, rfl⟩ := hcs
    exact ⟨fun _ => ⟨rfl, rfl⟩, Nat.zero_le _, fun _ => 0, fun _ => 0, .inl rfl⟩
  simp at hcs
  obtain ⟨rfl, rfl, rfl⟩ := hcs
  refine ⟨fun hh => (by cases hh), by omega, ?_⟩
  have hlm : len ≤ m := by rw [hmm]; simpa using hl
  have each : ∀ i, i < len → ∃ q : Int × Int, W.cell? (ad.add (i * 2)) = some (.int .i64 q.1) ∧ W.cell? (ad.add (i * 2 + 1)) = some (.int .i64 q.2) := by
    intro i hi
    obtain ⟨cs', h1, h2⟩ := hx i (by omega)
    rw [cells34] at h1
    obtain ⟨_, hlen, hcell⟩ := World.cells?_some h1
    obtain ⟨y0, y1, k, _, _, g0, g1⟩ := ChangeShapes.trod_struct2 Try.underlying34 h2
    match cs', hlen with
    | [v0, v1], _ =>
      simp [cells3', cells2'] at g0 g1
      obtain ⟨p0, r0, _⟩ := DataW.trod_int Try.underlying3 g0
      obtain ⟨p1, r1, _⟩ := DataW.trod_int Try.underlying2 g1
      simp at r0 r1
      subst r0 r1
      have e0 := hcell 0 (by omega)
      have e1 := hcell 1 (by omega)
      rw [add_add] at e0 e1
      exact ⟨(p0, p1), by simpa using e0, by simpa using e1⟩
  obtain ⟨q, hq⟩ := choose_lt each
  refine ⟨fun i => (q i).1, fun i => (q i).2, ?_⟩
  by_cases h0 : len = 0
  · exact .inl h0
  have c0 := (hq 0 (by omega)).1
  have hspot : ad.spot = none := by
    have := World.cell?_spot c0
    simpa [Addr.add] using this
  refine .inr ⟨ad.block, ad.off, by obtain ⟨b, o, s⟩ := ad; simp only at hspot; subst hspot; rfl, ?_, fun k hk => ?_⟩
  · rw [add_pos hspot] at c0
    have hlt := World.block_lt_of_cell? W _ c0
    exact hlt
  · have := hq k hk
    rw [add_pos hspot, add_pos hspot] at this
    simpa [Nat.add_assoc] using this

end
end Go.Proofs.Qxb6604067a.psg
