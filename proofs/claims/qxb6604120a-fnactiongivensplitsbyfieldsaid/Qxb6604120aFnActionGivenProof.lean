import Derived.Test.Qxb6604120aRows
import Derived.Test.Qxb6604120aAct
import Derived.WalkKit
import Derived.ProofKit
import Derived.OpenShut
import Derived.ShutString
import Derived.ChangeOld
import Derived.Below
namespace Go.Proofs.Qxb6604120a.act
open Go.ChangeShapes Go.WideShapes Go.ChangeAt Go.RowKit
open Go.ChangeMaps (open_string shut_string)
set_option linter.unusedVariables false

theorem own : ownKnob Try.prog.godebug = none := by kernel_rfl
theorem laidOut : laidOutB Try.prog = true := by kernel_rfl
theorem cells9 : Try.prog.cellsOf 9 = 1 := by kernel_rfl

/-- A pointer to a string that came in, opened. -/
theorem open_PS {H : Type} {enc : TypeId × Value → H} {W : World} {held : Bool} {r : Reach} {b0 : Nat} {v : Value} {d : DataW H} {ps : List MemPlace}
    (hval : Value.okWide Try.prog W r b0 22 v) (hd : DataW.Trod enc Try.prog W 0 (fun _ => true) held 22 v d ps) : ∃ p o, v = .pointer p ∧ PS W p o ∧ Short o := by
  rcases open_ptr Try.underlying22 (by rw [cells9]; omega) hval hd with ⟨rfl, _, _⟩ | ⟨b, off, cs, y, fuel, rfl, _, _, hlen, hcell, hy⟩
  · exact ⟨none, none, rfl, .inl ⟨rfl, rfl⟩, fun s h => by cases h⟩
  · obtain ⟨s, rfl, _, hs⟩ := DataW.trod_string Try.underlying9 hy
    have hc : W.cell? ⟨b, off, none⟩ = some (.string s) := by simpa using hcell 0 (by rw [cells9]; omega)
    have hlt := World.block_lt_of_cell? W _ hc
    exact ⟨_, some s, rfl, .inr ⟨b, off, s, rfl, rfl, hlt, hc⟩, fun t h => by cases h; exact hs⟩

set_option maxRecDepth 100000 in
theorem lifted (os : Os) (started : os.Started) (H : Type) (enc : TypeId × Value → H) :
    ReturnsInHanded {} Try.checked os 3 .any (Rows.fnActionGivenSplitsByFieldSpec.pre6 enc Try.prog Try.f3 Rows.fnActionGivenSplitsByFieldRow.domain false) (Rows.fnActionGivenSplitsByFieldSpec.post enc Try.prog Try.f3 false true false false) := by
  refine returnsInHanded_of_change (C := Try.checked) own started (by kernel_rfl) Try.func3
    (ChangeSpec.witness6 (enc := enc) (C := Try.checked) false ⟨#[], #[.pointer none, .pointer none, .bool false, .string ByteArray.empty, .string ByteArray.empty, .string ByteArray.empty, .pointer none], []⟩ 8 (by kernel_rfl) (by kernel_rfl) (by kernel_rfl) (by kernel_rfl)) ?_
  intro W base args ds gs before hval0 hW hcnd _
  have hval : ∀ (j : Nat) t v, Try.f3.params[j]? = some t → args[j]? = some v → Value.okWide Try.prog W .any base t v := hval0
  have hW' := hW
  obtain ⟨p, q, hA0, hV, rfl, hfz, hnd⟩ := hW
  have hA : DataW.TrodAll enc Try.prog W 0 (fun _ => true) true Try.f3.params.toList args.toList ds p := hA0
  rw [Try.params3] at hA hval
  obtain ⟨v0, vs0, d0, ds0, p0, q0, hargs, rfl, rfl, h0, r0⟩ := trodAll_cons hA
  obtain ⟨v1, vs1, d1, ds1, p1, q1, rfl, rfl, rfl, h1, r1⟩ := trodAll_cons r0
  obtain ⟨v2, vs2, d2, ds2, p2, q2, rfl, rfl, rfl, h2, r2⟩ := trodAll_cons r1
  obtain ⟨v3, vs3, d3, ds3, p3, q3, rfl, rfl, rfl, h3, r3⟩ := trodAll_cons r2
  obtain ⟨v4, vs4, d4, ds4, p4, q4, rfl, rfl, rfl, h4, r4⟩ := trodAll_cons r3
  obtain ⟨v5, vs5, d5, ds5, p5, q5, rfl, rfl, rfl, h5, r5⟩ := trodAll_cons r4
  obtain ⟨v6, vs6, d6, ds6, p6, q6, rfl, rfl, rfl, h6, r6⟩ := trodAll_cons r5
  obtain ⟨rfl, rfl, rfl⟩ := trodAll_nil r6
  obtain rfl : args = #[v0, v1, v2, v3, v4, v5, v6] := by cases args; simp_all
  obtain ⟨rfl, rfl⟩ := trodVars_none hV
  have lt0 : ∀ x ∈ p0, x.block < W.heap.size := by obtain ⟨m, hm⟩ := h0; exact DataW.trod_lt m _ _ _ hm
  have lt1 : ∀ x ∈ p1, x.block < W.heap.size := by obtain ⟨m, hm⟩ := h1; exact DataW.trod_lt m _ _ _ hm
  have lt6 : ∀ x ∈ p6, x.block < W.heap.size := by obtain ⟨m, hm⟩ := h6; exact DataW.trod_lt m _ _ _ hm
  obtain ⟨t0, o0, rfl, w0, z0⟩ := open_PS (hval 0 22 v0 rfl rfl) h0
  obtain ⟨t1, o1, rfl, w1, z1⟩ := open_PS (hval 1 22 v1 rfl rfl) h1
  obtain ⟨a2, rfl, rfl, rfl⟩ := open_bool Try.underlying4 (hval 2 4 v2 rfl rfl) h2
  obtain ⟨a3, rfl, rfl, rfl, w3⟩ := open_string Try.underlying9 (hval 3 9 v3 rfl rfl) h3
  obtain ⟨a4, rfl, rfl, rfl, w4⟩ := open_string Try.underlying9 (hval 4 9 v4 rfl rfl) h4
  obtain ⟨a5, rfl, rfl, rfl, w5⟩ := open_string Try.underlying9 (hval 5 9 v5 rfl rfl) h5
  obtain ⟨t6, o6, rfl, w6, z6⟩ := open_PS (hval 6 22 v6 rfl rfl) h6
  clear hA0 hval0
  refine (law_any a2 a3 a4 a5 w0 w1 w6 z0 z1 z6 w3 w4 w5).mono fun e W' ⟨he, bel⟩ => ?_
  subst he
  have s0 := Below.trod laidOut (by kernel_rfl) (of_decide_eq_true (by kernel_rfl)) h0 bel lt0
  have s1 := Below.trod laidOut (by kernel_rfl) (of_decide_eq_true (by kernel_rfl)) h1 bel lt1
  have s6 := Below.trod laidOut (by kernel_rfl) (of_decide_eq_true (by kernel_rfl)) h6 bel lt6
  exact ⟨_, rfl, _, _, _, [], _, [], hW', trodAll_mk1 (shut_bool Try.underlying4 _),
    (trodAll_cons_mk s0 (trodAll_cons_mk s1 (trodAll_cons_mk (shut_bool Try.underlying4 _) (trodAll_cons_mk (shut_string Try.underlying9 w3) (trodAll_cons_mk (shut_string Try.underlying9 w4)
      (trodAll_cons_mk (shut_string Try.underlying9 w5) (trodAll_cons_mk s6 trodAll_mk0))))))),
    rfl, bel.frame _, fun h => by cases h⟩

theorem over : Rows.fnActionGivenSplitsByFieldRow.holds Try.pinned (OpenSpec.ofChange Rows.fnActionGivenSplitsByFieldSpec) :=
  OpenClaim.holds_of_wide 3 Try.f3 rfl rfl rfl rfl rfl rfl rfl ⟨rfl, rfl, rfl, rfl, rfl⟩ rfl rfl rfl rfl rfl (by kernel_rfl) Try.func3 (by kernel_rfl)
    (of_decide_eq_true (by kernel_rfl)) (by unfold Func.isWrapper; first | (rw [if_pos (by decide +kernel)]; kernel_rfl) | (rw [if_neg (by decide +kernel)]; exact ⟨rfl, rfl⟩))
    (fun os started H enc _ => lifted os started H enc)

/-- The statement -/
theorem proved : Rows.FnActionGivenSplitsByFieldSaid := over
#print axioms proved
end Go.Proofs.Qxb6604120a.act
