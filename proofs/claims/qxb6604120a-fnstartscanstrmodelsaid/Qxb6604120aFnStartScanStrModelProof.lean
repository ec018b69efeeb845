/- The proof of 'Rows.FnStartScanStrModelSaid': the row's frame is the one that was given with the seat; the walk stands on the contracts of the texts that it imports. -/
import Derived.Test.Qxb6604120aRows
import Derived.WalkKit
import Derived.ProofKit
import Derived.OpenShut
import Derived.ShutString
import Derived.ChangeOld
import Derived.Below
import Derived.Test.Qxb6604120aModel
import Derived.Test.Qxb6604120aScan
namespace Go.Proofs.Qxb6604120a.fnStartScanStrModel
open Go.ChangeShapes Go.WideShapes Go.ChangeAt Go.RowKit
open Go.ChangeMaps (open_string shut_string)
set_option linter.unusedVariables false

theorem own : ownKnob Try.prog.godebug = none := by kernel_rfl
theorem laidOut : laidOutB Try.prog = true := by kernel_rfl

/-- WHAT THE WALK IS TOLD OF A SLICE OF INTEGERS THAT CAME IN: it is nil; or it leads to a row of 'cap' cells, the numbers 'zs' (the first 'len' are its elements, the rest its spare room), each fitting its kind. -/
def IsRow (k : IntKind) (w : World) (a : Option Addr) (len cap : Nat) (zs : List Int) : Prop :=
  (a = none ∧ len = 0 ∧ cap = 0 ∧ zs = []) ∨
  ∃ x, a = some x ∧ len ≤ cap ∧ cap ≤ maxLen ∧ zs.length = cap ∧ (∀ i, i < zs.length → w.cell? (x.add i) = some (.int k (zs.getD i 0))) ∧ ∀ n ∈ zs, (Lit.int k n).wf = true

open Go.Proofs.Qxb6604120a.scn (InB BRow ans bytes_any copy_any zz_any model_any)

/-! ### The walk -/
theorem walk_far (a0 : Option Addr) (len0 cap0 : Nat) (a1 : Int) (w : World) (hl : len0 ≤ maxLen) (hbad : 1048576 < len0 ∨ a1 < 0) :
    Calls Try.prog 4 #[.slice a0 len0 cap0, .int .i64 a1] w fun e w' => e = .returned (.bool true) ∧ w = w' := by
  have H := hl
  unfold maxLen at hl
  rcases hbad with hbad | hbad
  · go_enter Try.func4, Try.ntmps4
    go_wp2_with (go_at_call 11; refine (bytes_any a0 len0 cap0 a1 _ H).mono ?_; rintro e w' ⟨b, rfl, rfl⟩)
    all_goals (go_ret; exact ⟨rfl, rfl⟩)
  · go_enter Try.func4, Try.ntmps4
    go_wp2_with (go_at_call 11; refine (bytes_any a0 len0 cap0 a1 _ H).mono ?_; rintro e w' ⟨b, rfl, rfl⟩)
    all_goals (go_ret; exact ⟨rfl, rfl⟩)

theorem walk_near (a0 : Option Addr) (len0 cap0 : Nat) (a1 : Int) (Z : Nat → Int) (w : World) (hl : len0 ≤ 1048576) (h0 : 0 ≤ a1) (hnil : Hid (a0 = none → len0 = 0 ∧ cap0 = 0)) (hI : Hid (InB w a0 len0 Z)) :
    Calls Try.prog 4 #[.slice a0 len0 cap0, .int .i64 a1] w fun e w' => e = .returned (.bool true) ∧ Below w.heap.size w w' := by
  go_enter Try.func4, Try.ntmps4
  go_wp2_with (go_at_call 11; refine (bytes_any a0 len0 cap0 a1 _ (by unfold maxLen; omega)).mono ?_; rintro e w' ⟨b, rfl, rfl⟩)
  · go_ret
    exact ⟨rfl, Below.refl _ _⟩
  refine (copy_any a0 len0 cap0 Z w hl hnil.out hI.out).mono ?_
  rintro e w1 ⟨a', c', rfl, I1, B1⟩
  have HI1 : Hid (InB w1 a' len0 Z) := I1
  have HB1 : Hid (Below w.heap.size w w1) := B1
  clear I1 B1
  go_wp2_with fail
  refine (zz_any a' len0 c' a1 Z w1 hl h0 HI1.out).mono ?_
  rintro e w2 ⟨rfl, B2⟩
  have HI2 : Hid (InB w2 a' len0 Z) := HI1.out.below B2 (Nat.le_refl _)
  have HB2 : Hid (Below w.heap.size w w2) := HB1.out.trans (B2.mono HB1.out.size)
  clear B2
  go_wp2_with fail
  refine (model_any a' len0 c' a1 Z w2 hl h0 HI2.out).mono ?_
  rintro e w3 ⟨rfl, rfl⟩
  go_wp2_with fail
  go_ret
  exact ⟨rfl, HB2.out⟩

theorem walk (a0 : Option Addr) (len0 cap0 : Nat) (z0 : List Int) (a1 : Int) (w : World) (w0 : IsRow .u8 w a0 len0 cap0 z0) (w1 : (Lit.int .i64 a1).wf = true) :
    Calls Try.prog 4 #[.slice a0 len0 cap0, .int .i64 a1] w fun e w' => e = .returned (.bool true) ∧ Below w.heap.size w w' := by
  have hlen : len0 ≤ maxLen := by
    rcases w0 with ⟨_, rfl, _, _⟩ | ⟨x, _, h1, h2, _⟩
    · exact Nat.zero_le _
    · omega
  by_cases hfar : 1048576 < len0 ∨ a1 < 0
  · exact (walk_far a0 len0 cap0 a1 w hlen hfar).mono fun e w' ⟨he, hw⟩ => ⟨he, hw ▸ Below.refl _ _⟩
  refine walk_near a0 len0 cap0 a1 (fun k => z0.getD k 0) w (by omega) (by omega) ?_ ?_
  · rcases w0 with ⟨_, h1, h2, _⟩ | ⟨x, rfl, _⟩
    · exact fun _ => ⟨h1, h2⟩
    · exact fun h => by cases h
  · rcases w0 with ⟨_, h1, h2, _⟩ | ⟨x, rfl, h1, h2, hz, hcell, _⟩
    · exact .inl h1
    · by_cases h0 : len0 = 0
      · exact .inl h0
      · obtain ⟨b, off, spot⟩ := x
        have hc := hcell 0 (by omega)
        have hspot : spot = none := by simpa [Addr.add] using World.cell?_spot hc
        subst hspot
        have hadd : ∀ k, (⟨b, off, none⟩ : Addr).add k = ⟨b, off + k, none⟩ := fun k => by unfold Addr.add; split <;> simp_all
        rw [hadd] at hc
        have hlt := World.block_lt_of_cell? w _ hc
        refine .inr ⟨b, off, rfl, hlt, fun k hk => ?_⟩
        have := hcell k (by omega)
        rw [hadd] at this
        exact this

/-! ### The row's step -/
set_option maxRecDepth 100000 in
theorem lifted (os : Os) (started : os.Started) (H : Type) (enc : TypeId × Value → H) :
    ReturnsInHanded {} Try.checked os 4 .any (Rows.fnStartScanStrModelSpec.pre6 enc Try.prog Try.f4 Rows.fnStartScanStrModelRow.domain false) (Rows.fnStartScanStrModelSpec.post enc Try.prog Try.f4 false true false false) := by
  refine returnsInHanded_of_change (C := Try.checked) own started (by kernel_rfl) Try.func4
    (ChangeSpec.witness6 (enc := enc) (C := Try.checked) false ⟨#[], #[.slice none 0 0, .int .i64 0], []⟩ 8 (by kernel_rfl) (by kernel_rfl) (by kernel_rfl) (by kernel_rfl)) ?_
  intro W base args ds gs before hval0 hW hcnd _
  have hval : ∀ (j : Nat) t v, Try.f4.params[j]? = some t → args[j]? = some v → Value.okWide Try.prog W .any base t v := hval0
  have hW' := hW
  obtain ⟨p, q, hA0, hV, rfl, hfz, hnd⟩ := hW
  have hA : DataW.TrodAll enc Try.prog W 0 (fun _ => true) true Try.f4.params.toList args.toList ds p := hA0
  rw [Try.params4] at hA hval
  obtain ⟨v0, vs0, d0, ds0, p0, q0, hargs, rfl, rfl, h0, r0⟩ := trodAll_cons hA
  obtain ⟨v1, vs1, d1, ds1, p1, q1, rfl, rfl, rfl, h1, r1⟩ := trodAll_cons r0
  obtain ⟨rfl, rfl, rfl⟩ := trodAll_nil r1
  obtain rfl : args = #[v0, v1] := by cases args; simp_all
  obtain ⟨rfl, rfl⟩ := trodVars_none hV
  obtain ⟨a0, len0, cap0, rfl⟩ := okWide_slice Try.underlying34 (hval 0 34 v0 rfl rfl)
  have k0 := h0
  have lt0 : ∀ x ∈ p0, x.block < W.heap.size := by obtain ⟨m, hm⟩ := k0; exact DataW.trod_lt m _ _ _ hm
  obtain ⟨z0, w0⟩ : ∃ zs, IsRow .u8 W a0 len0 cap0 zs := by
    obtain ⟨fuel, hf⟩ := h0
    rcases open_ints Try.underlying34 Try.underlying5 (by kernel_rfl) hf with ⟨hcs, _⟩ | ⟨x, l, c, zs, hcs, _, hl, hm, hz, _, hcell, hwz⟩
    · simp [Value.cells] at hcs
      obtain ⟨rfl, rfl, rfl⟩ := hcs
      exact ⟨[], .inl ⟨rfl, rfl, rfl, rfl⟩⟩
    · simp [Value.cells] at hcs
      obtain ⟨rfl, rfl, rfl⟩ := hcs
      exact ⟨zs, .inr ⟨_, rfl, hl, hm, by simpa using hz, hcell, hwz⟩⟩
  obtain ⟨a1, rfl, rfl, rfl, w1⟩ := open_int Try.underlying3 (hval 1 3 v1 rfl rfl) h1
  clear hA0 hval0
  refine (walk a0 len0 cap0 z0 a1 W w0 w1).mono fun e W' ⟨he, bel⟩ => ?_
  subst he
  exact ⟨_, rfl, _, _, _, [], _, [], hW', trodAll_mk1 (shut_bool Try.underlying4 _), (trodAll_cons_mk (Below.trod laidOut (by kernel_rfl) (of_decide_eq_true (by kernel_rfl)) k0 bel lt0) (trodAll_cons_mk (shut_int Try.underlying3 w1) trodAll_mk0)), rfl, bel.frame _, fun h => by cases h⟩

theorem over : Rows.fnStartScanStrModelRow.holds Try.pinned (OpenSpec.ofChange Rows.fnStartScanStrModelSpec) :=
  OpenClaim.holds_of_wide 4 Try.f4 rfl rfl rfl rfl rfl rfl rfl ⟨rfl, rfl, rfl, rfl, rfl⟩ rfl rfl rfl rfl rfl (by kernel_rfl) Try.func4 (by kernel_rfl)
    (of_decide_eq_true (by kernel_rfl)) (by unfold Func.isWrapper; first | (rw [if_pos (by decide +kernel)]; kernel_rfl) | (rw [if_neg (by decide +kernel)]; exact ⟨rfl, rfl⟩))
    (fun os started H enc _ => lifted os started H enc)

/-- The statement -/
theorem proved : Rows.FnStartScanStrModelSaid := over
#print axioms proved
end Go.Proofs.Qxb6604120a.fnStartScanStrModel
