import Derived.Test.Qxb6604067aRows
import Derived.Test.Qxb6604067aLaw
import Derived.Test.Qxb6604067aOpen
import Derived.WalkKit
import Derived.ProofKit
import Derived.OpenShut
import Derived.ShutString
import Derived.ChangeOld
import Derived.Below
namespace Go.Proofs.Qxb6604067a.psg
open Go.ChangeShapes Go.WideShapes Go.ChangeAt Go.RowKit
open Go.ChangeMaps (open_string shut_string)
set_option linter.unusedVariables false

theorem own : ownKnob Try.prog.godebug = none := by kernel_rfl
theorem laidOut : laidOutB Try.prog = true := by kernel_rfl

theorem walk (t0 t9 : ByteArray) (b1 b4 : Bool) (a2 a3 : Option Addr) (l2 c2 l3 c3 : Nat) (i5 i6 i7 i8 : Int) (w : World) (A B C : Nat → Bool) (D E : Nat → Int)
    (h0 : t0.size ≤ maxLen) (h2 : l2 ≤ maxLen) (h3 : l3 ≤ maxLen) (h9 : t9.size ≤ maxLen)
    (n2 : a2 = none → l2 = 0 ∧ c2 = 0) (n3 : a3 = none → l3 = 0 ∧ c3 = 0) (hG : InG w a2 l2 A B C) (hR : InR w a3 l3 D E) :
    Calls Try.prog 3 #[.string t0, .bool b1, .slice a2 l2 c2, .slice a3 l3 c3, .bool b4, .int .i64 i5, .int .i64 i6, .int .i64 i7, .int .i64 i8, .string t9] w
      fun e w' => e = .returned (.bool true) ∧ Below w.heap.size w w' := by
  by_cases hok : t0.size + 3 * l2 + 16 * l3 + t9.size ≤ 1048576
  · by_cases hp : 0 < t9.size
    · cases h40 : (((t9[0]'hp).toNat : Int) != 40) with
      | true => exact (law_else t0 t9 b1 b4 a2 a3 l2 c2 l3 c3 i5 i6 i7 i8 w hok hp h40).mono fun e w' ⟨he, hw⟩ => ⟨he, hw ▸ Below.refl _ _⟩
      | false => exact law_main t0 t9 b1 b4 a2 a3 l2 c2 l3 c3 i5 i6 i7 i8 w A B C D E hok hp h40 n2 n3 hG hR
    · exact (law_none t0 t9 b1 b4 a2 a3 l2 c2 l3 c3 i5 i6 i7 i8 w hok (by omega)).mono fun e w' ⟨he, hw⟩ => ⟨he, hw ▸ Below.refl _ _⟩
  · exact (law_early t0 t9 b1 b4 a2 a3 l2 c2 l3 c3 i5 i6 i7 i8 w h0 h2 h3 h9 (by omega)).mono fun e w' ⟨he, hw⟩ => ⟨he, hw ▸ Below.refl _ _⟩

set_option maxRecDepth 100000 in
theorem lifted (os : Os) (started : os.Started) (H : Type) (enc : TypeId × Value → H) :
    ReturnsInHanded {} Try.checked os 3 .any (Rows.fnParseScanGroupMatchesFlagTableSpec.pre6 enc Try.prog Try.f3 Rows.fnParseScanGroupMatchesFlagTableRow.domain false) (Rows.fnParseScanGroupMatchesFlagTableSpec.post enc Try.prog Try.f3 false true false false) := by
  refine returnsInHanded_of_change (C := Try.checked) own started (by kernel_rfl) Try.func3
    (ChangeSpec.witness6 (enc := enc) (C := Try.checked) false ⟨#[], #[.string ByteArray.empty, .bool false, .slice none 0 0, .slice none 0 0, .bool false, .int .i64 0, .int .i64 0, .int .i64 0, .int .i64 0, .string ByteArray.empty], []⟩ 8 (by kernel_rfl) (by kernel_rfl) (by kernel_rfl) (by kernel_rfl)) ?_
  intro W base args ds gs before hval0 hW hcnd _
  have hval : ∀ (j : Nat) t v, Try.f3.params[j]? = some t → args[j]? = some v → Value.okWide Try.prog W .any base t v := hval0
  have hW' := hW
  obtain ⟨p, q, hA0, hV, rfl, hfz, hnd⟩ := hW
  have hA : DataW.TrodAll enc Try.prog W 0 (fun _ => true) true Try.f3.params.toList args.toList ds p := hA0
  rw [Try.params3] at hA hval
  obtain ⟨v0, vs0, d0, ds0, p0, q0, hargs, rfl, rfl, h0, r0⟩ := trodAll_cons hA
  obtain ⟨v1, vs1, d1, ds1, p1, q1, rfl, rfl, rfl, h1, r1⟩ := trodAll_cons r0
  obtain ⟨v2, vs2, d2, ds2, p2, q2, rfl, rfl, rfl, h2, r2⟩ := trodAll_cons r1
  obtain ⟨v3, vs3, d3, ds3, p3, q3, rfl, rfl, rfl, h3, r3⟩ := trodAll_cons r2
  obtain ⟨v4, vs4, d4, ds4, p4, q4, rfl, rfl, rfl, h4, r4⟩ := trodAll_cons r3
  obtain ⟨v5, vs5, d5, ds5, p5, q5, rfl, rfl, rfl, h5, r5⟩ := trodAll_cons r4
  obtain ⟨v6, vs6, d6, ds6, p6, q6, rfl, rfl, rfl, h6, r6⟩ := trodAll_cons r5
  obtain ⟨v7, vs7, d7, ds7, p7, q7, rfl, rfl, rfl, h7, r7⟩ := trodAll_cons r6
  obtain ⟨v8, vs8, d8, ds8, p8, q8, rfl, rfl, rfl, h8, r8⟩ := trodAll_cons r7
  obtain ⟨v9, vs9, d9, ds9, p9, q9, rfl, rfl, rfl, h9, r9⟩ := trodAll_cons r8
  obtain ⟨rfl, rfl, rfl⟩ := trodAll_nil r9
  obtain rfl : args = #[v0, v1, v2, v3, v4, v5, v6, v7, v8, v9] := by cases args; simp_all
  obtain ⟨rfl, rfl⟩ := trodVars_none hV
  obtain ⟨a0, rfl, rfl, rfl, w0⟩ := open_string Try.underlying9 (hval 0 9 v0 rfl rfl) h0
  obtain ⟨a1, rfl, rfl, rfl⟩ := open_bool Try.underlying4 (hval 1 4 v1 rfl rfl) h1
  obtain ⟨a2, len2, cap2, rfl⟩ := okWide_slice Try.underlying22 (hval 2 22 v2 rfl rfl)
  have k2 := h2
  have lt2 : ∀ x ∈ p2, x.block < W.heap.size := by obtain ⟨m, hm⟩ := k2; exact DataW.trod_lt m _ _ _ hm
  obtain ⟨a3, len3, cap3, rfl⟩ := okWide_slice Try.underlying23 (hval 3 23 v3 rfl rfl)
  have k3 := h3
  have lt3 : ∀ x ∈ p3, x.block < W.heap.size := by obtain ⟨m, hm⟩ := k3; exact DataW.trod_lt m _ _ _ hm
  obtain ⟨n2, m2, A, B, C, w2⟩ := (by obtain ⟨fuel, hf⟩ := h2; exact open_G (by simpa [Value.cells] using hf) : (a2 = none → len2 = 0 ∧ cap2 = 0) ∧ len2 ≤ maxLen ∧ ∃ A B C, InG W a2 len2 A B C)
  obtain ⟨n3, m3, D, E, w3⟩ := (by obtain ⟨fuel, hf⟩ := h3; exact open_R (by simpa [Value.cells] using hf) : (a3 = none → len3 = 0 ∧ cap3 = 0) ∧ len3 ≤ maxLen ∧ ∃ A B, InR W a3 len3 A B)
  obtain ⟨a4, rfl, rfl, rfl⟩ := open_bool Try.underlying4 (hval 4 4 v4 rfl rfl) h4
  obtain ⟨a5, rfl, rfl, rfl, w5⟩ := open_int Try.underlying2 (hval 5 2 v5 rfl rfl) h5
  obtain ⟨a6, rfl, rfl, rfl, w6⟩ := open_int Try.underlying2 (hval 6 2 v6 rfl rfl) h6
  obtain ⟨a7, rfl, rfl, rfl, w7⟩ := open_int Try.underlying2 (hval 7 2 v7 rfl rfl) h7
  obtain ⟨a8, rfl, rfl, rfl, w8⟩ := open_int Try.underlying2 (hval 8 2 v8 rfl rfl) h8
  obtain ⟨a9, rfl, rfl, rfl, w9⟩ := open_string Try.underlying9 (hval 9 9 v9 rfl rfl) h9
  clear hA0 hval0
  refine (walk a0 a9 a1 a4 a2 a3 len2 cap2 len3 cap3 a5 a6 a7 a8 W A B C D E w0 m2 m3 w9 n2 n3 w2 w3).mono fun e W' ⟨he, bel⟩ => ?_
  subst he
  have s2 := Below.trod laidOut (by kernel_rfl) (of_decide_eq_true (by kernel_rfl)) k2 bel lt2
  have s3 := Below.trod laidOut (by kernel_rfl) (of_decide_eq_true (by kernel_rfl)) k3 bel lt3
  exact ⟨_, rfl, _, _, _, [], _, [], hW', trodAll_mk1 (shut_bool Try.underlying4 _),
    (trodAll_cons_mk (shut_string Try.underlying9 w0) (trodAll_cons_mk (shut_bool Try.underlying4 _) (trodAll_cons_mk s2 (trodAll_cons_mk s3 (trodAll_cons_mk (shut_bool Try.underlying4 _)
      (trodAll_cons_mk (shut_int Try.underlying2 w5) (trodAll_cons_mk (shut_int Try.underlying2 w6) (trodAll_cons_mk (shut_int Try.underlying2 w7) (trodAll_cons_mk (shut_int Try.underlying2 w8) (trodAll_cons_mk (shut_string Try.underlying9 w9) trodAll_mk0)))))))))),
    rfl, bel.frame _, fun h => by cases h⟩

theorem over : Rows.fnParseScanGroupMatchesFlagTableRow.holds Try.pinned (OpenSpec.ofChange Rows.fnParseScanGroupMatchesFlagTableSpec) :=
  OpenClaim.holds_of_wide 3 Try.f3 rfl rfl rfl rfl rfl rfl rfl ⟨rfl, rfl, rfl, rfl, rfl⟩ rfl rfl rfl rfl rfl (by kernel_rfl) Try.func3 (by kernel_rfl)
    (of_decide_eq_true (by kernel_rfl)) (by unfold Func.isWrapper; first | (rw [if_pos (by decide +kernel)]; kernel_rfl) | (rw [if_neg (by decide +kernel)]; exact ⟨rfl, rfl⟩))
    (fun os started H enc _ => lifted os started H enc)

/-- THE STATEMENT -/
theorem proved : Rows.FnParseScanGroupMatchesFlagTableSaid := over
#print axioms proved
end Go.Proofs.Qxb6604067a.psg
