import Derived.Test.Qxb6604120aTake
import Derived.Test.Qxb6604120aBig
namespace Go.Proofs.Qxb6604120a.act
open Go.RowKit

theorem fig1 (o : Option ByteArray) : ∀ e ∈ e1 o, e.2.length ≤ 100 := by cases o <;> simp [e1]
theorem fig2 (o : Option ByteArray) : ∀ e ∈ e2 o, e.2.length ≤ 100 := by cases o <;> simp [e2]
theorem fig3 (o : Option (ByteArray × ByteArray × ByteArray)) : ∀ e ∈ e3 o, e.2.length ≤ 100 := by cases o <;> simp [e3]
theorem fig4 (o : Option ByteArray) : ∀ e ∈ e4 o, e.2.length ≤ 100 := by cases o <;> simp [e4]

theorem is1 {w : World} {q : Option Addr} {o : Option ByteArray} (h : PS w q o) : q.isSome = decide (0 < (e1 o).length) := by
  rcases h with ⟨rfl, rfl⟩ | ⟨_, _, _, rfl, rfl, _⟩ <;> rfl
theorem is2 {w : World} {q : Option Addr} {o : Option ByteArray} (h : PS w q o) : q.isSome = decide (0 < (e2 o).length) := by
  rcases h with ⟨rfl, rfl⟩ | ⟨_, _, _, rfl, rfl, _⟩ <;> rfl
theorem is3 (hr : Bool) (x y z : ByteArray) : hr = decide (0 < (e3 (rightsOf hr x y z)).length) := by
  cases hr <;> rfl
theorem is4 {w : World} {q : Option Addr} {o : Option ByteArray} (h : PS w q o) : q.isSome = decide (0 < (e4 o).length) := by
  rcases h with ⟨rfl, rfl⟩ | ⟨_, _, _, rfl, rfl, _⟩ <;> rfl
theorem ret_true {a : Bool} (h : a = true) : Ending.returned (.bool a) = .returned (.bool true) := by rw [h]

theorem PS_nil (w : World) : PS w none none := .inl ⟨rfl, rfl⟩
theorem PR_nil (w : World) : PR w none none := .inl ⟨rfl, rfl⟩
theorem zz1 {w : World} {p : Option Addr} {o : Option ByteArray} (h : PS w p o) : Calls Try.prog 9 #[.pointer p, .pointer none, .pointer none, .pointer none] w fun e w' => ZPost (e1 o) w e w' := by
  have := zz_any h (PS_nil w) (PR_nil w) (PS_nil w)
  simpa [ents, e2, e3, e4] using this
theorem zz2 {w : World} {p : Option Addr} {o : Option ByteArray} (h : PS w p o) : Calls Try.prog 9 #[.pointer none, .pointer p, .pointer none, .pointer none] w fun e w' => ZPost (e2 o) w e w' := by
  have := zz_any (PS_nil w) h (PR_nil w) (PS_nil w)
  simpa [ents, e1, e3, e4] using this
theorem zz3 {w : World} {p : Option Addr} {o : Option (ByteArray × ByteArray × ByteArray)} (h : PR w p o) : Calls Try.prog 9 #[.pointer none, .pointer none, .pointer p, .pointer none] w fun e w' => ZPost (e3 o) w e w' := by
  have := zz_any (PS_nil w) (PS_nil w) h (PS_nil w)
  simpa [ents, e1, e2, e4] using this
theorem zz4 {w : World} {p : Option Addr} {o : Option ByteArray} (h : PS w p o) : Calls Try.prog 9 #[.pointer none, .pointer none, .pointer none, .pointer p] w fun e w' => ZPost (e4 o) w e w' := by
  have := zz_any (PS_nil w) (PS_nil w) (PR_nil w) h
  simpa [ents, e1, e2, e3] using this

set_option maxRecDepth 100000 in
set_option maxHeartbeats 4000000 in
theorem law_any {w : World} {p0 p1 p6 : Option Addr} {o0 o1 o6 : Option ByteArray} (hr : Bool) (x y z : ByteArray) (h0 : PS w p0 o0) (h1 : PS w p1 o1) (h6 : PS w p6 o6) (s0 : Short o0) (s1 : Short o1) (s6 : Short o6)
    (hx : x.size ≤ maxLen) (hy : y.size ≤ maxLen) (hz : z.size ≤ maxLen) :
    Calls Try.prog 3 #[.pointer p0, .pointer p1, .bool hr, .string x, .string y, .string z, .pointer p6] w fun e w' => e = .returned (.bool true) ∧ Below w.heap.size w w' := by
  have CB := bytes_any hr x y z h0 h1 h6 s0 s1 s6 hx hy hz
  have CT := big_any x y z h0 h1 h6 s0 s1 s6 hx hy hz
  have H0 : Hid (PS w p0 o0) := h0
  have H1 : Hid (PS w p1 o1) := h1
  have H6 : Hid (PS w p6 o6) := h6
  clear h0 h1 h6 s0 s1 s6 hx hy hz
  go_enter Try.func3, Try.ntmps3
  go_wp2_with fail
  refine CB.mono ?_
  rintro e w' ⟨b, rfl, rfl⟩
  clear CB
  cases b
  · clear CT
    go_wp2_with fail
    go_ret
    exact ⟨rfl, Below.refl _ _⟩
  go_wp2_with fail
  refine CT.mono ?_
  rintro e w' ⟨b, rfl, rfl⟩
  clear CT
  cases b
  case true =>
    go_wp2_with fail
    go_ret
    exact ⟨rfl, Below.refl _ _⟩
  go_wp2_with fail
  refine (copy_any H0.out).mono ?_
  rintro e w1 ⟨q0, rfl, P0, B1⟩
  have HP0 : Hid (PS w1 q0 o0) := P0
  have HB1 : Hid (Below w.heap.size w w1) := B1
  clear P0 B1
  go_wp2_with fail
  refine (copy_any (H1.out.below HB1.out (Nat.le_refl _))).mono ?_
  rintro e w2 ⟨q1, rfl, P1, B2⟩
  have HP1 : Hid (PS w2 q1 o1) := P1
  have HP0' : Hid (PS w2 q0 o0) := HP0.out.below B2 (Nat.le_refl _)
  have HB2 : Hid (Below w.heap.size w w2) := HB1.out.trans (B2.mono HB1.out.size)
  clear P1 B2 HB1 HP0
  go_wp2_with fail
  refine (copy_any (H6.out.below HB2.out (Nat.le_refl _))).mono ?_
  rintro e w3 ⟨q6, rfl, P6, B3⟩
  have HP6 : Hid (PS w3 q6 o6) := P6
  have HP0 : Hid (PS w3 q0 o0) := HP0'.out.below B3 (Nat.le_refl _)
  have HP1' : Hid (PS w3 q1 o1) := HP1.out.below B3 (Nat.le_refl _)
  have HB3 : Hid (Below w.heap.size w w3) := HB2.out.trans (B3.mono HB2.out.size)
  clear P6 B3 HB2 HP0' HP1
  go_wp2_with fail
  refine (make_any w3 hr x y z).mono ?_
  rintro e w4 ⟨qr, rfl, PRr, B4⟩
  have HR : Hid (PR w4 qr (rightsOf hr x y z)) := PRr
  have K0 : Hid (PS w4 q0 o0) := HP0.out.below B4 (Nat.le_refl _)
  have K1 : Hid (PS w4 q1 o1) := HP1'.out.below B4 (Nat.le_refl _)
  have K6 : Hid (PS w4 q6 o6) := HP6.out.below B4 (Nat.le_refl _)
  have HB4 : Hid (Below w.heap.size w w4) := HB3.out.trans (B4.mono HB3.out.size)
  clear PRr B4 HB3 HP0 HP1' HP6
  go_wp2_with fail
  refine (zz_any K0.out K1.out HR.out K6.out).mono ?_
  rintro e w5 ⟨an, cn, af, cf, rfl, RL, B5⟩
  have k1 := e1_le o0
  have k2 := e2_le o1
  have k3 := e3_le (rightsOf hr x y z)
  have k4 := e4_le o6
  obtain ⟨L, hL⟩ : ∃ L, ents o0 o1 (rightsOf hr x y z) o6 = L := ⟨_, rfl⟩
  have hlen : L.length ≤ 100 := by rw [← hL]; simp [ents]; omega
  rw [hL] at RL ⊢
  have HL : Hid (ents o0 o1 (rightsOf hr x y z) o6 = L) := hL
  have HRL : Hid (Res w5 an af L) := RL
  have HB5 : Hid (Below w.heap.size w w5) := HB4.out.trans (B5.mono HB4.out.size)
  have J0 : Hid (PS w5 q0 o0) := K0.out.below B5 (Nat.le_refl _)
  have J1 : Hid (PS w5 q1 o1) := K1.out.below B5 (Nat.le_refl _)
  have JR : Hid (PR w5 qr (rightsOf hr x y z)) := HR.out.below B5 (Nat.le_refl _)
  have J6 : Hid (PS w5 q6 o6) := K6.out.below B5 (Nat.le_refl _)
  clear RL B5 hL HB4 K0 K1 HR K6
  go_wp2_with fail
  refine (zz1 J0.out).mono ?_
  rintro e wz0 ⟨bn, cb, bf, cc, rfl, RP, BZ⟩
  have HRP0 : Hid (Res wz0 bn bf (e1 o0)) := RP
  have HRA0 : Hid (Res wz0 an af L) := HRL.out.below BZ (Nat.le_refl _)
  have HBA0 : Hid (Below w.heap.size w wz0) := HB5.out.trans (BZ.mono HB5.out.size)
  have G0 : Hid (PS wz0 q0 o0) := J0.out.below BZ (Nat.le_refl _)
  have G1 : Hid (PS wz0 q1 o1) := J1.out.below BZ (Nat.le_refl _)
  have GR : Hid (PR wz0 qr (rightsOf hr x y z)) := JR.out.below BZ (Nat.le_refl _)
  have G6 : Hid (PS wz0 q6 o6) := J6.out.below BZ (Nat.le_refl _)
  clear RP BZ HRL HB5
  go_wp2_with fail
  refine (take_any (pre := []) (part := e1 o0) (post := e2 o1 ++ e3 (rightsOf hr x y z) ++ e4 o6) (by rw [← HL.out]; simp [ents]) hlen k1 (fig1 o0) HRA0.out HRP0.out _ (by simp) _ (is1 J0.out) _ rfl).mono ?_
  rintro e wt0 ⟨rfl, BT⟩
  have HRL0 : Hid (Res wt0 an af L) := HRA0.out.below BT (Nat.le_refl _)
  have HBT0 : Hid (Below w.heap.size w wt0) := HBA0.out.trans (BT.mono HBA0.out.size)
  clear J0 J1 JR J6
  have J0 : Hid (PS wt0 q0 o0) := G0.out.below BT (Nat.le_refl _)
  have J1 : Hid (PS wt0 q1 o1) := G1.out.below BT (Nat.le_refl _)
  have JR : Hid (PR wt0 qr (rightsOf hr x y z)) := GR.out.below BT (Nat.le_refl _)
  have J6 : Hid (PS wt0 q6 o6) := G6.out.below BT (Nat.le_refl _)
  clear BT G0 G1 GR G6 HRA0 HRP0 HBA0
  go_wp2_with fail
  refine (zz2 J1.out).mono ?_
  rintro e wz1 ⟨bn, cb, bf, cc, rfl, RP, BZ⟩
  have HRP1 : Hid (Res wz1 bn bf (e2 o1)) := RP
  have HRA1 : Hid (Res wz1 an af L) := HRL0.out.below BZ (Nat.le_refl _)
  have HBA1 : Hid (Below w.heap.size w wz1) := HBT0.out.trans (BZ.mono HBT0.out.size)
  have G0 : Hid (PS wz1 q0 o0) := J0.out.below BZ (Nat.le_refl _)
  have G1 : Hid (PS wz1 q1 o1) := J1.out.below BZ (Nat.le_refl _)
  have GR : Hid (PR wz1 qr (rightsOf hr x y z)) := JR.out.below BZ (Nat.le_refl _)
  have G6 : Hid (PS wz1 q6 o6) := J6.out.below BZ (Nat.le_refl _)
  clear RP BZ HRL0 HBT0
  go_wp2_with fail
  refine (take_any (pre := e1 o0) (part := e2 o1) (post := e3 (rightsOf hr x y z) ++ e4 o6) (by rw [← HL.out]; simp [ents]) hlen k2 (fig2 o1) HRA1.out HRP1.out _ (by simp) _ (is2 J1.out) _ rfl).mono ?_
  rintro e wt1 ⟨rfl, BT⟩
  have HRL1 : Hid (Res wt1 an af L) := HRA1.out.below BT (Nat.le_refl _)
  have HBT1 : Hid (Below w.heap.size w wt1) := HBA1.out.trans (BT.mono HBA1.out.size)
  clear J0 J1 JR J6
  have J0 : Hid (PS wt1 q0 o0) := G0.out.below BT (Nat.le_refl _)
  have J1 : Hid (PS wt1 q1 o1) := G1.out.below BT (Nat.le_refl _)
  have JR : Hid (PR wt1 qr (rightsOf hr x y z)) := GR.out.below BT (Nat.le_refl _)
  have J6 : Hid (PS wt1 q6 o6) := G6.out.below BT (Nat.le_refl _)
  clear BT G0 G1 GR G6 HRA1 HRP1 HBA1
  go_wp2_with fail
  refine (zz3 JR.out).mono ?_
  rintro e wz2 ⟨bn, cb, bf, cc, rfl, RP, BZ⟩
  have HRP2 : Hid (Res wz2 bn bf (e3 (rightsOf hr x y z))) := RP
  have HRA2 : Hid (Res wz2 an af L) := HRL1.out.below BZ (Nat.le_refl _)
  have HBA2 : Hid (Below w.heap.size w wz2) := HBT1.out.trans (BZ.mono HBT1.out.size)
  have G0 : Hid (PS wz2 q0 o0) := J0.out.below BZ (Nat.le_refl _)
  have G1 : Hid (PS wz2 q1 o1) := J1.out.below BZ (Nat.le_refl _)
  have GR : Hid (PR wz2 qr (rightsOf hr x y z)) := JR.out.below BZ (Nat.le_refl _)
  have G6 : Hid (PS wz2 q6 o6) := J6.out.below BZ (Nat.le_refl _)
  clear RP BZ HRL1 HBT1
  go_wp2_with fail
  refine (take_any (pre := e1 o0 ++ e2 o1) (part := e3 (rightsOf hr x y z)) (post := e4 o6) (by rw [← HL.out]; simp [ents]) hlen k3 (fig3 (rightsOf hr x y z)) HRA2.out HRP2.out _ (by simp) _ (is3 hr x y z) _ rfl).mono ?_
  rintro e wt2 ⟨rfl, BT⟩
  have HRL2 : Hid (Res wt2 an af L) := HRA2.out.below BT (Nat.le_refl _)
  have HBT2 : Hid (Below w.heap.size w wt2) := HBA2.out.trans (BT.mono HBA2.out.size)
  clear J0 J1 JR J6
  have J0 : Hid (PS wt2 q0 o0) := G0.out.below BT (Nat.le_refl _)
  have J1 : Hid (PS wt2 q1 o1) := G1.out.below BT (Nat.le_refl _)
  have JR : Hid (PR wt2 qr (rightsOf hr x y z)) := GR.out.below BT (Nat.le_refl _)
  have J6 : Hid (PS wt2 q6 o6) := G6.out.below BT (Nat.le_refl _)
  clear BT G0 G1 GR G6 HRA2 HRP2 HBA2
  go_wp2_with fail
  refine (zz4 J6.out).mono ?_
  rintro e wz3 ⟨bn, cb, bf, cc, rfl, RP, BZ⟩
  have HRP3 : Hid (Res wz3 bn bf (e4 o6)) := RP
  have HRA3 : Hid (Res wz3 an af L) := HRL2.out.below BZ (Nat.le_refl _)
  have HBA3 : Hid (Below w.heap.size w wz3) := HBT2.out.trans (BZ.mono HBT2.out.size)
  have G0 : Hid (PS wz3 q0 o0) := J0.out.below BZ (Nat.le_refl _)
  have G1 : Hid (PS wz3 q1 o1) := J1.out.below BZ (Nat.le_refl _)
  have GR : Hid (PR wz3 qr (rightsOf hr x y z)) := JR.out.below BZ (Nat.le_refl _)
  have G6 : Hid (PS wz3 q6 o6) := J6.out.below BZ (Nat.le_refl _)
  clear RP BZ HRL2 HBT2
  go_wp2_with fail
  refine (take_any (pre := e1 o0 ++ e2 o1 ++ e3 (rightsOf hr x y z)) (part := e4 o6) (post := []) (by rw [← HL.out]; simp [ents]) hlen k4 (fig4 o6) HRA3.out HRP3.out _ (by simp) _ (is4 J6.out) _ rfl).mono ?_
  rintro e wt3 ⟨rfl, BT⟩
  have HRL3 : Hid (Res wt3 an af L) := HRA3.out.below BT (Nat.le_refl _)
  have HBT3 : Hid (Below w.heap.size w wt3) := HBA3.out.trans (BT.mono HBA3.out.size)
  clear J0 J1 JR J6
  have J0 : Hid (PS wt3 q0 o0) := G0.out.below BT (Nat.le_refl _)
  have J1 : Hid (PS wt3 q1 o1) := G1.out.below BT (Nat.le_refl _)
  have JR : Hid (PR wt3 qr (rightsOf hr x y z)) := GR.out.below BT (Nat.le_refl _)
  have J6 : Hid (PS wt3 q6 o6) := G6.out.below BT (Nat.le_refl _)
  clear BT G0 G1 GR G6 HRA3 HRP3 HBA3
  go_wp2_with fail
  go_ret
  refine ⟨ret_true ?_, HBT3.out⟩
  rw [← HL.out]
  simp [ents]

end Go.Proofs.Qxb6604120a.act
