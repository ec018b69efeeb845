import Derived.Test.Qxb6604067aFlags
import Derived.Test.Qxb6604067aCopy
import Derived.Test.Qxb6604067aEarly
namespace Go.Proofs.Qxb6604067a.psg
open Go.RowKit

def gcs (A B C : Nat → Bool) : Nat → List Value
  | 0 => []
  | k + 1 => gcs A B C k ++ [.bool (A k), .bool (B k), .bool (C k)]
def rcs (A B : Nat → Int) : Nat → List Value
  | 0 => []
  | k + 1 => rcs A B k ++ [.int .i64 (A k), .int .i64 (B k)]

theorem gcs_len (A B C : Nat → Bool) : ∀ n, (gcs A B C n).length = n * 3
  | 0 => rfl
  | n + 1 => by simp [gcs, gcs_len A B C n]; omega
theorem rcs_len (A B : Nat → Int) : ∀ n, (rcs A B n).length = n * 2
  | 0 => rfl
  | n + 1 => by simp [rcs, rcs_len A B n]; omega
theorem gcs_get (A B C : Nat → Bool) : ∀ n k, k < n → (gcs A B C n)[k * 3]? = some (.bool (A k)) ∧ (gcs A B C n)[k * 3 + 1]? = some (.bool (B k)) ∧ (gcs A B C n)[k * 3 + 2]? = some (.bool (C k))
  | 0, k, h => absurd h (Nat.not_lt_zero _)
  | n + 1, k, h => by
    have hl := gcs_len A B C n
    unfold gcs
    rcases Nat.lt_succ_iff_lt_or_eq.1 h with h' | rfl
    · rw [List.getElem?_append_left (by omega), List.getElem?_append_left (by omega), List.getElem?_append_left (by omega)]
      exact gcs_get A B C n k h'
    · rw [List.getElem?_append_right (by omega), List.getElem?_append_right (by omega), List.getElem?_append_right (by omega), hl]
      simp
theorem rcs_get (A B : Nat → Int) : ∀ n k, k < n → (rcs A B n)[k * 2]? = some (.int .i64 (A k)) ∧ (rcs A B n)[k * 2 + 1]? = some (.int .i64 (B k))
  | 0, k, h => absurd h (Nat.not_lt_zero _)
  | n + 1, k, h => by
    have hl := rcs_len A B n
    unfold rcs
    rcases Nat.lt_succ_iff_lt_or_eq.1 h with h' | rfl
    · rw [List.getElem?_append_left (by omega), List.getElem?_append_left (by omega)]
      exact rcs_get A B n k h'
    · rw [List.getElem?_append_right (by omega), List.getElem?_append_right (by omega), hl]
      simp

theorem gx_get (A B C : Nat → Bool) (n k : Nat) (h : k < n) (t : List Value) : (gcs A B C n ++ t)[k * 3]? = some (.bool (A k)) ∧ (gcs A B C n ++ t)[k * 3 + 1]? = some (.bool (B k)) ∧ (gcs A B C n ++ t)[k * 3 + 2]? = some (.bool (C k)) := by
  have hl := gcs_len A B C n
  rw [List.getElem?_append_left (by omega), List.getElem?_append_left (by omega), List.getElem?_append_left (by omega)]
  exact gcs_get A B C n k h
theorem gx_last (A B C : Nat → Bool) (n : Nat) (x y z : Value) : (gcs A B C n ++ [x, y, z])[n * 3]? = some x ∧ (gcs A B C n ++ [x, y, z])[n * 3 + 1]? = some y ∧ (gcs A B C n ++ [x, y, z])[n * 3 + 2]? = some z := by
  have hl := gcs_len A B C n
  rw [List.getElem?_append_right (by omega), List.getElem?_append_right (by omega), List.getElem?_append_right (by omega), hl]
  simp

set_option maxRecDepth 100000 in
set_option maxHeartbeats 4000000 in
theorem law_main (t0 t9 : ByteArray) (b1 b4 : Bool) (a2 a3 : Option Addr) (l2 c2 l3 c3 : Nat) (i5 i6 i7 i8 : Int) (w : World) (A B C : Nat → Bool) (D E : Nat → Int)
    (hok : t0.size + 3 * l2 + 16 * l3 + t9.size ≤ 1048576) (hp : 0 < t9.size) (h40 : (((t9[0]'hp).toNat : Int) != 40) = false)
    (n2 : a2 = none → l2 = 0 ∧ c2 = 0) (n3 : a3 = none → l3 = 0 ∧ c3 = 0) (hG : InG w a2 l2 A B C) (hR : InR w a3 l3 D E) :
    Calls Try.prog 3 #[.string t0, .bool b1, .slice a2 l2 c2, .slice a3 l3 c3, .bool b4, .int .i64 i5, .int .i64 i6, .int .i64 i7, .int .i64 i8, .string t9] w
      fun e w' => e = .returned (.bool true) ∧ Below w.heap.size w w' := by
  have hp' : ((t9.size : Int) == 0) = false := beq_eq_false_iff_ne.2 (by omega)
  have N2 : Hid (a2 = none → l2 = 0 ∧ c2 = 0) := n2
  have N3 : Hid (a3 = none → l3 = 0 ∧ c3 = 0) := n3
  have HG : Hid (InG w a2 l2 A B C) := hG
  have HR : Hid (InR w a3 l3 D E) := hR
  have H40 : Hid (bt t9 0 = 40) := by
    show bt t9 0 = 40
    rw [← bt_get t9 0 hp]; simpa using h40
  clear n2 n3 hG hR
  go_enter Try.func3, Try.ntmps3
  go_wp2_with (go_at_call 5; refine (bytes_any t0 t9 b1 b4 a2 a3 l2 c2 l3 c3 i5 i6 i7 i8 _ (by unfold maxLen; omega) (by unfold maxLen; omega) (by unfold maxLen; omega) (by unfold maxLen; omega)).mono ?_; rintro e w' ⟨b, rfl, rfl⟩)
  · go_ret; exact ⟨rfl, Below.refl _ _⟩
  rotate_left
  · go_ret; exact ⟨rfl, Below.refl _ _⟩
  refine (copyG_any a2 l2 c2 A B C w (by omega) N2.out HG.out).mono ?_
  rintro e w1 ⟨a2', c2', rfl, G1, B1⟩
  have HG1 : Hid (InG w1 a2' l2 A B C) := G1
  clear G1
  go_wp2_with fail
  refine (copyR_any a3 l3 c3 D E w1 (by omega) N3.out (HR.out.below B1 (Nat.le_refl _))).mono ?_
  rintro e w2 ⟨a3', c3', rfl, R1, B2⟩
  have HR2 : Hid (InR w2 a3' l3 D E) := R1
  have HG2 : Hid (InG w2 a2' l2 A B C) := HG1.out.below B2 (Nat.le_refl _)
  have BB2 : Hid (Below w.heap.size w w2) := B1.trans (B2.mono B1.size)
  clear R1 B1 B2 HR HG N2 N3 HG1
  go_wp2_with fail
  refine (new_any t0 b1 b4 i5 i6 i7 i8 w2).mono ?_
  rintro e w3 ⟨rfl, S3, B3⟩
  have HS3 : Hid (Scan w3 w2.heap.size t0 b1 0 (gcs A B C 0) 0 [] b4 i5 i6 i7 i8) := S3
  have HB3 : Hid (Below w2.heap.size w2 w3) := B3
  clear S3 B3
  go_wp2_with fail
  go_loopw [22] (fun i wr => ∃ k : Nat, k ≤ l2 ∧ i = .int .i64 k ∧ Hid (Scan wr w2.heap.size t0 b1 k (gcs A B C k) 0 [] b4 i5 i6 i7 i8) ∧ Hid (Below w2.heap.size w2 wr)) (fun i _ => l2 - (intOf i).toNat)
  case atStart => exact ⟨0, Nat.zero_le _, rfl, HS3, HB3⟩
  case round =>
    obtain ⟨k, hk, rfl, hS, hB⟩ := hrel
    by_cases hlt : k < l2
    · have hlt' : (k : Int) < (l2 : Int) := by omega
      have hk0 : (0 : Int) ≤ (k : Int) := Int.natCast_nonneg _
      obtain ⟨b0, off, rfl, hb0, hrow⟩ := (HG2.out).resolve_left (by omega)
      have d := hrow k hlt
      have d0 := (hB.out.cell (p := ⟨b0, off + k * 3, none⟩) hb0).trans d.1
      have d1 := (hB.out.cell (p := ⟨b0, off + k * 3 + 1, none⟩) hb0).trans d.2.1
      have d2 := (hB.out.cell (p := ⟨b0, off + k * 3 + 2, none⟩) hb0).trans d.2.2
      clear d hrow
      go_wp2_with fail
      go_region_held3 (fun w' => w'.cell? ⟨b0, off + k * 3, none⟩ = some (.bool (A k)) ∧ w'.cell? ⟨b0, off + k * 3 + 1, none⟩ = some (.bool (B k)) ∧ w'.cell? ⟨b0, off + k * 3 + 2, none⟩ = some (.bool (C k)))
        (first
          | go_keep
          | (go_split_ands
             refine ⟨?_, ?_, ?_⟩
             · (rw [hBel.cell (by exact hb0)]; assumption)
             · (rw [hBel.cell (by exact hb0)]; assumption)
             · (rw [hBel.cell (by exact hb0)]; assumption)))
        ((go_at_call 9; refine (addg_any (w := wr.drew) (A k) (B k) (C k) (by exact hS.out) (by omega)).mono ?_; rintro e w' ⟨rfl, hS', hBel⟩))
      go_wp2
      go_roundw
      case rel => exact ⟨k + 1, by omega, by go_num, hS', hB.out.drew.trans hBel⟩
      case measure => simp [intOf]; omega
    · have hlt' : ¬ (k : Int) < (l2 : Int) := by omega
      obtain rfl : k = l2 := by omega
      obtain ⟨w4, rfl⟩ : ∃ w4 : World, w4 = wr := ⟨_, rfl⟩
      have HS4 : Hid (Scan w4 w2.heap.size t0 b1 k (gcs A B C k) 0 (rcs D E 0) b4 i5 i6 i7 i8) := hS
      have HB4 := hB
      clear hS hB
      go_wp2_with fail
      go_loopw [23] (fun i wr => ∃ j : Nat, j ≤ l3 ∧ i = .int .i64 j ∧ Hid (Scan wr w2.heap.size t0 b1 k (gcs A B C k) j (rcs D E j) b4 i5 i6 i7 i8) ∧ Hid (Below w2.heap.size w2 wr)) (fun i _ => l3 - (intOf i).toNat)
      case atStart => exact ⟨0, Nat.zero_le _, rfl, HS4, HB4⟩
      case round =>
        obtain ⟨j, hj, rfl, hS, hB⟩ := hrel
        by_cases hlt2 : j < l3
        · have hlt2' : (j : Int) < (l3 : Int) := by omega
          have hj0 : (0 : Int) ≤ (j : Int) := Int.natCast_nonneg _
          obtain ⟨b0, off, rfl, hb0, hrow⟩ := (HR2.out).resolve_left (by omega)
          have d := hrow j hlt2
          have d0 := (hB.out.cell (p := ⟨b0, off + j * 2, none⟩) hb0).trans d.1
          have d1 := (hB.out.cell (p := ⟨b0, off + j * 2 + 1, none⟩) hb0).trans d.2
          clear d hrow
          go_wp2_with fail
          go_region_held3 (fun w' => w'.cell? ⟨b0, off + j * 2, none⟩ = some (.int .i64 (D j)) ∧ w'.cell? ⟨b0, off + j * 2 + 1, none⟩ = some (.int .i64 (E j)))
            (first
              | go_keep
              | (go_split_ands
                 refine ⟨?_, ?_⟩
                 · (rw [hBel.cell (by exact hb0)]; assumption)
                 · (rw [hBel.cell (by exact hb0)]; assumption)))
            ((go_at_call 10; refine (addr_any (w := wr.drew) (D j) (E j) (by exact hS.out) (by omega)).mono ?_; rintro e w' ⟨rfl, hS', hBel⟩))
          go_wp2
          go_roundw
          case rel => exact ⟨j + 1, by omega, by go_num, hS', hB.out.drew.trans hBel⟩
          case measure => simp [intOf]; omega
        · have hlt2' : ¬ (j : Int) < (l3 : Int) := by omega
          obtain rfl : j = l3 := by omega
          obtain ⟨w5, rfl⟩ : ∃ w5 : World, w5 = wr := ⟨_, rfl⟩
          have HS5 := hS
          have HB5 := hB
          clear hS hB HS4 HB4 HS3 HB3
          go_wp2_with fail
          have cg := zzgroup_any (w := w5) t9 HS5.out (by omega) (by omega) (by omega) H40
          have cm := fun wx => model_any b1 t9 wx (by omega) (by omega)
          obtain ⟨⟨r, f', p, cp⟩, hout⟩ : ∃ o, out b1 t9 = o := ⟨_, rfl⟩
          rw [hout] at cg
          simp only [hout] at cm
          have CM : Hid _ := cm
          clear cm
          refine cg.mono ?_
          rintro e w6 ⟨rfl, P6⟩
          clear cg
          have HP6 : Hid _ := P6
          clear P6
          go_wp2_with fail
          refine (CM.out w6).mono ?_
          rintro e w6' ⟨rfl, rfl⟩
          go_wp2_with fail
          clear hout
          cases p
          · have HS6 : Hid (Scan w6 w2.heap.size t0 f' (k) (gcs A B C k) j (rcs D E j) b4 i5 i6 i7 i8) := HP6.out.1
            have HB6 : Hid (Below w2.heap.size w2 w6) := HB5.out.trans HP6.out.2
            clear HP6 CM HS5 HB5
            refine (fields_any HS6.out).mono ?_
            rintro e w7 ⟨rfl, B7⟩
            have HS7 : Hid (Scan w7 w2.heap.size t0 f' (k) (gcs A B C k) j (rcs D E j) b4 i5 i6 i7 i8) := scan_below HS6.out B7
            have HB7 : Hid (Below w2.heap.size w2 w7) := HB6.out.trans (B7.mono (by have := HB6.out.size; omega))
            clear B7 HS6 HB6
            go_wp2_with fail
            refine (countg_any HS7.out).mono ?_
            rintro e w7' ⟨rfl, rfl⟩
            go_wp2_with fail
            go_loopw [37] (fun i wr => ∃ q : Nat, q ≤ k ∧ i = .int .i64 q ∧ Hid (Scan wr w2.heap.size t0 f' (k) (gcs A B C k) j (rcs D E j) b4 i5 i6 i7 i8) ∧ Hid (Below w2.heap.size w2 wr)) (fun i _ => k - (intOf i).toNat)
            case atStart => exact ⟨0, Nat.zero_le _, rfl, HS7, HB7⟩
            case round =>
              obtain ⟨q, hq, rfl, hS, hB⟩ := hrel
              by_cases hlq : q < k
              · have hlq' : (q : Int) < (k : Int) := by omega
                have hq0 : (0 : Int) ≤ (q : Int) := Int.natCast_nonneg _
                obtain ⟨b0, off, rfl, hb0, hrow⟩ := (HG2.out).resolve_left (by omega)
                have d := hrow q hlq
                have HD : Hid (_ ∧ _ ∧ _) := d
                clear d hrow
                have gl := gcs_get A B C k q hlq
                have GL : Hid (_ ∧ _ ∧ _) := gl
                clear gl
                go_wp2_with fail
                refine (atg_any hS.out q (by omega) (by omega) (A q) (B q) (C q) GL.out.1 GL.out.2.1 GL.out.2.2).mono ?_
                rintro e w' ⟨rfl, hBel⟩
                have hS' : Hid (Scan w' w2.heap.size t0 f' (k) (gcs A B C k) j (rcs D E j) b4 i5 i6 i7 i8) := scan_below hS.out hBel
                have hB' : Hid (Below w2.heap.size w2 w') := hB.out.trans (hBel.mono (by have := hB.out.size; omega))
                have d0 := (hB'.out.cell (p := ⟨b0, off + q * 3, none⟩) hb0).trans HD.out.1
                have d1 := (hB'.out.cell (p := ⟨b0, off + q * 3 + 1, none⟩) hb0).trans HD.out.2.1
                have d2 := (hB'.out.cell (p := ⟨b0, off + q * 3 + 2, none⟩) hb0).trans HD.out.2.2
                clear hBel
                go_wp2_with fail
                go_roundw
                case rel => exact ⟨q + 1, by omega, by go_num, hS', hB'⟩
                case measure => simp [intOf]; omega
              · have hlq' : ¬ (q : Int) < (k : Int) := by omega
                obtain ⟨w8, rfl⟩ : ∃ w8 : World, w8 = wr := ⟨_, rfl⟩
                have HS8 := hS
                have HB8 := hB
                clear hS hB HS7 HB7 hq
                go_wp2_with fail
                obtain ⟨w9, rfl⟩ : ∃ w9 : World, w9 = w8 := ⟨_, rfl⟩
                have HS9 := HS8
                have HB9 := HB8
                refine (countr_any HS9.out).mono ?_
                rintro e w9' ⟨rfl, rfl⟩
                go_wp2_with fail
                go_loopw [44] (fun i wr => ∃ v : Nat, v ≤ j ∧ i = .int .i64 v ∧ Hid (Scan wr w2.heap.size t0 f' (k) (gcs A B C k) j (rcs D E j) b4 i5 i6 i7 i8) ∧ Hid (Below w2.heap.size w2 wr)) (fun i _ => j - (intOf i).toNat)
                case atStart => exact ⟨0, Nat.zero_le _, rfl, HS9, HB9⟩
                case round =>
                  obtain ⟨v, hv, rfl, hS, hB⟩ := hrel
                  by_cases hlv : v < j
                  · have hlv' : (v : Int) < (j : Int) := by omega
                    have hv0 : (0 : Int) ≤ (v : Int) := Int.natCast_nonneg _
                    obtain ⟨b0, off, rfl, hb0, hrow⟩ := (HR2.out).resolve_left (by omega)
                    have d := hrow v hlv
                    have HD : Hid (_ ∧ _) := d
                    clear d hrow
                    have gl := rcs_get D E j v hlv
                    have GL : Hid (_ ∧ _) := gl
                    clear gl
                    go_wp2_with fail
                    refine (atr_any hS.out v (by omega) (by omega) (D v) (E v) GL.out.1 GL.out.2).mono ?_
                    rintro e w' ⟨rfl, hBel⟩
                    have hS' : Hid (Scan w' w2.heap.size t0 f' (k) (gcs A B C k) j (rcs D E j) b4 i5 i6 i7 i8) := scan_below hS.out hBel
                    have hB' : Hid (Below w2.heap.size w2 w') := hB.out.trans (hBel.mono (by have := hB.out.size; omega))
                    have d0 := (hB'.out.cell (p := ⟨b0, off + v * 2, none⟩) hb0).trans HD.out.1
                    have d1 := (hB'.out.cell (p := ⟨b0, off + v * 2 + 1, none⟩) hb0).trans HD.out.2
                    clear hBel
                    go_wp2_with fail
                    go_roundw
                    case rel => exact ⟨v + 1, by omega, by go_num, hS', hB'⟩
                    case measure => simp [intOf]; omega
                  · have hlv' : ¬ (v : Int) < (j : Int) := by omega
                    go_wp2_with fail
                    go_ret
                    exact ⟨rfl, BB2.out.trans (hB.out.mono BB2.out.size)⟩
          · have HS6 : Hid (Scan w6 w2.heap.size t0 f' (k + 1) (gcs A B C k ++ [.bool b1, .bool cp, .bool false]) j (rcs D E j) b4 i5 i6 i7 i8) := HP6.out.1
            have HB6 : Hid (Below w2.heap.size w2 w6) := HB5.out.trans HP6.out.2
            clear HP6 CM HS5 HB5
            refine (fields_any HS6.out).mono ?_
            rintro e w7 ⟨rfl, B7⟩
            have HS7 : Hid (Scan w7 w2.heap.size t0 f' (k + 1) (gcs A B C k ++ [.bool b1, .bool cp, .bool false]) j (rcs D E j) b4 i5 i6 i7 i8) := scan_below HS6.out B7
            have HB7 : Hid (Below w2.heap.size w2 w7) := HB6.out.trans (B7.mono (by have := HB6.out.size; omega))
            clear B7 HS6 HB6
            go_wp2_with fail
            refine (countg_any HS7.out).mono ?_
            rintro e w7' ⟨rfl, rfl⟩
            go_wp2_with fail
            go_loopw [37] (fun i wr => ∃ q : Nat, q ≤ k ∧ i = .int .i64 q ∧ Hid (Scan wr w2.heap.size t0 f' (k + 1) (gcs A B C k ++ [.bool b1, .bool cp, .bool false]) j (rcs D E j) b4 i5 i6 i7 i8) ∧ Hid (Below w2.heap.size w2 wr)) (fun i _ => k - (intOf i).toNat)
            case atStart => exact ⟨0, Nat.zero_le _, rfl, HS7, HB7⟩
            case round =>
              obtain ⟨q, hq, rfl, hS, hB⟩ := hrel
              by_cases hlq : q < k
              · have hlq' : (q : Int) < (k : Int) := by omega
                have hq0 : (0 : Int) ≤ (q : Int) := Int.natCast_nonneg _
                obtain ⟨b0, off, rfl, hb0, hrow⟩ := (HG2.out).resolve_left (by omega)
                have d := hrow q hlq
                have HD : Hid (_ ∧ _ ∧ _) := d
                clear d hrow
                have gl := gx_get A B C k q hlq [.bool b1, .bool cp, .bool false]
                have GL : Hid (_ ∧ _ ∧ _) := gl
                clear gl
                go_wp2_with fail
                refine (atg_any hS.out q (by omega) (by omega) (A q) (B q) (C q) GL.out.1 GL.out.2.1 GL.out.2.2).mono ?_
                rintro e w' ⟨rfl, hBel⟩
                have hS' : Hid (Scan w' w2.heap.size t0 f' (k + 1) (gcs A B C k ++ [.bool b1, .bool cp, .bool false]) j (rcs D E j) b4 i5 i6 i7 i8) := scan_below hS.out hBel
                have hB' : Hid (Below w2.heap.size w2 w') := hB.out.trans (hBel.mono (by have := hB.out.size; omega))
                have d0 := (hB'.out.cell (p := ⟨b0, off + q * 3, none⟩) hb0).trans HD.out.1
                have d1 := (hB'.out.cell (p := ⟨b0, off + q * 3 + 1, none⟩) hb0).trans HD.out.2.1
                have d2 := (hB'.out.cell (p := ⟨b0, off + q * 3 + 2, none⟩) hb0).trans HD.out.2.2
                clear hBel
                go_wp2_with fail
                go_roundw
                case rel => exact ⟨q + 1, by omega, by go_num, hS', hB'⟩
                case measure => simp [intOf]; omega
              · have hlq' : ¬ (q : Int) < (k : Int) := by omega
                obtain ⟨w8, rfl⟩ : ∃ w8 : World, w8 = wr := ⟨_, rfl⟩
                have HS8 := hS
                have HB8 := hB
                clear hS hB HS7 HB7 hq
                go_wp2_with fail
                have gl := gx_last A B C k (.bool b1) (.bool cp) (.bool false)
                refine (atg_any HS8.out k (by omega) (by omega) b1 cp false gl.1 gl.2.1 gl.2.2).mono ?_
                rintro e w9 ⟨rfl, B9⟩
                have HS9 : Hid (Scan w9 w2.heap.size t0 f' (k + 1) (gcs A B C k ++ [.bool b1, .bool cp, .bool false]) j (rcs D E j) b4 i5 i6 i7 i8) := scan_below HS8.out B9
                have HB9 : Hid (Below w2.heap.size w2 w9) := HB8.out.trans (B9.mono (by have := HB8.out.size; omega))
                clear B9 gl
                go_wp2_with fail
                refine (countr_any HS9.out).mono ?_
                rintro e w9' ⟨rfl, rfl⟩
                go_wp2_with fail
                go_loopw [44] (fun i wr => ∃ v : Nat, v ≤ j ∧ i = .int .i64 v ∧ Hid (Scan wr w2.heap.size t0 f' (k + 1) (gcs A B C k ++ [.bool b1, .bool cp, .bool false]) j (rcs D E j) b4 i5 i6 i7 i8) ∧ Hid (Below w2.heap.size w2 wr)) (fun i _ => j - (intOf i).toNat)
                case atStart => exact ⟨0, Nat.zero_le _, rfl, HS9, HB9⟩
                case round =>
                  obtain ⟨v, hv, rfl, hS, hB⟩ := hrel
                  by_cases hlv : v < j
                  · have hlv' : (v : Int) < (j : Int) := by omega
                    have hv0 : (0 : Int) ≤ (v : Int) := Int.natCast_nonneg _
                    obtain ⟨b0, off, rfl, hb0, hrow⟩ := (HR2.out).resolve_left (by omega)
                    have d := hrow v hlv
                    have HD : Hid (_ ∧ _) := d
                    clear d hrow
                    have gl := rcs_get D E j v hlv
                    have GL : Hid (_ ∧ _) := gl
                    clear gl
                    go_wp2_with fail
                    refine (atr_any hS.out v (by omega) (by omega) (D v) (E v) GL.out.1 GL.out.2).mono ?_
                    rintro e w' ⟨rfl, hBel⟩
                    have hS' : Hid (Scan w' w2.heap.size t0 f' (k + 1) (gcs A B C k ++ [.bool b1, .bool cp, .bool false]) j (rcs D E j) b4 i5 i6 i7 i8) := scan_below hS.out hBel
                    have hB' : Hid (Below w2.heap.size w2 w') := hB.out.trans (hBel.mono (by have := hB.out.size; omega))
                    have d0 := (hB'.out.cell (p := ⟨b0, off + v * 2, none⟩) hb0).trans HD.out.1
                    have d1 := (hB'.out.cell (p := ⟨b0, off + v * 2 + 1, none⟩) hb0).trans HD.out.2
                    clear hBel
                    go_wp2_with fail
                    go_roundw
                    case rel => exact ⟨v + 1, by omega, by go_num, hS', hB'⟩
                    case measure => simp [intOf]; omega
                  · have hlv' : ¬ (v : Int) < (j : Int) := by omega
                    go_wp2_with fail
                    go_ret
                    exact ⟨rfl, BB2.out.trans (hB.out.mono BB2.out.size)⟩

end Go.Proofs.Qxb6604067a.psg
