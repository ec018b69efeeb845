import Derived.Test.Qxb6604067aLeaf
import Derived.Deep.DeepCutAuto
import Derived.Deep.CutBlock
namespace Go.Proofs.Qxb6604067a.psg
open Go.RowKit

theorem ret_out {f : Bool} {t : ByteArray} {a : ByteArray} {b c d : Bool} (h : out f t = (a, b, c, d)) :
    Ending.returned (.tuple #[.string a, .bool b, .bool c, .bool d]) = .returned (.tuple #[.string (out f t).1, .bool (out f t).2.1, .bool (out f t).2.2.1, .bool (out f t).2.2.2]) := by rw [h]

set_option maxHeartbeats 400000 in
theorem mp_a (f : Bool) (t : ByteArray) (w : World) (h0 : 1 ≤ t.size) (hA : t.size < 2) :
    Calls Try.prog 12 #[.bool f, .string t] w fun e w' => e = .returned (.tuple #[.string (t.extract 1 t.size), .bool f, .bool true, .bool true]) ∧ w = w' := by
  go_enter Try.func12, Try.ntmps12
  go_wp2
  exact bodyPost_ret (v := .tuple #[.string (t.extract 1 t.size), .bool f, .bool true, .bool true]) (by simp [results, Try.results12, go_sem]) rfl ⟨rfl, rfl⟩

set_option maxHeartbeats 400000 in
theorem mp_b (f : Bool) (t : ByteArray) (w : World) (hs : t.size ≤ 1048576) (h1 : 1 < t.size) (eB : (((t[1]'h1).toNat : Int) != 63) = true) :
    Calls Try.prog 12 #[.bool f, .string t] w fun e w' => e = .returned (.tuple #[.string (t.extract 1 t.size), .bool f, .bool true, .bool true]) ∧ w = w' := by
  have h1' : (1 : Int) < (t.size : Int) := by omega
  go_enter Try.func12, Try.ntmps12
  go_wp2
  exact bodyPost_ret (v := .tuple #[.string (t.extract 1 t.size), .bool f, .bool true, .bool true]) (by simp [results, Try.results12, go_sem]) rfl ⟨rfl, rfl⟩

set_option maxHeartbeats 400000 in
theorem mp_c (f : Bool) (t : ByteArray) (w : World) (hs : t.size ≤ 1048576) (h1 : 3 ≤ t.size) (eB : (((t[1]'(by omega)).toNat : Int) != 63) = false)
    (hc : 0 < (t.extract 2 t.size).size) (eC : ((((t.extract 2 t.size)[0]'hc).toNat : Int) == 60) = true) :
    Calls Try.prog 12 #[.bool f, .string t] w fun e w' => e = .returned (.tuple #[.string (t.extract 1 t.size), .bool f, .bool true, .bool true]) ∧ w = w' := by
  have h1' : (1 : Int) < (t.size : Int) := by omega
  go_enter Try.func12, Try.ntmps12
  go_wp2
  exact bodyPost_ret (v := .tuple #[.string (t.extract 1 t.size), .bool f, .bool true, .bool true]) (by simp [results, Try.results12, go_sem]) rfl ⟨rfl, rfl⟩

set_option maxHeartbeats 400000 in
theorem mp_d (f : Bool) (t : ByteArray) (w : World) (hs : t.size ≤ 1048576) (h1 : 4 ≤ t.size) (eB : (((t[1]'(by omega)).toNat : Int) != 63) = false)
    (hc : 0 < (t.extract 2 t.size).size) (eD : (((t.extract 2 t.size)[0]'hc).toNat : Int) = 80)
    (hd : 1 < (t.extract 2 t.size).size) (eE : (((t.extract 2 t.size)[1]'hd).toNat : Int) = 60) :
    Calls Try.prog 12 #[.bool f, .string t] w fun e w' => e = .returned (.tuple #[.string (t.extract 1 t.size), .bool f, .bool true, .bool true]) ∧ w = w' := by
  have h1' : (1 : Int) < (t.size : Int) := by omega
  go_enter Try.func12, Try.ntmps12
  go_wp2
  exact bodyPost_ret (v := .tuple #[.string (t.extract 1 t.size), .bool f, .bool true, .bool true]) (by simp [results, Try.results12, go_sem]) rfl ⟨rfl, rfl⟩

theorem model_plain (f : Bool) (t : ByteArray) (w : World) (hs : t.size ≤ 1048576) (h0 : 1 ≤ t.size) (hp : plainB t = true) :
    Calls Try.prog 12 #[.bool f, .string t] w fun e w' => e = .returned (.tuple #[.string (out f t).1, .bool (out f t).2.1, .bool (out f t).2.2.1, .bool (out f t).2.2.2]) ∧ w = w' := by
  rw [out_plain f t hp]
  by_cases hA : t.size < 2
  · exact mp_a f t w h0 hA
  have h1 : 1 < t.size := by omega
  have g1 := bt_get t 1 h1
  by_cases hB : bt t 1 = 63
  · have eB : (((t[1]'h1).toNat : Int) != 63) = false := by rw [g1, hB]; rfl
    have h3 : 3 ≤ t.size := by simp [plainB, hB] at hp; omega
    have hc : 0 < (t.extract 2 t.size).size := by rw [size_cut]; omega
    have g2 := bt_get (t.extract 2 t.size) 0 hc
    rw [bt_cut] at g2
    by_cases hC : bt t 2 = 60
    · exact mp_c f t w hs h3 eB hc (by rw [g2, hC]; rfl)
    · have h4 : 4 ≤ t.size ∧ bt t 2 = 80 ∧ bt t 3 = 60 := by simp [plainB, hB, hC] at hp; omega
      obtain ⟨h4, hD, hE⟩ := h4
      have hd : 1 < (t.extract 2 t.size).size := by rw [size_cut]; omega
      have g3 := bt_get (t.extract 2 t.size) 1 hd
      rw [bt_cut] at g3
      exact mp_d f t w hs h4 eB hc (by rw [g2, hD]) hd (by rw [g3, hE])
  · exact mp_b f t w hs h1 (by rw [g1]; simpa using hB)

theorem ret_flags {f : Bool} {t fl : ByteArray} (hp : plainB t = false) (hfl : t.extract 2 t.size = fl) {r : ByteArray} {f' p : Bool} (hg : G fl f f false 0 = (r, f', p)) :
    Ending.returned (.tuple #[.string r, .bool f', .bool p, .bool false]) = .returned (.tuple #[.string (out f t).1, .bool (out f t).2.1, .bool (out f t).2.2.1, .bool (out f t).2.2.2]) := by
  subst hfl
  rw [out_flags f t hp hg]

theorem ret_fold {f : Bool} {t fl : ByteArray} (hp : plainB t = false) (hfl : t.extract 2 t.size = fl) {r : ByteArray} {f' f'' p : Bool} (hg : G fl f f false 0 = (r, f'', p)) (hf : f' = f'') :
    Ending.returned (.tuple #[.string r, .bool f', .bool p, .bool false]) = .returned (.tuple #[.string (out f t).1, .bool (out f t).2.1, .bool (out f t).2.2.1, .bool (out f t).2.2.2]) := by
  subst hf
  exact ret_flags hp hfl hg

theorem bt_of {s : ByteArray} {k : Nat} {n : Int} (h : k < s.size) (e : (((s[k]'h).toNat : Int) == n) = true) : bt s k = n := by
  rw [← bt_get s k h]; simpa using e
theorem bt_not {s : ByteArray} {k : Nat} {n : Int} (h : k < s.size) (e : (((s[k]'h).toNat : Int) == n) = false) : bt s k ≠ n := by
  rw [← bt_get s k h]; simpa using e

theorem mfold_no {f : Bool} {da li : Int} (h : li < 0) : f = mfold f da li := by unfold mfold; rw [if_neg (by omega)]
theorem mfold_nd {f : Bool} {da li : Int} (h : 0 ≤ li) (hd : da < 0) : true = mfold f da li := by unfold mfold; rw [if_pos (by omega)]; simp [hd]
theorem mfold_d {f : Bool} {da li : Int} (h : 0 ≤ li) (hd : 0 ≤ da) : decide (li < da) = mfold f da li := by
  unfold mfold; rw [if_pos (by omega)]
  have : decide (da < 0) = false := by simp; omega
  rw [this]; simp

theorem nb0 {t fl : ByteArray} (hp : plainB t = false) (hfl : t.extract 2 t.size = fl) (h : 0 < fl.size) : ((fl[0].toNat : Int) == 60) = false := by
  have e := bt_get fl 0 h
  subst hfl
  rw [bt_cut] at e
  rw [size_cut] at h
  have := np0 hp
  rw [e]; simp; omega
theorem nb1 {t fl : ByteArray} (hp : plainB t = false) (hfl : t.extract 2 t.size = fl) (h : 1 < fl.size) (h80 : (fl[0].toNat : Int) = 80) : ((fl[1].toNat : Int) == 60) = false := by
  have e := bt_get fl 0 (by omega)
  have e' := bt_get fl 1 h
  subst hfl
  rw [bt_cut] at e e'
  rw [size_cut] at h
  have := np0 hp
  simp only [Nat.reduceAdd] at e e'
  rw [e']; rw [e] at h80; simp; omega

set_option maxRecDepth 100000 in
set_option maxHeartbeats 2000000 in
theorem model_flags (f : Bool) (t : ByteArray) (w : World) (hs : t.size ≤ 1048576) (h2 : 2 ≤ t.size) (eB : (((t[1]'(by omega)).toNat : Int) != 63) = false) (hp : Hid (plainB t = false)) :
    Calls Try.prog 12 #[.bool f, .string t] w fun e w' => e = .returned (.tuple #[.string (out f t).1, .bool (out f t).2.1, .bool (out f t).2.2.1, .bool (out f t).2.2.2]) ∧ w = w' := by
  have h1' : (1 : Int) < (t.size : Int) := by omega
  go_enter Try.func12, Try.ntmps12
  go_upto_region 3 with fail
  go_cut [8] (fun v wc => ∃ fl, v = .string fl ∧ Hid (t.extract 2 t.size = fl) ∧ fl.size ≤ 1048574 ∧ w = wc)
  case first =>
    go_wp2
    go_meet
    case rel => exact ⟨_, rfl, rfl, by simp; omega, rfl⟩
  case rest =>
    obtain ⟨fl, rfl, hfl, hfs, rfl⟩ := hcut
    clear eB h1' 
    go_upto_region 4 with fail
    go_cut [36] (fun v wx => v = .bool false ∧ w = wx)
    case first =>
      by_cases hc : 1 ≤ fl.size
      · have := nb0 hp.out hfl.out hc
        have : (1 : Int) ≤ fl.size := by omega
        go_wp2
        go_meet
        case rel => exact ⟨rfl, rfl⟩
      · have : ¬ (1 : Int) ≤ fl.size := by omega
        go_wp2
        go_meet
        case rel => exact ⟨rfl, rfl⟩
    case rest =>
      obtain ⟨rfl, rfl⟩ := hcut
      go_upto_region 6 with fail
      go_cut [52] (fun v wx => v = .bool false ∧ w = wx)
      case first =>
        by_cases hc : 2 ≤ fl.size
        · have : (2 : Int) ≤ fl.size := by omega
          by_cases h80 : (fl[0].toNat : Int) = 80
          · have := nb1 hp.out hfl.out (by omega) h80
            go_wp2
            go_meet
            case rel => exact ⟨rfl, rfl⟩
          · have : ((fl[0].toNat : Int) == 80) = false := by simpa using h80
            go_wp2
            go_meet
            case rel => exact ⟨rfl, rfl⟩
        · have : ¬ (2 : Int) ≤ fl.size := by omega
          go_wp2
          go_meet
          case rel => exact ⟨rfl, rfl⟩
      case rest =>
        obtain ⟨rfl, rfl⟩ := hcut
        go_upto_block 0 with fail
        go_cut [9] (fun v wx => ∃ j : Nat, v = .int .i64 j ∧ j ≤ fl.size ∧ Hid (∀ i, i < j → flagB (bt fl i) = true) ∧ Hid (j < fl.size → flagB (bt fl j) = false) ∧ w = wx)
        case first =>
          go_wp2_with fail
          go_loop [9] (fun j => ∃ k : Nat, k ≤ fl.size ∧ j = .int .i64 k ∧ Hid (∀ i, i < k → flagB (bt fl i) = true)) (fun j => fl.size - (intOf j).toNat)
          case atStart => exact ⟨0, Nat.zero_le _, rfl, fun i hi => absurd hi (by omega)⟩
          case round =>
            obtain ⟨k, hk, rfl, hfk⟩ := hrel
            by_cases hlt : k < fl.size
            · have hlt' : (k : Int) < (fl.size : Int) := by omega
              go_wp2_with (go_at_call 27; refine (flag_any _ _).mono ?_; rintro e w' ⟨rfl, rfl⟩)
              · have hb : flagB (fl[k].toNat : Int) = true := by assumption
                rw [bt_get] at hb
                go_round
                case rel => exact ⟨k + 1, by omega, by go_num, fun i hi => by rcases Nat.lt_succ_iff_lt_or_eq.1 hi with h | h; exact hfk.out i h; rw [h]; exact hb⟩
                case measure => simp [intOf]; omega
              · have hb : flagB (fl[k].toNat : Int) = false := by assumption
                rw [bt_get] at hb
                go_meet
                case rel => exact ⟨k, rfl, hk, hfk, fun _ => hb, rfl⟩
            · have hlt' : ¬ (k : Int) < (fl.size : Int) := by omega
              go_wp2_with fail
              go_meet
              case rel => exact ⟨k, rfl, hk, hfk, fun h => absurd h hlt, rfl⟩
        case rest =>
          obtain ⟨j, rfl, hj, hfj, hnj, rfl⟩ := hcut
          by_cases hjl : j = fl.size
          · have hg : Hid (G fl f f false 0 = (⟨#[]⟩, f, false)) := G_bad fl f j 0 f false (fun m _ h => hfj.out m (by omega)) (by omega) (.inl (by omega))
            have hb : ((j : Int) == (fl.size : Int)) = true := by simp; omega
            clear hfj hnj hjl
            go_wp2_with fail
            exact bodyPost_ret (v := .tuple #[.string ⟨#[]⟩, .bool f, .bool false, .bool false]) (by simp [results, Try.results12, go_sem]) rfl ⟨ret_flags hp.out hfl.out hg.out, rfl⟩
          have hjlt : j < fl.size := by omega
          have hj' : (j : Int) < (fl.size : Int) := by omega
          have hjb : ((j : Int) == (fl.size : Int)) = false := by simp; omega
          have hbt := bt_get fl j hjlt
          have hnf := hnj.out hjlt
          by_cases hend : bt fl j = 58 ∨ bt fl j = 41
          case neg =>
            have hg : Hid (G fl f f false 0 = (⟨#[]⟩, f, false)) := G_bad fl f j 0 f false (fun m _ h => hfj.out m (by omega)) (by omega) (.inr ⟨by simpa using hnf, by simp; omega, by simp; omega⟩)
            have e1 : ((fl[j].toNat : Int) != 58) = true := by rw [hbt]; simp; omega
            have e2 : ((fl[j].toNat : Int) != 41) = true := by rw [hbt]; simp; omega
            clear hfj hnj hjl hbt hnf hend
            go_wp2_with fail
            exact bodyPost_ret (v := .tuple #[.string ⟨#[]⟩, .bool f, .bool false, .bool false]) (by simp [results, Try.results12, go_sem]) rfl ⟨ret_flags hp.out hfl.out hg.out, rfl⟩
          have HB : Hid ((fl[j].toNat : Int) = bt fl j) := hbt
          clear hbt hnf hnj hjl
          rcases hend with hend | hend
          · have e1 : (fl[j].toNat : Int) = 58 := by rw [HB.out, hend]
            have HE : Hid (bt fl j = 58) := hend
            clear hend
            go_wp2_with fail
            go_loop [11, 12, 13, 14] (fun a b c d => ∃ (k : Nat) (da ds li : Int), k ≤ j ∧ a = .int .i64 da ∧ b = .int .i64 ds ∧ c = .int .i64 li ∧ d = .int .i64 k ∧ Hid (Minv fl f k da ds li)) (fun _ _ _ d => j - (intOf d).toNat)
            case atStart => exact ⟨0, _, _, _, Nat.zero_le _, rfl, rfl, rfl, rfl, Minv_start fl f⟩
            case round =>
              obtain ⟨k, da, ds, li, hk, rfl, rfl, rfl, rfl, hM⟩ := hrel
              obtain ⟨m1, m2, m3, m4, m5, m6, m7, -, -⟩ := hM.out
              clear m7
              by_cases hlt : k < j
              · have hlt' : (k : Int) < (j : Int) := by omega
                have hlt2 : (k : Int) < (fl.size : Int) := by omega
                have hlt3 : k < fl.size := by omega
                go_wp2_with fail
                · have c : bt fl k = 45 := bt_of hlt3 (by assumption)
                  have c2 : da < 0 := by assumption
                  go_round
                  case rel => exact ⟨k + 1, _, _, _, by omega, rfl, rfl, rfl, by go_num, Minv_first hM.out hlt3 c c2⟩
                  case measure => simp [intOf]; omega
                · have c : bt fl k = 45 := bt_of hlt3 (by assumption)
                  have c2 : 0 ≤ da := by assumption
                  go_round
                  case rel => exact ⟨k + 1, _, _, _, by omega, rfl, rfl, rfl, by go_num, Minv_more hM.out hlt3 c c2⟩
                  case measure => simp [intOf]; omega
                · have c : bt fl k = 105 := bt_of hlt3 (by assumption)
                  go_round
                  case rel => exact ⟨k + 1, _, _, _, by omega, rfl, rfl, rfl, by go_num, Minv_i hM.out hlt3 c⟩
                  case measure => simp [intOf]; omega
                · have c : bt fl k ≠ 45 := bt_not hlt3 (by assumption)
                  have c2 : bt fl k ≠ 105 := bt_not hlt3 (by assumption)
                  go_round
                  case rel => exact ⟨k + 1, _, _, _, by omega, rfl, rfl, rfl, by go_num, Minv_o hM.out hlt3 (hfj.out k hlt) c2 c⟩
                  case measure => simp [intOf]; omega
              · have hlt' : ¬ (k : Int) < (j : Int) := by omega
                have hkj : Hid (k = j) := by show k = j; omega
                go_wp2_with fail
                · have c : 1 < ds := by assumption
                  have hg := hM.out.2.2.2.2.2.2.2.2 c
                  exact bodyPost_ret (v := .tuple #[.string ⟨#[]⟩, .bool f, .bool false, .bool false]) (by simp [results, Try.results12, go_sem]) rfl ⟨ret_flags hp.out hfl.out hg, rfl⟩
                · have c : ds ≤ 1 := by assumption
                  have hg := hM.out.2.2.2.2.2.2.2.1 c
                  rw [hkj.out, G_c fl f _ _ j hjlt HE.out] at hg
                  exact bodyPost_ret (v := .tuple #[.string (fl.extract (j+1) fl.size), .bool (decide (li < da)), .bool true, .bool false]) (by simp [results, Try.results12, go_sem]; omega) rfl ⟨ret_fold hp.out hfl.out hg (mfold_d (by assumption) (by assumption)), rfl⟩
                · have c : ds ≤ 1 := by assumption
                  have hg := hM.out.2.2.2.2.2.2.2.1 c
                  rw [hkj.out, G_c fl f _ _ j hjlt HE.out] at hg
                  exact bodyPost_ret (v := .tuple #[.string (fl.extract (j+1) fl.size), .bool true, .bool true, .bool false]) (by simp [results, Try.results12, go_sem]) rfl ⟨ret_fold hp.out hfl.out hg (mfold_nd (by assumption) (by assumption)), rfl⟩
                · have c : ds ≤ 1 := by assumption
                  have hg := hM.out.2.2.2.2.2.2.2.1 c
                  rw [hkj.out, G_c fl f _ _ j hjlt HE.out] at hg
                  exact bodyPost_ret (v := .tuple #[.string (fl.extract (j+1) fl.size), .bool f, .bool true, .bool false]) (by simp [results, Try.results12, go_sem]) rfl ⟨ret_fold hp.out hfl.out hg (mfold_no (by assumption)), rfl⟩
          · have e1 : (fl[j].toNat : Int) = 41 := by rw [HB.out, hend]
            have HE : Hid (bt fl j = 41) := hend
            clear hend
            go_wp2_with fail
            go_loop [11, 12, 13, 14] (fun a b c d => ∃ (k : Nat) (da ds li : Int), k ≤ j ∧ a = .int .i64 da ∧ b = .int .i64 ds ∧ c = .int .i64 li ∧ d = .int .i64 k ∧ Hid (Minv fl f k da ds li)) (fun _ _ _ d => j - (intOf d).toNat)
            case atStart => exact ⟨0, _, _, _, Nat.zero_le _, rfl, rfl, rfl, rfl, Minv_start fl f⟩
            case round =>
              obtain ⟨k, da, ds, li, hk, rfl, rfl, rfl, rfl, hM⟩ := hrel
              obtain ⟨m1, m2, m3, m4, m5, m6, m7, -, -⟩ := hM.out
              clear m7
              by_cases hlt : k < j
              · have hlt' : (k : Int) < (j : Int) := by omega
                have hlt2 : (k : Int) < (fl.size : Int) := by omega
                have hlt3 : k < fl.size := by omega
                go_wp2_with fail
                · have c : bt fl k = 45 := bt_of hlt3 (by assumption)
                  have c2 : da < 0 := by assumption
                  go_round
                  case rel => exact ⟨k + 1, _, _, _, by omega, rfl, rfl, rfl, by go_num, Minv_first hM.out hlt3 c c2⟩
                  case measure => simp [intOf]; omega
                · have c : bt fl k = 45 := bt_of hlt3 (by assumption)
                  have c2 : 0 ≤ da := by assumption
                  go_round
                  case rel => exact ⟨k + 1, _, _, _, by omega, rfl, rfl, rfl, by go_num, Minv_more hM.out hlt3 c c2⟩
                  case measure => simp [intOf]; omega
                · have c : bt fl k = 105 := bt_of hlt3 (by assumption)
                  go_round
                  case rel => exact ⟨k + 1, _, _, _, by omega, rfl, rfl, rfl, by go_num, Minv_i hM.out hlt3 c⟩
                  case measure => simp [intOf]; omega
                · have c : bt fl k ≠ 45 := bt_not hlt3 (by assumption)
                  have c2 : bt fl k ≠ 105 := bt_not hlt3 (by assumption)
                  go_round
                  case rel => exact ⟨k + 1, _, _, _, by omega, rfl, rfl, rfl, by go_num, Minv_o hM.out hlt3 (hfj.out k hlt) c2 c⟩
                  case measure => simp [intOf]; omega
              · have hlt' : ¬ (k : Int) < (j : Int) := by omega
                have hkj : Hid (k = j) := by show k = j; omega
                go_wp2_with fail
                · have c : 1 < ds := by assumption
                  have hg := hM.out.2.2.2.2.2.2.2.2 c
                  exact bodyPost_ret (v := .tuple #[.string ⟨#[]⟩, .bool f, .bool false, .bool false]) (by simp [results, Try.results12, go_sem]) rfl ⟨ret_flags hp.out hfl.out hg, rfl⟩
                · have c : ds ≤ 1 := by assumption
                  have hg := hM.out.2.2.2.2.2.2.2.1 c
                  rw [hkj.out, G_p fl f _ _ j hjlt HE.out] at hg
                  exact bodyPost_ret (v := .tuple #[.string (fl.extract (j+1) fl.size), .bool (decide (li < da)), .bool false, .bool false]) (by simp [results, Try.results12, go_sem]; omega) rfl ⟨ret_fold hp.out hfl.out hg (mfold_d (by assumption) (by assumption)), rfl⟩
                · have c : ds ≤ 1 := by assumption
                  have hg := hM.out.2.2.2.2.2.2.2.1 c
                  rw [hkj.out, G_p fl f _ _ j hjlt HE.out] at hg
                  exact bodyPost_ret (v := .tuple #[.string (fl.extract (j+1) fl.size), .bool true, .bool false, .bool false]) (by simp [results, Try.results12, go_sem]) rfl ⟨ret_fold hp.out hfl.out hg (mfold_nd (by assumption) (by assumption)), rfl⟩
                · have c : ds ≤ 1 := by assumption
                  have hg := hM.out.2.2.2.2.2.2.2.1 c
                  rw [hkj.out, G_p fl f _ _ j hjlt HE.out] at hg
                  exact bodyPost_ret (v := .tuple #[.string (fl.extract (j+1) fl.size), .bool f, .bool false, .bool false]) (by simp [results, Try.results12, go_sem]) rfl ⟨ret_fold hp.out hfl.out hg (mfold_no (by assumption)), rfl⟩

theorem model_any (f : Bool) (t : ByteArray) (w : World) (hs : t.size ≤ 1048576) (h0 : 1 ≤ t.size) :
    Calls Try.prog 12 #[.bool f, .string t] w fun e w' => e = .returned (.tuple #[.string (out f t).1, .bool (out f t).2.1, .bool (out f t).2.2.1, .bool (out f t).2.2.2]) ∧ w = w' := by
  cases hp : plainB t with
  | true => exact model_plain f t w hs h0 hp
  | false =>
    have h := np0 hp
    refine model_flags f t w hs h.1 ?_ hp
    rw [bt_get, h.2.1]; rfl

end Go.Proofs.Qxb6604067a.psg
