/-
  The plain mathematics of seat b6604067a's law: no Go in sight. 'gl' reads the flags of a group as the program's method does; 'Minv' is what the position-based model knows after k bytes.
-/
namespace Go.Proofs.Qxb6604067a.psg

def bt (s : ByteArray) (i : Nat) : Int := ((s.data.toList[i]?.getD 0).toNat : Int)

theorem bt_get (s : ByteArray) (i : Nat) (h : i < s.size) : ((s[i]'h).toNat : Int) = bt s i := by
  have h' : i < s.data.size := h
  have e : s.data.toList[i]? = some (s[i]'h) := by
    rw [Array.getElem?_toList, Array.getElem?_eq_getElem h']; rfl
  unfold bt
  rw [e]; rfl

def flagB (c : Int) : Bool := c == 105 || c == 109 || c == 115 || c == 85 || c == 45

def failed (f0 : Bool) : ByteArray × Bool × Bool := (⟨#[]⟩, f0, false)

def gl (s : ByteArray) (f0 : Bool) : Nat → Bool → Bool → Nat → ByteArray × Bool × Bool
  | 0, _, _, _ => failed f0
  | n+1, fold, cl, i =>
    if bt s i = 105 then gl s f0 n (!cl) cl (i+1)
    else if bt s i = 109 ∨ bt s i = 115 ∨ bt s i = 85 then gl s f0 n fold cl (i+1)
    else if bt s i = 45 then (if cl = true then failed f0 else gl s f0 n fold true (i+1))
    else if bt s i = 58 then (s.extract (i+1) s.size, fold, true)
    else if bt s i = 41 then (s.extract (i+1) s.size, fold, false)
    else failed f0

def G (s : ByteArray) (f0 fold cl : Bool) (i : Nat) : ByteArray × Bool × Bool := gl s f0 (s.size - i) fold cl i

theorem G_end (s : ByteArray) (f0 fold cl : Bool) (i : Nat) (h : s.size ≤ i) : G s f0 fold cl i = failed f0 := by
  unfold G
  rw [show s.size - i = 0 from by omega]
  rfl

theorem G_step (s : ByteArray) (f0 fold cl : Bool) (i : Nat) (h : i < s.size) : G s f0 fold cl i =
    if bt s i = 105 then G s f0 (!cl) cl (i+1)
    else if bt s i = 109 ∨ bt s i = 115 ∨ bt s i = 85 then G s f0 fold cl (i+1)
    else if bt s i = 45 then (if cl = true then failed f0 else G s f0 fold true (i+1))
    else if bt s i = 58 then (s.extract (i+1) s.size, fold, true)
    else if bt s i = 41 then (s.extract (i+1) s.size, fold, false)
    else failed f0 := by
  have e : s.size - i = (s.size - (i+1)) + 1 := by omega
  have e2 : G s f0 fold cl i = gl s f0 ((s.size - (i+1)) + 1) fold cl i := by unfold G; rw [e]
  rw [e2]
  rfl

theorem G_i (s : ByteArray) (f0 fold cl : Bool) (i : Nat) (h : i < s.size) (c : bt s i = 105) : G s f0 fold cl i = G s f0 (!cl) cl (i+1) := by
  rw [G_step _ _ _ _ _ h, if_pos c]
theorem G_o (s : ByteArray) (f0 fold cl : Bool) (i : Nat) (h : i < s.size) (c : bt s i = 109 ∨ bt s i = 115 ∨ bt s i = 85) : G s f0 fold cl i = G s f0 fold cl (i+1) := by
  rw [G_step _ _ _ _ _ h, if_neg (by omega), if_pos c]
theorem G_d1 (s : ByteArray) (f0 fold : Bool) (i : Nat) (h : i < s.size) (c : bt s i = 45) : G s f0 fold false i = G s f0 fold true (i+1) := by
  rw [G_step _ _ _ _ _ h, if_neg (by omega), if_neg (by omega), if_pos c, if_neg (by simp)]
theorem G_d2 (s : ByteArray) (f0 fold : Bool) (i : Nat) (h : i < s.size) (c : bt s i = 45) : G s f0 fold true i = failed f0 := by
  rw [G_step _ _ _ _ _ h, if_neg (by omega), if_neg (by omega), if_pos c, if_pos rfl]
theorem G_c (s : ByteArray) (f0 fold cl : Bool) (i : Nat) (h : i < s.size) (c : bt s i = 58) : G s f0 fold cl i = (s.extract (i+1) s.size, fold, true) := by
  rw [G_step _ _ _ _ _ h, if_neg (by omega), if_neg (by omega), if_neg (by omega), if_pos c]
theorem G_p (s : ByteArray) (f0 fold cl : Bool) (i : Nat) (h : i < s.size) (c : bt s i = 41) : G s f0 fold cl i = (s.extract (i+1) s.size, fold, false) := by
  rw [G_step _ _ _ _ _ h, if_neg (by omega), if_neg (by omega), if_neg (by omega), if_neg (by omega), if_pos c]
theorem G_n (s : ByteArray) (f0 fold cl : Bool) (i : Nat) (h : i < s.size) (hf : flagB (bt s i) = false) (h1 : bt s i ≠ 58) (h2 : bt s i ≠ 41) : G s f0 fold cl i = failed f0 := by
  simp [flagB] at hf
  rw [G_step _ _ _ _ _ h, if_neg (by omega), if_neg (by omega), if_neg (by omega), if_neg (by omega), if_neg (by omega)]

theorem flag_cases (c : Int) (h : flagB c = true) : c = 105 ∨ (c = 109 ∨ c = 115 ∨ c = 85) ∨ c = 45 := by
  simp [flagB] at h
  omega

/-- Flags all the way to a bad end, or to the text's end: nothing is read. -/
theorem G_bad (s : ByteArray) (f0 : Bool) : ∀ (d i : Nat) (fold cl : Bool), (∀ m, i ≤ m → m < i + d → flagB (bt s m) = true) → i + d ≤ s.size →
    (i + d = s.size ∨ (flagB (bt s (i + d)) = false ∧ bt s (i + d) ≠ 58 ∧ bt s (i + d) ≠ 41)) → G s f0 fold cl i = failed f0
  | 0, i, fold, cl, _, hle, hb => by
    rcases hb with hb | ⟨h1, h2, h3⟩
    · exact G_end _ _ _ _ _ (by omega)
    · by_cases hlt : i < s.size
      · exact G_n _ _ _ _ _ hlt h1 h2 h3
      · exact G_end _ _ _ _ _ (by omega)
  | d+1, i, fold, cl, hf, hle, hb => by
    have rest : ∀ fold cl, G s f0 fold cl (i+1) = failed f0 := fun fold cl =>
      G_bad s f0 d (i+1) fold cl (fun m h1 h2 => hf m (by omega) (by omega)) (by omega) (by rw [show i + 1 + d = i + (d + 1) from by omega]; exact hb)
    have hlt : i < s.size := by omega
    rcases flag_cases _ (hf i (by omega) (by omega)) with c | c | c
    · rw [G_i _ _ _ _ _ hlt c]; exact rest _ _
    · rw [G_o _ _ _ _ _ hlt c]; exact rest _ _
    · cases cl with
      | false => rw [G_d1 _ _ _ _ hlt c]; exact rest _ _
      | true => exact G_d2 _ _ _ _ hlt c

/-- The fold that the model reckons out of its three counts. -/
def mfold (f0 : Bool) (dash lastI : Int) : Bool := if 0 ≤ lastI then decide (dash < 0) || decide (lastI < dash) else f0

def Minv (s : ByteArray) (f0 : Bool) (k : Nat) (dash dashes lastI : Int) : Prop :=
  dash < k ∧ -1 ≤ dash ∧ lastI < k ∧ -1 ≤ lastI ∧ 0 ≤ dashes ∧ dashes ≤ k ∧ (dashes = 0 ↔ dash < 0) ∧
  (dashes ≤ 1 → G s f0 f0 false 0 = G s f0 (mfold f0 dash lastI) (decide (0 ≤ dash)) k) ∧
  (1 < dashes → G s f0 f0 false 0 = failed f0)

theorem Minv_start (s : ByteArray) (f0 : Bool) : Minv s f0 0 (-1) 0 (-1) := by
  refine ⟨by omega, by omega, by omega, by omega, by omega, by omega, by omega, fun _ => ?_, fun h => absurd h (by omega)⟩
  simp [mfold]

theorem Minv_first {s : ByteArray} {f0 : Bool} {k : Nat} {dash dashes lastI : Int} (h : Minv s f0 k dash dashes lastI) (hk : k < s.size) (c : bt s k = 45) (hd : dash < 0) :
    Minv s f0 (k+1) k (dashes + 1) lastI := by
  obtain ⟨h1, h2, h3, h4, h5, h6, h7, h8, h9⟩ := h
  refine ⟨by omega, by omega, by omega, by omega, by omega, by omega, by omega, fun h => ?_, fun h => absurd h (by omega)⟩
  rw [h8 (by omega)]
  have e1 : decide (0 ≤ dash) = false := by simp; omega
  have e2 : decide (0 ≤ (k : Int)) = true := by simp
  have e3 : mfold f0 (k : Int) lastI = mfold f0 dash lastI := by
    unfold mfold
    by_cases hl : 0 ≤ lastI
    · rw [if_pos hl, if_pos hl]
      have a1 : decide (lastI < (k : Int)) = true := by simp; omega
      have a2 : decide (dash < 0) = true := by simp; omega
      rw [a1, a2]; simp
    · rw [if_neg hl, if_neg hl]
  rw [e1, e2, e3, G_d1 _ _ _ _ hk c]

theorem Minv_more {s : ByteArray} {f0 : Bool} {k : Nat} {dash dashes lastI : Int} (h : Minv s f0 k dash dashes lastI) (hk : k < s.size) (c : bt s k = 45) (hd : 0 ≤ dash) :
    Minv s f0 (k+1) dash (dashes + 1) lastI := by
  obtain ⟨h1, h2, h3, h4, h5, h6, h7, h8, h9⟩ := h
  refine ⟨by omega, by omega, by omega, by omega, by omega, by omega, by omega, fun h => absurd h (by omega), fun _ => ?_⟩
  by_cases hs : dashes ≤ 1
  · have e1 : decide (0 ≤ dash) = true := by simp; omega
    rw [h8 hs, e1, G_d2 _ _ _ _ hk c]
  · exact h9 (by omega)

theorem Minv_i {s : ByteArray} {f0 : Bool} {k : Nat} {dash dashes lastI : Int} (h : Minv s f0 k dash dashes lastI) (hk : k < s.size) (c : bt s k = 105) :
    Minv s f0 (k+1) dash dashes k := by
  obtain ⟨h1, h2, h3, h4, h5, h6, h7, h8, h9⟩ := h
  refine ⟨by omega, by omega, by omega, by omega, by omega, by omega, h7, fun h => ?_, h9⟩
  have e3 : mfold f0 dash (k : Int) = !(decide (0 ≤ dash)) := by
    unfold mfold
    rw [if_pos (by omega)]
    have a1 : decide ((k : Int) < dash) = false := by simp; omega
    rw [a1, Bool.or_false]
    by_cases hd : dash < 0
    · have a2 : decide (0 ≤ dash) = false := by simp; omega
      rw [a2]; simp [hd]
    · have a2 : decide (0 ≤ dash) = true := by simp; omega
      rw [a2]; simp [hd]
  rw [h8 h, e3, G_i _ _ _ _ _ hk c]

theorem Minv_o {s : ByteArray} {f0 : Bool} {k : Nat} {dash dashes lastI : Int} (h : Minv s f0 k dash dashes lastI) (hk : k < s.size) (hf : flagB (bt s k) = true) (c1 : bt s k ≠ 105) (c2 : bt s k ≠ 45) :
    Minv s f0 (k+1) dash dashes lastI := by
  obtain ⟨h1, h2, h3, h4, h5, h6, h7, h8, h9⟩ := h
  refine ⟨by omega, by omega, by omega, by omega, by omega, by omega, h7, fun h => ?_, h9⟩
  have := flag_cases _ hf
  rw [h8 h, G_o _ _ _ _ _ hk (by omega)]

/-- Where the text opens no flags: a capturing group. -/
def plainB (t : ByteArray) : Bool :=
  decide (t.size < 2) || bt t 1 != 63 || (decide (3 ≤ t.size) && bt t 2 == 60) || (decide (4 ≤ t.size) && bt t 2 == 80 && bt t 3 == 60)

/-- What a group's head comes to: the text behind it, the fold in force behind it, whether a group is pushed, whether that group captures. -/
def out (f : Bool) (t : ByteArray) : ByteArray × Bool × Bool × Bool :=
  if plainB t = true then (t.extract 1 t.size, f, true, true)
  else ((G (t.extract 2 t.size) f f false 0).1, (G (t.extract 2 t.size) f f false 0).2.1, (G (t.extract 2 t.size) f f false 0).2.2, false)

theorem out_plain (f : Bool) (t : ByteArray) (h : plainB t = true) : out f t = (t.extract 1 t.size, f, true, true) := by
  unfold out; rw [if_pos h]
theorem out_flags (f : Bool) (t : ByteArray) (h : plainB t = false) {r : ByteArray} {f' p : Bool} (hg : G (t.extract 2 t.size) f f false 0 = (r, f', p)) : out f t = (r, f', p, false) := by
  unfold out; rw [if_neg (by simp [h]), hg]

theorem size_cut (t : ByteArray) : (t.extract 2 t.size).size = t.size - 2 := by simp

theorem bt_cut (t : ByteArray) (i : Nat) : bt (t.extract 2 t.size) i = bt t (2 + i) := by
  unfold bt
  have e : (t.extract 2 t.size).data = t.data.extract 2 t.size := ByteArray.data_extract
  rw [Array.getElem?_toList, Array.getElem?_toList, e, Array.getElem?_extract]
  have h2 : t.size = t.data.size := rfl
  by_cases h : 2 + i < t.data.size
  · rw [if_pos (by omega)]
  · rw [if_neg (by omega), Array.getElem?_eq_none (by omega)]

theorem pl1 {t : ByteArray} (h : 1 < t.size) (c : (((t[1]'h).toNat : Int) != 63) = true) : plainB t = true := by
  have := bt_get t 1 h
  have c' : bt t 1 ≠ 63 := by rw [← this]; simpa using c
  simp [plainB, c']
theorem pl2 {t : ByteArray} (h : 3 ≤ t.size) (c : ((((t.extract 2 t.size)[0]'(by rw [size_cut]; omega)).toNat : Int) == 60) = true) : plainB t = true := by
  have := bt_get (t.extract 2 t.size) 0 (by rw [size_cut]; omega)
  rw [bt_cut] at this
  have c' : bt t 2 = 60 := by rw [← this]; simpa using c
  simp [plainB, c', h]
theorem pl3 {t : ByteArray} (h : 4 ≤ t.size) (c : (((t.extract 2 t.size)[0]'(by rw [size_cut]; omega)).toNat : Int) = 80) (d : ((((t.extract 2 t.size)[1]'(by rw [size_cut]; omega)).toNat : Int) == 60) = true) : plainB t = true := by
  have e1 := bt_get (t.extract 2 t.size) 0 (by rw [size_cut]; omega)
  have e2 := bt_get (t.extract 2 t.size) 1 (by rw [size_cut]; omega)
  rw [bt_cut] at e1 e2
  have c' : bt t 2 = 80 := by rw [← e1]; exact c
  have d' : bt t 3 = 60 := by rw [← e2]; simpa using d
  simp [plainB, c', d', h]
theorem np0 {t : ByteArray} (h : plainB t = false) : 2 ≤ t.size ∧ bt t 1 = 63 ∧ (3 ≤ t.size → bt t 2 ≠ 60) ∧ (4 ≤ t.size → bt t 2 = 80 → bt t 3 ≠ 60) := by
  simp [plainB] at h
  omega

end Go.Proofs.Qxb6604067a.psg
