/-
  The plain mathematics of the law on SQL names: no Go in sight.
-/
namespace Go.Proofs.Qxb6605164a.idn

def bt (s : ByteArray) (i : Nat) : Int := ((s.data.toList[i]?.getD 0).toNat : Int)

theorem bt_get (s : ByteArray) (i : Nat) (h : i < s.size) : ((s[i]'h).toNat : Int) = bt s i := by
  have h' : i < s.data.size := h
  have e : s.data.toList[i]? = some (s[i]'h) := by
    rw [Array.getElem?_toList, Array.getElem?_eq_getElem h']; rfl
  unfold bt
  rw [e]; rfl

/-- A byte that may open a name. -/
def startB (c : Int) : Bool := c == 95 || (decide (97 ≤ c) && decide (c ≤ 122)) || (decide (65 ≤ c) && decide (c ≤ 90))
def decB (c : Int) : Bool := decide (48 ≤ c) && decide (c ≤ 57)
/-- A byte that may stand at place i. -/
def okAt (s : ByteArray) (i : Nat) : Bool := startB (bt s i) || (decB (bt s i) && decide (0 < i))
/-- The first k bytes may stand where they stand. -/
def good (s : ByteArray) : Nat → Bool
  | 0 => true
  | k + 1 => good s k && okAt s k
/-- A plain SQL name. -/
def nameB (s : ByteArray) : Bool := decide (1 ≤ s.size) && decide (s.size ≤ 63) && good s s.size

theorem good_stop {s : ByteArray} {k : Nat} (h : okAt s k = false) : ∀ n, k < n → good s n = false
  | 0, hn => absurd hn (Nat.not_lt_zero _)
  | n + 1, hn => by
    show (good s n && okAt s n) = false
    rcases Nat.lt_succ_iff_lt_or_eq.1 hn with h' | h'
    · rw [good_stop h n h']; rfl
    · rw [← h', h]; simp

theorem name_small {s : ByteArray} (h : s.size = 0) : nameB s = false := by unfold nameB; rw [decide_eq_false (by omega)]; rfl
theorem name_big {s : ByteArray} (h : 63 < s.size) : nameB s = false := by
  unfold nameB; rw [decide_eq_false (show ¬ s.size ≤ 63 by omega)]; simp
theorem name_mid {s : ByteArray} (h1 : 1 ≤ s.size) (h2 : s.size ≤ 63) : nameB s = good s s.size := by
  unfold nameB; rw [decide_eq_true h1, decide_eq_true h2]; rfl

/-- Where the three-state automaton stands after k bytes: 0 nothing read, 1 inside a name, 2 refused. -/
def state (s : ByteArray) (k : Nat) : Int := if k = 0 then 0 else if good s k = true then 1 else 2

theorem state_zero (s : ByteArray) : state s 0 = 0 := rfl
theorem state_cases (s : ByteArray) (k : Nat) : (k = 0 ∧ state s k = 0) ∨ (0 < k ∧ good s k = true ∧ state s k = 1) ∨ (0 < k ∧ good s k = false ∧ state s k = 2) := by
  unfold state
  by_cases h : k = 0
  · left; rw [if_pos h]; exact ⟨h, rfl⟩
  · right
    cases hg : good s k
    · right; rw [if_neg h, if_neg (by simp)]; exact ⟨by omega, rfl, rfl⟩
    · left; rw [if_neg h, if_pos rfl]; exact ⟨by omega, rfl, rfl⟩
theorem state_succ (s : ByteArray) (k : Nat) : state s (k + 1) = if good s k = true ∧ okAt s k = true then 1 else 2 := by
  unfold state
  rw [if_neg (by omega)]
  show (if (good s k && okAt s k) = true then (1 : Int) else 2) = _
  simp only [Bool.and_eq_true]
theorem state_one {s : ByteArray} {k : Nat} (h1 : good s k = true) (h2 : okAt s k = true) : state s (k + 1) = 1 := by rw [state_succ, if_pos ⟨h1, h2⟩]
theorem state_two {s : ByteArray} {k : Nat} (h : good s k = false ∨ okAt s k = false) : state s (k + 1) = 2 := by
  rw [state_succ, if_neg]
  rintro ⟨h1, h2⟩
  rcases h with h | h <;> simp_all
theorem state_end {s : ByteArray} (h : s.size ≤ 63) : (state s s.size == 1) = nameB s := by
  rcases state_cases s s.size with ⟨h0, e⟩ | ⟨h0, hg, e⟩ | ⟨h0, hg, e⟩
  · rw [e, name_small h0]; rfl
  · rw [e, name_mid h0 h, hg]; rfl
  · rw [e, name_mid h0 h, hg]; rfl
theorem okAt_first {s : ByteArray} {b : Bool} (h : startB (bt s 0) = b) : okAt s 0 = b := by simp [okAt, h]
theorem okAt_later {s : ByteArray} {k : Nat} (hk : 0 < k) : okAt s k = (startB (bt s k) || decB (bt s k)) := by simp [okAt, hk]

end Go.Proofs.Qxb6605164a.idn
