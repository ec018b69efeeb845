/-
  The plain mathematics of the law on the scan of a JSON string: no Go in sight. Z k: the k-th byte of a text of n bytes.
-/
namespace Go.Proofs.Qxb6604120a.scn

/-- How many backslashes stand in a row right before j, back to (not with) a. -/
def run (Z : Nat → Int) (a : Nat) : Nat → Nat
  | 0 => 0
  | j + 1 => if a < j ∧ Z j = 92 then run Z a j + 1 else 0

/-- What the scan comes to from p on (f: fuel): whether it closes, and where it then stands. -/
def sc (Z : Nat → Int) (n : Nat) : Nat → Nat → Bool × Nat
  | 0, _ => (false, n)
  | f + 1, p => if p < n then (if Z p = 34 then (true, p + 1) else if Z p = 92 ∧ p + 1 < n then sc Z n f (p + 2) else sc Z n f (p + 1)) else (false, n)

def S (Z : Nat → Int) (n p : Nat) : Bool × Nat := sc Z n (n - p) p

theorem sc_more (Z : Nat → Int) (n : Nat) : ∀ f g p, n - p ≤ f → n - p ≤ g → sc Z n f p = sc Z n g p
  | 0, 0, p, _, _ => rfl
  | 0, g + 1, p, h, _ => by simp only [sc]; rw [if_neg (by omega)]
  | f + 1, 0, p, _, h => by simp only [sc]; rw [if_neg (by omega)]
  | f + 1, g + 1, p, h1, h2 => by
    simp only [sc]
    by_cases hp : p < n
    · rw [if_pos hp, if_pos hp]
      by_cases h3 : Z p = 34
      · rw [if_pos h3, if_pos h3]
      · rw [if_neg h3, if_neg h3]
        by_cases h4 : Z p = 92 ∧ p + 1 < n
        · rw [if_pos h4, if_pos h4]; exact sc_more Z n f g (p + 2) (by omega) (by omega)
        · rw [if_neg h4, if_neg h4]; exact sc_more Z n f g (p + 1) (by omega) (by omega)
    · rw [if_neg hp, if_neg hp]

theorem S_end {Z : Nat → Int} {n p : Nat} (h : n ≤ p) : S Z n p = (false, n) := by
  unfold S; rw [show n - p = 0 from by omega]; rfl
theorem S_step {Z : Nat → Int} {n p : Nat} (h : p < n) : S Z n p = (if Z p = 34 then (true, p + 1) else if Z p = 92 ∧ p + 1 < n then S Z n (p + 2) else S Z n (p + 1)) := by
  have e : S Z n p = sc Z n ((n - (p + 1)) + 1) p := by unfold S; rw [show n - p = (n - (p + 1)) + 1 from by omega]
  rw [e]
  simp only [sc]
  rw [if_pos h]
  unfold S
  rw [sc_more Z n (n - (p + 1)) (n - (p + 2)) (p + 2) (by omega) (by omega)]
theorem S_quote {Z : Nat → Int} {n p : Nat} (h : p < n) (c : Z p = 34) : S Z n p = (true, p + 1) := by rw [S_step h, if_pos c]
theorem S_esc {Z : Nat → Int} {n p : Nat} (h : p + 1 < n) (c : Z p = 92) : S Z n p = S Z n (p + 2) := by rw [S_step (by omega), if_neg (by omega), if_pos ⟨c, h⟩]
theorem S_last {Z : Nat → Int} {n p : Nat} (h : p < n) (h1 : ¬ p + 1 < n) (c : Z p = 92) : S Z n p = S Z n (p + 1) := by rw [S_step (by omega), if_neg (by omega), if_neg (by omega)]
theorem S_plain {Z : Nat → Int} {n p : Nat} (h : p < n) (c : Z p ≠ 34) (d : Z p ≠ 92) : S Z n p = S Z n (p + 1) := by rw [S_step (by omega), if_neg (by omega), if_neg (by omega)]

theorem run_back {Z : Nat → Int} {a j : Nat} (h : a < j) (c : Z j = 92) : run Z a (j + 1) = run Z a j + 1 := by
  show (if a < j ∧ Z j = 92 then run Z a j + 1 else 0) = _
  rw [if_pos ⟨h, c⟩]
theorem run_other {Z : Nat → Int} {a j : Nat} (c : Z j ≠ 92) : run Z a (j + 1) = 0 := by
  show (if a < j ∧ Z j = 92 then run Z a j + 1 else 0) = _
  rw [if_neg (fun h => c h.2)]
theorem run_start {Z : Nat → Int} {a j : Nat} (h : j ≤ a) : run Z a (j + 1) = 0 := by
  show (if a < j ∧ Z j = 92 then run Z a j + 1 else 0) = _
  rw [if_neg (by omega)]
theorem run_le (Z : Nat → Int) (a : Nat) : ∀ j, run Z a j ≤ j
  | 0 => Nat.le_refl _
  | j + 1 => by
    show (if a < j ∧ Z j = 92 then run Z a j + 1 else 0) ≤ _
    have := run_le Z a j
    split <;> omega

/-- The first quote behind an even run closes. -/
theorem S_closes {Z : Nat → Int} {n a j : Nat} (hj : j < n) (hq : Z j = 34) (he : run Z a j % 2 = 0) (hodd : ∀ i, a < i → i < j → Z i = 34 → run Z a i % 2 = 1) :
    ∀ d p, j - p ≤ d → a < p → p ≤ j → run Z a p % 2 = 0 → S Z n p = (true, j + 1)
  | 0, p, hd, ha, hp, hr => by
    obtain rfl : p = j := by omega
    exact S_quote hj hq
  | d + 1, p, hd, ha, hp, hr => by
    by_cases hpj : p = j
    · subst hpj; exact S_quote hj hq
    have hlt : p < j := by omega
    have hn34 : Z p ≠ 34 := fun e => by have := hodd p ha hlt e; omega
    by_cases h92 : Z p = 92
    · have h1 := run_back ha h92
      have hne : p + 1 ≠ j := fun e => by subst e; omega
      rw [S_esc (by omega) h92]
      refine S_closes hj hq he hodd d (p + 2) (by omega) (by omega) (by omega) ?_
      by_cases h2 : Z (p + 1) = 92
      · rw [run_back (by omega) h2]; omega
      · rw [run_other h2]
    · rw [S_plain (by omega) hn34 h92]
      exact S_closes hj hq he hodd d (p + 1) (by omega) (by omega) (by omega) (by rw [run_other h92])

/-- No quote behind an even run: the scan runs to the end. -/
theorem S_open {Z : Nat → Int} {n a : Nat} (hodd : ∀ i, a < i → i < n → Z i = 34 → run Z a i % 2 = 1) :
    ∀ d p, n - p ≤ d → a < p → run Z a p % 2 = 0 → S Z n p = (false, n)
  | 0, p, hd, ha, hr => S_end (by omega)
  | d + 1, p, hd, ha, hr => by
    by_cases hp : n ≤ p
    · exact S_end hp
    have hlt : p < n := by omega
    have hn34 : Z p ≠ 34 := fun e => by have := hodd p ha hlt e; omega
    by_cases h92 : Z p = 92
    · have h1 := run_back ha h92
      by_cases hl : p + 1 < n
      · rw [S_esc hl h92]
        refine S_open hodd d (p + 2) (by omega) (by omega) ?_
        by_cases h2 : Z (p + 1) = 92
        · rw [run_back (by omega) h2]; omega
        · rw [run_other h2]
      · rw [S_last hlt hl h92]; exact S_end (by omega)
    · rw [S_plain (by omega) hn34 h92]
      exact S_open hodd d (p + 1) (by omega) (by omega) (by rw [run_other h92])

theorem model_closes {Z : Nat → Int} {n a j : Nat} (ha : a < j) (hj : j < n) (hq : Z j = 34) (he : run Z a j % 2 = 0) (hodd : ∀ i, a < i → i < j → Z i = 34 → run Z a i % 2 = 1) : S Z n (a + 1) = (true, j + 1) :=
  S_closes hj hq he hodd (j - (a + 1)) (a + 1) (Nat.le_refl _) (Nat.lt_succ_self a) ha (by rw [run_start (Nat.le_refl a)])
theorem model_open {Z : Nat → Int} {n a : Nat} (hodd : ∀ i, a < i → i < n → Z i = 34 → run Z a i % 2 = 1) : S Z n (a + 1) = (false, n) :=
  S_open hodd (n - (a + 1)) (a + 1) (Nat.le_refl _) (Nat.lt_succ_self a) (by rw [run_start (Nat.le_refl a)])

/-- The whole answer, at a position that may lie past the end. -/
def ans (Z : Nat → Int) (n : Nat) (at_ : Int) : Bool × Int :=
  if at_ < n ∧ Z at_.toNat = 34 then ((S Z n (at_.toNat + 1)).1, ((S Z n (at_.toNat + 1)).2 : Int)) else (false, at_)

theorem ans_past {Z : Nat → Int} {n : Nat} {i : Int} (h : ¬ i < n) : ans Z n i = (false, i) := by unfold ans; rw [if_neg (fun c => h c.1)]
theorem ans_other {Z : Nat → Int} {n k : Nat} (h : Z k ≠ 34) : ans Z n (k : Int) = (false, (k : Int)) := by
  unfold ans; rw [if_neg (fun c => h (by simpa using c.2))]
theorem ans_quote {Z : Nat → Int} {n k : Nat} (hk : k < n) (h : Z k = 34) {b : Bool} {e : Nat} (hS : S Z n (k + 1) = (b, e)) : ans Z n (k : Int) = (b, (e : Int)) := by
  unfold ans
  rw [if_pos ⟨by omega, by simpa using h⟩]
  simp only [Int.toNat_natCast]
  rw [hS]

end Go.Proofs.Qxb6604120a.scn
