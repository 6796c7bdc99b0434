/- The plain law of 'quoted': where it ends, and how many line ends it passes. -/
import Derived.Test.Qxb6000816aLaw
namespace Go.Proofs.Qxb6000816a
set_option linter.unusedVariables false
set_option linter.unusedSimpArgs false

/-- d bytes q stand from p on. -/
def hp (c : Nat → Int) (n p : Nat) (q : Int) (d : Nat) : Bool := decide (p + d ≤ n ∧ ∀ t, t < d → c (p + t) = q)
theorem hp_iff {c : Nat → Int} {n p : Nat} {q : Int} {d : Nat} : hp c n p q d = true ↔ p + d ≤ n ∧ ∀ t, t < d → c (p + t) = q := by unfold hp; exact decide_eq_true_iff

def bend (c : Nat → Int) (n : Nat) (q : Int) (d : Nat) : Nat → Nat → Nat
  | 0, p => p
  | k + 1, p => if n ≤ p then p else if hp c n p q d = true then p else if q = 34 ∧ c p = 92 then bend c n q d k (p + 2) else bend c n q d k (p + 1)

theorem bend_succ (c : Nat → Int) (n : Nat) (q : Int) (d k p : Nat) : bend c n q d (k + 1) p = if n ≤ p then p else if hp c n p q d = true then p else if q = 34 ∧ c p = 92 then bend c n q d k (p + 2) else bend c n q d k (p + 1) := rfl

theorem bend_fuel (c : Nat → Int) (n : Nat) (q : Int) (d : Nat) : ∀ k p, n - p ≤ k → bend c n q d (k + 1) p = bend c n q d k p := by
  intro k
  induction k with
  | zero => intro p h; rw [bend_succ, if_pos (by omega)]; rfl
  | succ k ih =>
    intro p h
    rw [bend_succ c n q d (k + 1) p, bend_succ c n q d k p]
    by_cases h1 : n ≤ p
    · rw [if_pos h1, if_pos h1]
    · rw [if_neg h1, if_neg h1, ih (p + 2) (by omega), ih (p + 1) (by omega)]

/-- Where the body ends. -/
def body (c : Nat → Int) (n : Nat) (q : Int) (d p : Nat) : Nat := bend c n q d (n - p) p

theorem body_out {c : Nat → Int} {n : Nat} {q : Int} {d p : Nat} (h : n ≤ p) : body c n q d p = p := by
  unfold body; rw [show n - p = 0 by omega, bend]
theorem body_hit {c : Nat → Int} {n : Nat} {q : Int} {d p : Nat} (h : p < n) (hh : hp c n p q d = true) : body c n q d p = p := by
  unfold body; rw [show n - p = (n - (p + 1)) + 1 by omega, bend, if_neg (by omega), if_pos hh]
theorem body_esc {c : Nat → Int} {n : Nat} {q : Int} {d p : Nat} (h : p < n) (hh : hp c n p q d = false) (he : q = 34 ∧ c p = 92) : body c n q d p = body c n q d (p + 2) := by
  unfold body
  rw [show n - p = (n - (p + 1)) + 1 by omega, bend, if_neg (by omega), if_neg (by rw [hh]; simp), if_pos he]
  by_cases h2 : p + 2 ≤ n
  · rw [show n - (p + 1) = (n - (p + 2)) + 1 by omega]
    exact bend_fuel c n q d _ _ (Nat.le_refl _)
  · rw [show n - (p + 1) = 0 by omega, show n - (p + 2) = 0 by omega]
theorem body_one {c : Nat → Int} {n : Nat} {q : Int} {d p : Nat} (h : p < n) (hh : hp c n p q d = false) (he : ¬ (q = 34 ∧ c p = 92)) : body c n q d p = body c n q d (p + 1) := by
  unfold body
  rw [show n - p = (n - (p + 1)) + 1 by omega, bend, if_neg (by omega), if_neg (by rw [hh]; simp), if_neg he]

def tail (c : Nat → Int) (n : Nat) (q : Int) : Nat → Nat → Nat
  | 0, p => p
  | k + 1, p => if p < n ∧ c p = q then tail c n q k (p + 1) else p
/-- Behind the closing quotes. -/
def tl (c : Nat → Int) (n : Nat) (q : Int) (p : Nat) : Nat := tail c n q (n - p) p
theorem tl_out {c : Nat → Int} {n : Nat} {q : Int} {p : Nat} (h : n ≤ p) : tl c n q p = p := by unfold tl; rw [show n - p = 0 by omega, tail]
theorem tl_stop {c : Nat → Int} {n : Nat} {q : Int} {p : Nat} (h : p < n) (hc : c p ≠ q) : tl c n q p = p := by
  unfold tl; rw [show n - p = (n - (p + 1)) + 1 by omega, tail, if_neg (fun x => hc x.2)]
theorem tl_go {c : Nat → Int} {n : Nat} {q : Int} {p : Nat} (h : p < n) (hc : c p = q) : tl c n q p = tl c n q (p + 1) := by
  unfold tl; rw [show n - p = (n - (p + 1)) + 1 by omega, tail, if_pos ⟨h, hc⟩]

/-- Where 'quoted' ends, begun at i. -/
def qend (c : Nat → Int) (n : Nat) (q : Int) (i : Nat) : Nat := if hp c n i q 3 = true then tl c n q (body c n q 3 (i + 3) + 3) else body c n q 1 (i + 1) + 1

theorem cnt_skip {c : Nat → Int} {a p : Nat} : ∀ d, (∀ t, t < d → c (p + t) ≠ 10) → cnt c a (p + d) = cnt c a p
  | 0, _ => rfl
  | d + 1, h => by rw [show p + (d + 1) = (p + d) + 1 by omega, cnt_no (h d (by omega)), cnt_skip d (fun t ht => h t (by omega))]
end Go.Proofs.Qxb6000816a
