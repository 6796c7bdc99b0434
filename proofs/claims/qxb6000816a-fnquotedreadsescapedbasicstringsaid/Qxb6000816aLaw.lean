/- Plain laws over a text told by its bytes: a function of the place. No Go in sight. -/
namespace Go.Proofs.Qxb6000816a
set_option linter.unusedVariables false
set_option linter.unusedSimpArgs false

/-- How many line ends lie in [a, b). -/
def cnt (c : Nat → Int) (a : Nat) : Nat → Nat
  | 0 => 0
  | b + 1 => cnt c a b + if a ≤ b ∧ c b = 10 then 1 else 0

theorem cnt_self (c : Nat → Int) (a : Nat) : ∀ b, b ≤ a → cnt c a b = 0
  | 0, _ => rfl
  | b + 1, h => by rw [cnt, cnt_self c a b (by omega), if_neg (by omega)]
theorem cnt_nl {c : Nat → Int} {a b : Nat} (h : a ≤ b) (hc : c b = 10) : cnt c a (b + 1) = cnt c a b + 1 := by rw [cnt, if_pos ⟨h, hc⟩]
theorem cnt_no {c : Nat → Int} {a b : Nat} (hc : c b ≠ 10) : cnt c a (b + 1) = cnt c a b := by rw [cnt, if_neg (fun h => hc h.2)]; rfl
theorem cnt_le (c : Nat → Int) (a : Nat) : ∀ b, cnt c a b ≤ b
  | 0 => Nat.le_refl _
  | b + 1 => by rw [cnt]; have := cnt_le c a b; split <;> omega

/-- Where skipping comes to: 'com': in a comment. -/
def skp (c : Nat → Int) (n : Nat) : Nat → Nat → Bool → Nat
  | 0, p, _ => p
  | k + 1, p, com => if n ≤ p then p else
      if com then (if c p = 10 then skp c n k (p + 1) false else skp c n k (p + 1) true)
      else if c p = 35 then skp c n k (p + 1) true
      else if c p = 32 ∨ c p = 9 ∨ c p = 13 ∨ c p = 10 then skp c n k (p + 1) false
      else p
def skip (c : Nat → Int) (n p : Nat) (com : Bool) : Nat := skp c n (n - p) p com

theorem skip_end (c : Nat → Int) (n p : Nat) (com : Bool) (h : n ≤ p) : skip c n p com = p := by
  unfold skip
  rw [show n - p = 0 by omega]
  rfl
theorem skip_com_nl {c : Nat → Int} {n p : Nat} (h : p < n) (hc : c p = 10) : skip c n p true = skip c n (p + 1) false := by
  unfold skip
  rw [show n - p = (n - (p + 1)) + 1 by omega, skp, if_neg (by omega), if_pos rfl, if_pos hc]
theorem skip_com {c : Nat → Int} {n p : Nat} (h : p < n) (hc : c p ≠ 10) : skip c n p true = skip c n (p + 1) true := by
  unfold skip
  rw [show n - p = (n - (p + 1)) + 1 by omega, skp, if_neg (by omega), if_pos rfl, if_neg hc]
theorem skip_hash {c : Nat → Int} {n p : Nat} (h : p < n) (hc : c p = 35) : skip c n p false = skip c n (p + 1) true := by
  unfold skip
  rw [show n - p = (n - (p + 1)) + 1 by omega, skp, if_neg (by omega), if_neg (by simp), if_pos hc]
theorem skip_blank {c : Nat → Int} {n p : Nat} (h : p < n) (hc : c p = 32 ∨ c p = 9 ∨ c p = 13 ∨ c p = 10) : skip c n p false = skip c n (p + 1) false := by
  unfold skip
  rw [show n - p = (n - (p + 1)) + 1 by omega, skp, if_neg (by omega), if_neg (by simp), if_neg (by omega), if_pos hc]
theorem skip_stop {c : Nat → Int} {n p : Nat} (h : p < n) (h1 : c p ≠ 35) (h2 : ¬ (c p = 32 ∨ c p = 9 ∨ c p = 13 ∨ c p = 10)) : skip c n p false = p := by
  unfold skip
  rw [show n - p = (n - (p + 1)) + 1 by omega, skp, if_neg (by omega), if_neg (by simp), if_neg h1, if_neg h2]
/-- A comment's line end is a blank all the same. -/
theorem skip_com_at_nl {c : Nat → Int} {n p : Nat} (h : p < n) (hc : c p = 10) : skip c n p true = skip c n p false := by
  rw [skip_com_nl h hc, skip_blank h (.inr (.inr (.inr hc)))]
end Go.Proofs.Qxb6000816a
