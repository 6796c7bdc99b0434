/- Plain laws on a figure's text, told by its bytes: where its parts lie, and the number that its digits spell. No Go in sight. -/
namespace Go.Proofs.Qxb6601746a
set_option linter.unusedVariables false
set_option linter.unusedSimpArgs false

/-- Where the sign ends. -/
def st (c : Nat → Int) (n : Nat) : Nat := if 0 < n ∧ c 0 = 45 then 1 else 0
theorem st_le (c : Nat → Int) (n : Nat) : st c n ≤ n := by unfold st; split <;> omega
theorem st_one (c : Nat → Int) (n : Nat) : st c n ≤ 1 := by unfold st; split <;> omega

def fnd (c : Nat → Int) : Nat → Nat → Nat
  | 0, p => p
  | k + 1, p => if c p = 46 then p else fnd c k (p + 1)
/-- The first point from p on, or the end. -/
def pt (c : Nat → Int) (n p : Nat) : Nat := fnd c (n - p) p
theorem pt_out {c : Nat → Int} {n p : Nat} (h : n ≤ p) : pt c n p = p := by unfold pt; rw [show n - p = 0 by omega, fnd]
theorem pt_hit {c : Nat → Int} {n p : Nat} (h : p < n) (hc : c p = 46) : pt c n p = p := by
  unfold pt; rw [show n - p = (n - (p + 1)) + 1 by omega, fnd, if_pos hc]
theorem pt_go {c : Nat → Int} {n p : Nat} (h : p < n) (hc : c p ≠ 46) : pt c n p = pt c n (p + 1) := by
  unfold pt; rw [show n - p = (n - (p + 1)) + 1 by omega, fnd, if_neg hc]
theorem pt_spec {c : Nat → Int} {n : Nat} : ∀ m p, n - p = m → p ≤ n → p ≤ pt c n p ∧ pt c n p ≤ n ∧ (pt c n p < n → c (pt c n p) = 46) ∧ ∀ t, p ≤ t → t < pt c n p → c t ≠ 46
  | 0, p, h, hp => by rw [pt_out (by omega)]; exact ⟨Nat.le_refl _, hp, fun h => by omega, fun t h1 h2 => by omega⟩
  | m + 1, p, h, hp => by
    by_cases hc : c p = 46
    · rw [pt_hit (by omega) hc]; exact ⟨Nat.le_refl _, hp, fun _ => hc, fun t h1 h2 => by omega⟩
    · rw [pt_go (by omega) hc]
      obtain ⟨h1, h2, h3, h4⟩ := pt_spec (c := c) (n := n) m (p + 1) (by omega) (by omega)
      exact ⟨by omega, h2, h3, fun t ht1 ht2 => by by_cases e : t = p; · subst e; exact hc
                                                   · exact h4 t (by omega) ht2⟩
/-- The point. -/
def P (c : Nat → Int) (n : Nat) : Nat := pt c n (st c n)
theorem P_ge (c : Nat → Int) (n : Nat) : st c n ≤ P c n := (pt_spec _ _ rfl (st_le c n)).1
theorem P_le (c : Nat → Int) (n : Nat) : P c n ≤ n := (pt_spec _ _ rfl (st_le c n)).2.1
theorem P_at {c : Nat → Int} {n : Nat} (h : P c n < n) : c (P c n) = 46 := (pt_spec _ _ rfl (st_le c n)).2.2.1 h
theorem P_no {c : Nat → Int} {n t : Nat} (h1 : st c n ≤ t) (h2 : t < P c n) : c t ≠ 46 := (pt_spec _ _ rfl (st_le c n)).2.2.2 t h1 h2

def dig (x : Int) : Prop := 48 ≤ x ∧ x ≤ 57
/-- The text is a figure. -/
def Ok (c : Nat → Int) (n : Nat) : Prop := st c n < P c n ∧ (∀ t, st c n ≤ t → t < P c n → dig (c t)) ∧ (∀ t, P c n < t → t < n → dig (c t)) ∧ (P c n < n → P c n + 1 < n)

/-- The digit number j. -/
def D (c : Nat → Int) (n j : Nat) : Int := if st c n + j < P c n then c (st c n + j) - 48 else c (st c n + j + 1) - 48
def num (f : Nat → Int) : Nat → Int
  | 0 => 0
  | k + 1 => num f k * 10 + f k
/-- How many digits. -/
def len (c : Nat → Int) (n : Nat) : Nat := (P c n - st c n) + (n - (P c n + 1))

theorem Ok.dig {c : Nat → Int} {n : Nat} (h : Ok c n) {j : Nat} (hj : j < len c n) : 0 ≤ D c n j ∧ D c n j ≤ 9 := by
  obtain ⟨h1, h2, h3, h4⟩ := h
  have := P_le c n
  unfold len at hj
  unfold D
  split
  · have := h2 (st c n + j) (by omega) (by omega)
    unfold Qxb6601746a.dig at this; omega
  · have := h3 (st c n + j + 1) (by omega) (by omega)
    unfold Qxb6601746a.dig at this; omega

theorem num_bd {f : Nat → Int} : ∀ k, (∀ j, j < k → 0 ≤ f j ∧ f j ≤ 9) → 0 ≤ num f k ∧ num f k + 1 ≤ 10 ^ k
  | 0, _ => ⟨Int.le_refl 0, Int.le_refl 1⟩
  | k + 1, h => by
    obtain ⟨h1, h2⟩ := num_bd k (fun j hj => h j (by omega))
    have := h k (by omega)
    rw [num, Int.pow_succ]
    omega

theorem pow_le18 {k : Nat} (h : k ≤ 18) : (10 : Int) ^ k ≤ 1000000000000000000 := by
  have : (10 : Int) ^ k ≤ 10 ^ 18 := by
    have := Nat.pow_le_pow_right (show 0 < 10 by decide) h
    have h2 : ((10 ^ k : Nat) : Int) ≤ ((10 ^ 18 : Nat) : Int) := Int.ofNat_le.mpr this
    simpa using h2
  have e : (10 : Int) ^ 18 = 1000000000000000000 := by decide
  omega
theorem num_18 {f : Nat → Int} {k : Nat} (hk : k ≤ 18) (h : ∀ j, j < k → 0 ≤ f j ∧ f j ≤ 9) : 0 ≤ num f k ∧ num f k < 1000000000000000000 := by
  have h1 := num_bd k h
  have h2 := pow_le18 hk
  omega

/-- The answer, as both tell it. -/
def Rel (c : Nat → Int) (n : Nat) (A E G : Int) (b : Bool) : Prop :=
  (b = true ∧ Ok c n ∧ A = (if st c n = 1 then - num (D c n) (min (len c n) 18) else num (D c n) (min (len c n) 18)) ∧ E = -((n - (P c n + 1) : Nat) : Int) ∧ G = (len c n : Int)) ∨ (b = false ∧ ¬ Ok c n ∧ A = 0 ∧ E = 0 ∧ G = 0)
theorem Rel.same {c : Nat → Int} {n : Nat} {A E G A' E' G' : Int} {b b' : Bool} (h : Rel c n A E G b) (h' : Rel c n A' E' G' b') : A = A' ∧ E = E' ∧ G = G' ∧ b = b' := by
  rcases h with ⟨h1, h2, h3, h4, h5⟩ | ⟨h1, h2, h3, h4, h5⟩ <;> rcases h' with ⟨k1, k2, k3, k4, k5⟩ | ⟨k1, k2, k3, k4, k5⟩
  · exact ⟨h3.trans k3.symm, h4.trans k4.symm, h5.trans k5.symm, h1.trans k1.symm⟩
  · exact absurd h2 k2
  · exact absurd k2 h2
  · exact ⟨h3.trans k3.symm, h4.trans k4.symm, h5.trans k5.symm, h1.trans k1.symm⟩

/-- What 'scan' holds at p: its point, its digits' count, its coefficient. -/
def Inv (c : Nat → Int) (n p : Nat) (point : Int) (dg : Nat) (A : Int) : Prop :=
  st c n ≤ p ∧ p ≤ n ∧ (∀ t, st c n ≤ t → t < p → t ≠ P c n → dig (c t)) ∧ A = num (D c n) (min dg 18) ∧
  ((p ≤ P c n ∧ point = -1 ∧ dg = p - st c n) ∨ (P c n < p ∧ st c n < P c n ∧ point = (P c n : Int) ∧ dg = p - st c n - 1))

theorem Inv.start (c : Nat → Int) (n : Nat) : Inv c n (st c n) (-1) 0 0 :=
  ⟨Nat.le_refl _, st_le c n, fun t h1 h2 => by omega, rfl, .inl ⟨P_ge c n, rfl, by omega⟩⟩

theorem Inv.digits {c : Nat → Int} {n p : Nat} {point A : Int} {dg : Nat} (h : Inv c n p point dg A) : ∀ j, j < dg → 0 ≤ D c n j ∧ D c n j ≤ 9 := by
  intro j hj
  obtain ⟨h1, h2, h3, h4, h5⟩ := h
  have hP := P_le c n
  unfold D
  split
  · have := h3 (st c n + j) (by omega) (by omega) (by omega)
    unfold Qxb6601746a.dig at this; omega
  · have := h3 (st c n + j + 1) (by omega) (by omega) (by omega)
    unfold Qxb6601746a.dig at this; omega
theorem Inv.bd {c : Nat → Int} {n p : Nat} {point A : Int} {dg : Nat} (h : Inv c n p point dg A) : 0 ≤ A ∧ A < 1000000000000000000 := by
  rw [h.2.2.2.1]
  exact num_18 (by omega) (fun j hj => h.digits j (by omega))
theorem Inv.bd17 {c : Nat → Int} {n p : Nat} {point A : Int} {dg : Nat} (h : Inv c n p point dg A) (hd : dg < 18) : 0 ≤ A ∧ A < 100000000000000000 := by
  rw [h.2.2.2.1, Nat.min_eq_left (by omega)]
  have h1 := num_bd dg (fun j hj => h.digits j (by omega))
  have h2 : (10 : Int) ^ dg ≤ 10 ^ 17 := by
    have := Nat.pow_le_pow_right (show 0 < 10 by decide) (show dg ≤ 17 by omega)
    have h2 : ((10 ^ dg : Nat) : Int) ≤ ((10 ^ 17 : Nat) : Int) := Int.ofNat_le.mpr this
    simpa using h2
  have e : (10 : Int) ^ 17 = 100000000000000000 := by decide
  omega

theorem Inv.digit {c : Nat → Int} {n p : Nat} {point A : Int} {dg : Nat} (h : Inv c n p point dg A) (hp : p < n) (hd : dig (c p)) : Inv c n (p + 1) point (dg + 1) (if dg < 18 then A * 10 + (c p - 48) else A) := by
  have hb := h
  obtain ⟨h1, h2, h3, h4, h5⟩ := h
  have hPp : p ≠ P c n := fun e => by
    have := P_at (c := c) (n := n) (by omega)
    rw [← e] at this; unfold dig at hd; omega
  have hD : D c n dg = c p - 48 := by
    unfold D
    rcases h5 with ⟨h5, _, h7⟩ | ⟨h5, h6, _, h7⟩
    · rw [if_pos (by omega), show st c n + dg = p by omega]
    · rw [if_neg (by omega), show st c n + dg + 1 = p by omega]
  refine ⟨by omega, by omega, fun t ht1 ht2 ht3 => ?_, ?_, ?_⟩
  · by_cases e : t = p
    · subst e; exact hd
    · exact h3 t ht1 (by omega) ht3
  · by_cases h18 : dg < 18
    · rw [if_pos h18, Nat.min_eq_left (by omega), num, hD, h4, Nat.min_eq_left (by omega)]
    · rw [if_neg h18, h4, Nat.min_eq_right (by omega), Nat.min_eq_right (by omega)]
  · rcases h5 with ⟨h5, h6, h7⟩ | ⟨h5, h6, h7, h8⟩
    · exact .inl ⟨by omega, h6, by omega⟩
    · exact .inr ⟨by omega, h6, h7, by omega⟩
theorem Inv.point {c : Nat → Int} {n p : Nat} {A : Int} {dg : Nat} (h : Inv c n p (-1) dg A) (hp : p < n) (hd : c p = 46) (hs : st c n < p) : Inv c n (p + 1) p dg A := by
  obtain ⟨h1, h2, h3, h4, h5⟩ := h
  rcases h5 with ⟨h5, _, h7⟩ | ⟨_, _, h7, _⟩
  · have hPp : p = P c n := by
      by_cases e : p < P c n
      · exact absurd hd (P_no h1 e)
      · omega
    refine ⟨by omega, by omega, fun t ht1 ht2 ht3 => h3 t ht1 (by omega) ht3, h4, .inr ⟨by omega, by omega, by rw [← hPp], by omega⟩⟩
  · omega
theorem Inv.bad {c : Nat → Int} {n p : Nat} {point A : Int} {dg : Nat} (h : Inv c n p point dg A) (hp : p < n) (hd : ¬ dig (c p)) (hpt : c p = 46 → 0 ≤ point ∨ p ≤ st c n) : ¬ Ok c n := by
  obtain ⟨h1, h2, h3, h4, h5⟩ := h
  rintro ⟨k1, k2, k3, k4⟩
  rcases h5 with ⟨h5, h6, h7⟩ | ⟨h5, h6, h7, h8⟩
  · by_cases e : p < P c n
    · exact hd (k2 p h1 e)
    · have he : p = P c n := by omega
      have h46 : c p = 46 := by rw [he]; exact P_at (by omega)
      rcases hpt h46 with h | h <;> omega
  · exact hd (k3 p h5 hp)
theorem Inv.pt_cases {c : Nat → Int} {n p : Nat} {point A : Int} {dg : Nat} (h : Inv c n p point dg A) : point = -1 ∨ 0 ≤ point := by
  rcases h.2.2.2.2 with ⟨_, h, _⟩ | ⟨_, _, h, _⟩ <;> omega
/-- At the end: no figure. -/
theorem Inv.endBad {c : Nat → Int} {n : Nat} {point A : Int} {dg : Nat} (h : Inv c n n point dg A) (hb : dg = 0 ∨ point = (n : Int) - 1) : ¬ Ok c n := by
  obtain ⟨h1, h2, h3, h4, h5⟩ := h
  rintro ⟨k1, k2, k3, k4⟩
  have := P_le c n
  omega
/-- At the end: a figure. -/
theorem Inv.endOk {c : Nat → Int} {n : Nat} {point A : Int} {dg : Nat} (h : Inv c n n point dg A) (hb1 : dg ≠ 0) (hb2 : point ≠ (n : Int) - 1) : Ok c n ∧ len c n = dg ∧ A = num (D c n) (min (len c n) 18) ∧ ((point = -1 ∧ P c n = n) ∨ (0 ≤ point ∧ point = (P c n : Int) ∧ P c n + 1 < n)) := by
  obtain ⟨h1, h2, h3, h4, h5⟩ := h
  have hP := P_le c n
  have hG := P_ge c n
  have hl : len c n = dg := by unfold len; omega
  refine ⟨⟨by omega, fun t ht1 ht2 => h3 t ht1 (by omega) (by omega), fun t ht1 ht2 => h3 t (by omega) ht2 (by omega), by omega⟩, hl, by rw [hl]; exact h4, by omega⟩

/-- The right-hand sum. -/
theorem num_step {f : Nat → Int} {j : Nat} {pl A T : Int} (h : num f (j + 1) * pl + A = T) : num f j * (pl * 10) + (A + f j * pl) = T := by
  rw [← h, num, Int.add_mul]
  have : num f j * (pl * 10) = num f j * 10 * pl := by rw [Int.mul_comm pl 10, ← Int.mul_assoc]
  omega
end Go.Proofs.Qxb6601746a
