/- The plain law of 'quoted' on a written string: a literal string, single or tripled; an escaped basic string. -/
import Derived.Test.Qxb6000816aQuoteLaw
namespace Go.Proofs.Qxb6000816a
set_option linter.unusedVariables false
set_option linter.unusedSimpArgs false

theorem hp_false {c : Nat → Int} {n p : Nat} {q : Int} {d : Nat} (h : n < p + d ∨ ∃ t, t < d ∧ c (p + t) ≠ q) : hp c n p q d = false := by
  rw [Bool.eq_false_iff]
  intro hh
  have := hp_iff.mp hh
  rcases h with h | ⟨t, ht, hc⟩
  · omega
  · exact hc (this.2 t ht)

theorem body_scan {c : Nat → Int} {n : Nat} {q : Int} {d : Nat} (hq : q ≠ 34) : ∀ m p, p + m ≤ n → (∀ t, p ≤ t → t < p + m → hp c n t q d = false) → body c n q d p = body c n q d (p + m)
  | 0, p, _, _ => rfl
  | m + 1, p, h1, h2 => by
    rw [body_one (by omega) (h2 p (Nat.le_refl _) (by omega)) (fun h => hq h.1), body_scan hq m (p + 1) (by omega) (fun t ht1 ht2 => h2 t (by omega) (by omega))]
    congr 1; omega

theorem tl_scan {c : Nat → Int} {n : Nat} {q : Int} : ∀ m p, p + m ≤ n → (∀ t, p ≤ t → t < p + m → c t = q) → tl c n q p = tl c n q (p + m)
  | 0, p, _, _ => rfl
  | m + 1, p, h1, h2 => by
    rw [tl_go (by omega) (h2 p (Nat.le_refl _) (by omega)), tl_scan m (p + 1) (by omega) (fun t ht1 ht2 => h2 t (by omega) (by omega))]
    congr 1; omega

theorem cnt_shift {c cb : Nat → Int} {o : Nat} : ∀ k, (∀ j, j < k → c (o + j) = cb j) → cnt c 0 (o + k) = cnt c 0 o + cnt cb 0 k
  | 0, _ => by rw [cnt_self cb 0 0 (Nat.le_refl _)]; rfl
  | k + 1, h => by
    have ih := cnt_shift k (fun j hj => h j (by omega))
    have hk := h k (by omega)
    rw [show o + (k + 1) = (o + k) + 1 by omega]
    by_cases h10 : cb k = 10
    · rw [cnt_nl (Nat.zero_le _) h10, cnt_nl (Nat.zero_le _) (hk.trans h10), ih]; omega
    · rw [cnt_no h10, cnt_no (by rw [hk]; exact h10), ih]

/-- A literal string: d quotes, the body, d quotes, the rest. -/
structure LitAt (c cb cr : Nat → Int) (n L R d : Nat) : Prop where
  n : n = 2 * d + L + R
  op : ∀ t, t < d → c t = 39
  body : ∀ t, t < L → c (d + t) = cb t
  cl : ∀ t, t < d → c (d + L + t) = 39
  rest : ∀ t, t < R → c (2 * d + L + t) = cr t

theorem LitAt.lines {c cb cr : Nat → Int} {n L R d : Nat} (h : LitAt c cb cr n L R d) : cnt c 0 (min (2 * d + L) n) = cnt cb 0 L := by
  rw [Nat.min_eq_left (by rw [h.n]; omega), show 2 * d + L = (d + L) + d by omega, cnt_skip d (fun t ht => by rw [h.cl t ht]; decide), cnt_shift L h.body]
  have := cnt_skip (c := c) (a := 0) (p := 0) d (fun t ht => by rw [Nat.zero_add, h.op t ht]; decide)
  rw [Nat.zero_add] at this
  rw [this, cnt_self _ _ _ (Nat.le_refl _), Nat.zero_add]

theorem LitAt.one {c cb cr : Nat → Int} {n L R : Nat} (h : LitAt c cb cr n L R 1) (hb : ∀ t, t < L → cb t ≠ 39) (hr : L = 0 → 0 < R → cr 0 ≠ 39) : qend c n 39 0 = 2 * 1 + L := by
  have hn := h.n
  have h3 : hp c n 0 39 3 = false := by
    by_cases hL : L = 0
    · by_cases hR : R = 0
      · exact hp_false (.inl (by omega))
      · refine hp_false (.inr ⟨2, by omega, ?_⟩)
        have := h.rest 0 (by omega)
        rw [show 0 + 2 = 2 * 1 + L + 0 by omega, this]
        exact hr hL (by omega)
    · refine hp_false (.inr ⟨1, by omega, ?_⟩)
      have := h.body 0 (by omega)
      rw [show 0 + 1 = 1 + 0 by omega, this]
      exact hb 0 (by omega)
  unfold qend
  rw [if_neg (by rw [h3]; simp), body_scan (by decide) L (0 + 1) (by omega) (fun t ht1 ht2 => hp_false (.inr ⟨0, by omega, by
    have := h.body (t - 1) (by omega)
    rw [show t + 0 = 1 + (t - 1) by omega, this]
    exact hb _ (by omega)⟩)), body_hit (by omega) (hp_iff.mpr ⟨by omega, fun t ht => by
      have := h.cl 0 (by omega)
      rw [show 0 + 1 + L + t = 1 + L + 0 by omega]; exact this⟩)]
  omega

theorem least (P : Nat → Prop) [DecidablePred P] : ∀ m a, P (a + m) → ∃ p, a ≤ p ∧ p ≤ a + m ∧ P p ∧ ∀ t, a ≤ t → t < p → ¬ P t
  | 0, a, h => ⟨a, Nat.le_refl _, Nat.le_refl _, h, fun t h1 h2 => by omega⟩
  | m + 1, a, h => by
    by_cases ha : P a
    · exact ⟨a, Nat.le_refl _, by omega, ha, fun t h1 h2 => by omega⟩
    · obtain ⟨p, h1, h2, h3, h4⟩ := least P m (a + 1) (by rw [show a + 1 + m = a + (m + 1) by omega]; exact h)
      refine ⟨p, by omega, by omega, h3, fun t ht1 ht2 => ?_⟩
      by_cases hta : t = a
      · subst hta; exact ha
      · exact h4 t (by omega) ht2

theorem LitAt.three {c cb cr : Nat → Int} {n L R : Nat} (h : LitAt c cb cr n L R 3) (hb : ∀ t, t + 2 < L → ¬ (cb t = 39 ∧ cb (t + 1) = 39 ∧ cb (t + 2) = 39)) (hr : 0 < R → cr 0 ≠ 39) : qend c n 39 0 = 2 * 3 + L := by
  have hn := h.n
  have h3 : hp c n 0 39 3 = true := hp_iff.mpr ⟨by omega, fun t ht => by rw [Nat.zero_add]; exact h.op t ht⟩
  have hE : hp c n (3 + L) 39 3 = true := hp_iff.mpr ⟨by omega, h.cl⟩
  obtain ⟨p, hp1, hp2, hp3, hp4⟩ := least (fun p => hp c n p 39 3 = true) L 3 hE
  have hq := (hp_iff.mp hp3).2
  have hall : ∀ t, p ≤ t → t < 6 + L → c t = 39 := by
    intro t ht1 ht2
    by_cases hc : 3 + L ≤ t
    · have := h.cl (t - (3 + L)) (by omega)
      rw [show t = 3 + L + (t - (3 + L)) by omega]; exact this
    · by_cases hin : p + 2 < 3 + L
      · exfalso
        refine hb (p - 3) (by omega) ⟨?_, ?_, ?_⟩
        · have h1 := h.body (p - 3) (by omega); have h2 := hq 0 (by omega)
          rw [← h1, show 3 + (p - 3) = p + 0 by omega]; exact h2
        · have h1 := h.body (p - 3 + 1) (by omega); have h2 := hq 1 (by omega)
          rw [← h1, show 3 + (p - 3 + 1) = p + 1 by omega]; exact h2
        · have h1 := h.body (p - 3 + 2) (by omega); have h2 := hq 2 (by omega)
          rw [← h1, show 3 + (p - 3 + 2) = p + 2 by omega]; exact h2
      · have := hq (t - p) (by omega)
        rw [show p + (t - p) = t by omega] at this; exact this
  unfold qend
  have hs := body_scan (c := c) (n := n) (q := 39) (d := 3) (by decide) (p - 3) 3 (by omega) (fun t ht1 ht2 => Bool.eq_false_iff.mpr (hp4 t (by omega) (by omega)))
  rw [show 3 + (p - 3) = p by omega, body_hit (by omega) hp3] at hs
  rw [if_pos h3, Nat.zero_add, hs, tl_scan (3 + L - p) (p + 3) (by omega) (fun t ht1 ht2 => hall t (by omega) (by omega)), show p + 3 + (3 + L - p) = 2 * 3 + L by omega]
  by_cases hR : R = 0
  · exact tl_out (by omega)
  · refine tl_stop (by omega) ?_
    have := h.rest 0 (by omega)
    rw [show 2 * 3 + L = 2 * 3 + L + 0 by omega, this]
    exact hr (by omega)

/-- The escaping, byte for byte. -/
def encL : List UInt8 → List UInt8
  | [] => []
  | x :: xs => if x = 34 ∨ x = 92 then 92 :: x :: encL xs else x :: encL xs
theorem encL_cons (x : UInt8) (xs : List UInt8) : encL (x :: xs) = if x = 34 ∨ x = 92 then 92 :: x :: encL xs else x :: encL xs := rfl
def nl : List UInt8 → Nat
  | [] => 0
  | x :: xs => (if x = 10 then 1 else 0) + nl xs
theorem nl_cons (x : UInt8) (xs : List UInt8) : nl (x :: xs) = (if x = 10 then 1 else 0) + nl xs := rfl
def bytes (l : List UInt8) (k : Nat) : Int := ((l.getD k 0).toNat : Int)
theorem bytes_cons (x : UInt8) (l : List UInt8) (k : Nat) : bytes (x :: l) (k + 1) = bytes l k := by unfold bytes; rw [List.getD_cons_succ]
theorem bytes_zero (x : UInt8) (l : List UInt8) : bytes (x :: l) 0 = (x.toNat : Int) := by unfold bytes; rw [List.getD_cons_zero]
theorem u8_ne {x : UInt8} {k : UInt8} (h : x ≠ k) : (x.toNat : Int) ≠ (k.toNat : Int) := fun e => h (UInt8.toNat_inj.mp (Int.ofNat.inj e))

theorem cnt_list {f : Nat → Int} : ∀ (xs : List UInt8) p, (∀ t, t < xs.length → f (p + t) = bytes xs t) → cnt f 0 (p + xs.length) = cnt f 0 p + nl xs
  | [], p, _ => rfl
  | x :: xs, p, h => by
    have h0 := h 0 (by simp)
    rw [Nat.add_zero, bytes_zero] at h0
    have ih := cnt_list xs (p + 1) (fun t ht => by
      have := h (t + 1) (by simp; omega)
      rw [bytes_cons] at this
      rw [show p + 1 + t = p + (t + 1) by omega]; exact this)
    rw [List.length_cons, show p + (xs.length + 1) = p + 1 + xs.length by omega, ih]
    rw [nl_cons]
    by_cases hx : x = 10
    · rw [if_pos hx, cnt_nl (Nat.zero_le _) (by rw [h0, hx]; rfl)]; omega
    · rw [if_neg hx, cnt_no (by rw [h0]; exact u8_ne hx)]; omega

theorem esc_law {f : Nat → Int} {n : Nat} : ∀ (xs : List UInt8) p, (∀ t, t < (encL xs).length → f (p + t) = bytes (encL xs) t) → f (p + (encL xs).length) = 34 → p + (encL xs).length < n →
    body f n 34 1 p = p + (encL xs).length ∧ cnt f 0 (p + (encL xs).length) = cnt f 0 p + nl xs
  | [], p, _, h2, h3 => ⟨body_hit h3 (hp_iff.mpr ⟨h3, fun t ht => by rw [show p + t = p + 0 by omega]; exact h2⟩), rfl⟩
  | x :: xs, p, h1, h2, h3 => by
    rw [encL_cons] at h1 h2 h3 ⊢
    by_cases hx : x = 34 ∨ x = 92
    · rw [if_pos hx] at h1 h2 h3 ⊢
      have e0 := h1 0 (by simp)
      rw [Nat.add_zero, bytes_zero] at e0
      have e1 := h1 1 (by simp)
      rw [bytes_cons, bytes_zero] at e1
      obtain ⟨i1, i2⟩ := esc_law (n := n) xs (p + 2) (fun t ht => by
        have := h1 (t + 2) (by simp; omega)
        rw [bytes_cons, bytes_cons] at this
        rw [show p + 2 + t = p + (t + 2) by omega]; exact this) (by
        rw [List.length_cons, List.length_cons] at h2
        rw [show p + 2 + (encL xs).length = p + ((encL xs).length + 1 + 1) by omega]; exact h2) (by
        rw [List.length_cons, List.length_cons] at h3; omega)
      rw [List.length_cons, List.length_cons] at h3 ⊢
      have hx1 : f (p + 1) ≠ 10 := by rw [e1]; rcases hx with rfl | rfl <;> decide
      have hx0 : f p ≠ 10 := by rw [e0]; decide
      refine ⟨?_, ?_⟩
      · rw [body_esc (by omega) (hp_false (.inr ⟨0, by omega, by rw [Nat.add_zero, e0]; decide⟩)) ⟨rfl, e0⟩, i1]; omega
      · rw [show p + ((encL xs).length + 1 + 1) = p + 2 + (encL xs).length by omega, i2, show p + 2 = p + 1 + 1 by omega, cnt_no hx1, cnt_no hx0]
        rw [nl_cons]
        rw [if_neg (by rcases hx with rfl | rfl <;> decide)]; omega
    · rw [if_neg hx] at h1 h2 h3 ⊢
      have e0 := h1 0 (by simp)
      rw [Nat.add_zero, bytes_zero] at e0
      obtain ⟨i1, i2⟩ := esc_law (n := n) xs (p + 1) (fun t ht => by
        have := h1 (t + 1) (by simp; omega)
        rw [bytes_cons] at this
        rw [show p + 1 + t = p + (t + 1) by omega]; exact this) (by
        rw [List.length_cons] at h2
        rw [show p + 1 + (encL xs).length = p + ((encL xs).length + 1) by omega]; exact h2) (by
        rw [List.length_cons] at h3; omega)
      rw [List.length_cons] at h3 ⊢
      have hn34 : f p ≠ 34 := by rw [e0]; exact u8_ne (fun h => hx (.inl h))
      have hn92 : f p ≠ 92 := by rw [e0]; exact u8_ne (fun h => hx (.inr h))
      refine ⟨?_, ?_⟩
      · rw [body_one (by omega) (hp_false (.inr ⟨0, by omega, hn34⟩)) (fun h => hn92 h.2), i1]; omega
      · rw [show p + ((encL xs).length + 1) = p + 1 + (encL xs).length by omega, i2]
        rw [nl_cons]
        by_cases h10 : x = 10
        · rw [if_pos h10, cnt_nl (Nat.zero_le _) (by rw [e0, h10]; rfl)]; omega
        · rw [if_neg h10, cnt_no (by rw [e0]; exact u8_ne h10)]; omega

/-- What a written basic string is read as. -/
theorem esc_end {f cr : Nat → Int} {n R : Nat} (xs : List UInt8) (hn : n = (encL xs).length + 2 + R) (h0 : f 0 = 34) (h1 : ∀ t, t < (encL xs).length → f (1 + t) = bytes (encL xs) t) (h2 : f (1 + (encL xs).length) = 34) (h3 : ∀ t, t < R → f ((encL xs).length + 2 + t) = cr t) (hr : xs = [] → 0 < R → cr 0 ≠ 34) :
    qend f n 34 0 = (encL xs).length + 2 ∧ cnt f 0 (min ((encL xs).length + 2) n) = nl xs := by
  have hp3 : hp f n 0 34 3 = false := by
    cases xs with
    | nil =>
      by_cases hR : R = 0
      · exact hp_false (.inl (by simp [encL] at hn; omega))
      · refine hp_false (.inr ⟨2, by omega, ?_⟩)
        have := h3 0 (by omega)
        have he : (encL []).length = 0 := rfl
        rw [he] at this
        rw [show 0 + 2 = 0 + 2 + 0 by omega, this]
        exact hr rfl (by omega)
    | cons x xs =>
      refine hp_false (.inr ⟨1, by omega, ?_⟩)
      rw [encL_cons] at h1
      by_cases hx : x = 34 ∨ x = 92
      · rw [if_pos hx] at h1
        have := h1 0 (by simp)
        rw [show 0 + 1 = 1 + 0 by omega, this, bytes_zero]; decide
      · rw [if_neg hx] at h1
        have := h1 0 (by simp)
        rw [show 0 + 1 = 1 + 0 by omega, this, bytes_zero]; exact u8_ne (fun h => hx (.inl h))
  obtain ⟨i1, i2⟩ := esc_law (n := n) xs 1 h1 h2 (by omega)
  refine ⟨?_, ?_⟩
  · unfold qend
    rw [if_neg (by rw [hp3]; simp), Nat.zero_add, i1]; omega
  · rw [Nat.min_eq_left (by omega), show (encL xs).length + 2 = 1 + (encL xs).length + 1 by omega, cnt_no (by rw [h2]; decide), i2, show (1 : Nat) = 0 + 1 from rfl, cnt_no (by rw [h0]; decide), cnt_self _ _ _ (Nat.le_refl _)]
    omega
end Go.Proofs.Qxb6000816a
