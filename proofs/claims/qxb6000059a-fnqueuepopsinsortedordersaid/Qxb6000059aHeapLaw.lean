/- The plain law of the heap: lists of events, no Go in sight. -/
namespace Go.Proofs.Qxb6000059a

/-- An event: its tick, its kind, its number. -/
structure Ev where
  t : Int
  k : Int
  s : Int

/-- The order of events. -/
def ltB (a b : Ev) : Bool := if a.t ≠ b.t then decide (a.t < b.t) else if a.k ≠ b.k then decide (a.k < b.k) else decide (a.s < b.s)

theorem ltB_iff (a b : Ev) : ltB a b = true ↔ a.t < b.t ∨ (a.t = b.t ∧ (a.k < b.k ∨ (a.k = b.k ∧ a.s < b.s))) := by
  unfold ltB
  split
  · simp; omega
  · split
    · simp; omega
    · simp; omega

/-- a comes not behind b. -/
def Le (a b : Ev) : Prop := ltB b a = false

theorem le_iff (a b : Ev) : Le a b ↔ a.t < b.t ∨ (a.t = b.t ∧ (a.k < b.k ∨ (a.k = b.k ∧ a.s ≤ b.s))) := by
  have h : Le a b ↔ ¬ (ltB b a = true) := by unfold Le; simp
  rw [h, ltB_iff]
  omega

theorem Le.refl (a : Ev) : Le a a := by rw [le_iff]; omega
theorem Le.trans {a b c : Ev} (h1 : Le a b) (h2 : Le b c) : Le a c := by rw [le_iff] at *; omega
theorem Le.of_lt {a b : Ev} (h : ltB a b = true) : Le a b := by rw [le_iff]; rw [ltB_iff] at h; omega
theorem Le.antisymm {a b : Ev} (h1 : Le a b) (h2 : Le b a) : a = b := by
  rw [le_iff] at h1 h2
  cases a; cases b
  simp only [Ev.mk.injEq]
  simp only at h1 h2
  omega
theorem Le.total (a b : Ev) : Le a b ∨ Le b a := by rw [le_iff, le_iff]; omega

/-- Cell i of the list. -/
def ev0 : Ev := ⟨0, 0, 0⟩
def at' (h : List Ev) (i : Nat) : Ev := h.getD i ev0

theorem at'_eq (h : List Ev) (i : Nat) (hi : i < h.length) : at' h i = h[i] := by simp [at', hi]
theorem at'_set_self (h : List Ev) (i : Nat) (e : Ev) (hi : i < h.length) : at' (h.set i e) i = e := by simp [at', hi]
theorem at'_set_ne (h : List Ev) (i j : Nat) (e : Ev) (hne : i ≠ j) : at' (h.set i e) j = at' h j := by simp [at', List.getElem?_set_ne hne]

/-- The exchange of two places. -/
def swp (h : List Ev) (i j : Nat) : List Ev := (h.set i (at' h j)).set j (at' h i)

theorem swp_len (h : List Ev) (i j : Nat) : (swp h i j).length = h.length := by simp [swp]
theorem swp_at (h : List Ev) (i j k : Nat) (hi : i < h.length) (hj : j < h.length) : at' (swp h i j) k = if k = j then at' h i else if k = i then at' h j else at' h k := by
  unfold swp
  by_cases h1 : k = j
  · subst h1; rw [if_pos rfl, at'_set_self _ _ _ (by simpa using hj)]
  · rw [if_neg h1, at'_set_ne _ _ _ _ (Ne.symm h1)]
    by_cases h2 : k = i
    · subst h2; rw [if_pos rfl, at'_set_self _ _ _ hi]
    · rw [if_neg h2, at'_set_ne _ _ _ _ (Ne.symm h2)]

theorem set_perm (h : List Ev) (i : Nat) (e : Ev) (hi : i < h.length) : (at' h i :: h.set i e).Perm (e :: h) := by
  rw [at'_eq h i hi]
  induction h generalizing i with
  | nil => simp at hi
  | cons a h ih =>
    cases i with
    | zero => simpa using List.Perm.swap e a h
    | succ i =>
      have h1 := ih i (by simpa using hi)
      simp only [List.getElem_cons_succ, List.set_cons_succ]
      exact (List.Perm.swap _ _ _).trans ((h1.cons a).trans (List.Perm.swap _ _ _))

theorem swp_perm (h : List Ev) (i j : Nat) (hi : i < h.length) (hj : j < h.length) : (swp h i j).Perm h := by
  have h1 := set_perm h i (at' h j) hi
  have h2 := set_perm (h.set i (at' h j)) j (at' h i) (by simpa using hj)
  have e : at' (h.set i (at' h j)) j = at' h j := by
    by_cases he : i = j
    · subst he; rw [at'_set_self _ _ _ hi]
    · rw [at'_set_ne _ _ _ _ he]
  rw [e] at h2
  have h3 := h2.trans h1
  exact (List.perm_cons _).1 h3

/-- A heap: no event comes ahead of its parent. -/
def IsHeap (h : List Ev) : Prop := ∀ j, 0 < j → j < h.length → Le (at' h ((j - 1) / 2)) (at' h j)

/-- A heap but for the event at i, which may have to go up. -/
def UpInv (h : List Ev) (i : Nat) : Prop :=
  (∀ j, 0 < j → j < h.length → j ≠ i → Le (at' h ((j - 1) / 2)) (at' h j)) ∧
  (∀ j, 0 < j → j < h.length → (j - 1) / 2 = i → 0 < i → Le (at' h ((i - 1) / 2)) (at' h j))

theorem up_start (h : List Ev) (e : Ev) (hh : IsHeap h) : UpInv (h ++ [e]) h.length := by
  have ha : ∀ j, j < h.length → at' (h ++ [e]) j = at' h j := fun j hj => by simp [at', List.getElem?_append_left hj]
  refine ⟨fun j h0 h1 h2 => ?_, fun j h0 h1 h2 _ => ?_⟩
  · simp at h1
    rw [ha j (by omega), ha _ (by omega)]
    exact hh j h0 (by omega)
  · simp at h1
    omega

theorem up_stop (h : List Ev) (i : Nat) (hu : UpInv h i) (hs : i = 0 ∨ ltB (at' h i) (at' h ((i - 1) / 2)) = false) : IsHeap h := by
  intro j h0 h1
  by_cases e : j = i
  · subst e
    rcases hs with hs | hs
    · omega
    · exact hs
  · exact hu.1 j h0 h1 e

theorem up_step (h : List Ev) (i : Nat) (hi : i < h.length) (h0 : 0 < i) (hu : UpInv h i) (hlt : ltB (at' h i) (at' h ((i - 1) / 2)) = true) : UpInv (swp h i ((i - 1) / 2)) ((i - 1) / 2) := by
  have hp : (i - 1) / 2 < i := by omega
  have hsw := fun k => swp_at h i ((i - 1) / 2) k hi (by omega)
  refine ⟨fun j j0 j1 j2 => ?_, fun j j0 j1 j2 j3 => ?_⟩
  · rw [swp_len] at j1
    rw [hsw, hsw j, if_neg j2]
    by_cases e : j = i
    · subst e
      rw [if_pos rfl, if_pos rfl]
      exact Le.of_lt hlt
    · rw [if_neg e]
      by_cases e2 : (j - 1) / 2 = (i - 1) / 2
      · rw [if_pos e2]
        have := hu.1 j j0 j1 e
        rw [e2] at this
        exact (Le.of_lt hlt).trans this
      · rw [if_neg e2]
        by_cases e3 : (j - 1) / 2 = i
        · rw [if_pos e3]
          exact hu.2 j j0 j1 e3 h0
        · rw [if_neg e3]
          exact hu.1 j j0 j1 e
  · rw [swp_len] at j1
    have hpp : ((i - 1) / 2 - 1) / 2 ≠ (i - 1) / 2 := by omega
    have hpi : ((i - 1) / 2 - 1) / 2 ≠ i := by omega
    rw [hsw, if_neg hpp, if_neg hpi, hsw j, if_neg (by omega)]
    have hgp := hu.1 ((i - 1) / 2) j3 (by omega) (by omega)
    by_cases e : j = i
    · subst e
      rw [if_pos rfl]
      exact hgp
    · rw [if_neg e]
      have := hu.1 j j0 j1 e
      rw [j2] at this
      exact hgp.trans this

/-- A heap but for the event at i, which may have to go down. -/
def DownInv (h : List Ev) (i : Nat) : Prop :=
  (∀ j, 0 < j → j < h.length → (j - 1) / 2 ≠ i → Le (at' h ((j - 1) / 2)) (at' h j)) ∧
  (∀ j, 0 < j → j < h.length → (j - 1) / 2 = i → 0 < i → Le (at' h ((i - 1) / 2)) (at' h j))

/-- c is the least of i and its children. -/
def IsLeast (h : List Ev) (i c : Nat) : Prop :=
  (c = i ∨ c = 2 * i + 1 ∨ c = 2 * i + 2) ∧ c < h.length ∧ Le (at' h c) (at' h i) ∧ (2 * i + 1 < h.length → Le (at' h c) (at' h (2 * i + 1))) ∧ (2 * i + 2 < h.length → Le (at' h c) (at' h (2 * i + 2)))

theorem down_stop (h : List Ev) (i : Nat) (hd : DownInv h i) (hl : IsLeast h i i) : IsHeap h := by
  intro j j0 j1
  by_cases e : (j - 1) / 2 = i
  · rw [e]
    rcases (show j = 2 * i + 1 ∨ j = 2 * i + 2 by omega) with rfl | rfl
    · exact hl.2.2.2.1 j1
    · exact hl.2.2.2.2 j1
  · exact hd.1 j j0 j1 e

/-- Where i lies behind the end nothing is amiss. -/
theorem down_out (h : List Ev) (i : Nat) (hd : DownInv h i) (hi : h.length ≤ 2 * i + 1) : IsHeap h := by
  intro j j0 j1
  exact hd.1 j j0 j1 (by omega)

theorem down_step (h : List Ev) (i c : Nat) (hi : i < h.length) (hd : DownInv h i) (hl : IsLeast h i c) (hc : c ≠ i) : DownInv (swp h i c) c := by
  obtain ⟨hc1, hc2, hc3, hc4, hc5⟩ := hl
  have hci : (c - 1) / 2 = i := by omega
  have hsw := fun k => swp_at h i c k hi hc2
  refine ⟨fun j j0 j1 j2 => ?_, fun j j0 j1 j2 j3 => ?_⟩
  · rw [swp_len] at j1
    by_cases e : (j - 1) / 2 = i
    · rw [hsw, if_neg j2, if_pos e]
      rw [hsw j]
      by_cases e2 : j = c
      · rw [if_pos e2]; exact hc3
      · rw [if_neg e2]
        by_cases e3 : j = i
        · omega
        · rw [if_neg e3]
          rcases (show j = 2 * i + 1 ∨ j = 2 * i + 2 by omega) with rfl | rfl
          · exact hc4 j1
          · exact hc5 j1
    · rw [hsw, if_neg j2, if_neg e, hsw j]
      by_cases e2 : j = c
      · exact absurd (by rw [e2]; exact hci) e
      · rw [if_neg e2]
        by_cases e3 : j = i
        · subst e3
          rw [if_pos rfl]
          exact hd.2 c (by omega) hc2 hci j0
        · rw [if_neg e3]
          exact hd.1 j j0 j1 e
  · rw [swp_len] at j1
    rw [hci, hsw, if_neg (Ne.symm hc), if_pos rfl, hsw j, if_neg (by omega), if_neg (by omega)]
    have := hd.1 j j0 j1 (by omega)
    rw [j2] at this
    exact this

/-- The first event of a heap is the least. -/
theorem heap_least (h : List Ev) (hh : IsHeap h) : ∀ n j, j ≤ n → j < h.length → Le (at' h 0) (at' h j) := by
  intro n
  induction n with
  | zero => intro j hj _; have : j = 0 := by omega
            subst this; exact Le.refl _
  | succ n ih =>
    intro j hj hjl
    by_cases e : j = 0
    · subst e; exact Le.refl _
    · exact (ih ((j - 1) / 2) (by omega) (by omega)).trans (hh j (by omega) hjl)

theorem heap_min (h : List Ev) (hh : IsHeap h) (x : Ev) (hx : x ∈ h) : Le (at' h 0) x := by
  obtain ⟨j, hj, rfl⟩ := List.getElem_of_mem hx
  rw [← at'_eq h j hj]
  exact heap_least h hh j j (Nat.le_refl _) hj

/-- What pop makes ahead of its loop: the last event at the head, the last place struck. -/
def popped (h : List Ev) : List Ev := (h.set 0 (at' h (h.length - 1))).take (h.length - 1)

theorem popped_len (h : List Ev) : (popped h).length = h.length - 1 := by simp [popped]

theorem popped_at (h : List Ev) (j : Nat) (hj : j < h.length - 1) : at' (popped h) j = if j = 0 then at' h (h.length - 1) else at' h j := by
  have e : at' (popped h) j = at' (h.set 0 (at' h (h.length - 1))) j := by
    unfold popped at'
    simp only [List.getD_eq_getElem?_getD, List.getElem?_take, hj, if_true]
  rw [e]
  by_cases h0 : j = 0
  · subst h0; rw [if_pos rfl, at'_set_self _ _ _ (by omega)]
  · rw [if_neg h0, at'_set_ne _ _ _ _ (Ne.symm h0)]

theorem popped_inv (h : List Ev) (hh : IsHeap h) : DownInv (popped h) 0 := by
  refine ⟨fun j j0 j1 j2 => ?_, fun j j0 j1 j2 j3 => by omega⟩
  rw [popped_len] at j1
  rw [popped_at h _ (by omega), if_neg j2, popped_at h j j1, if_neg (by omega)]
  exact hh j j0 (by omega)

theorem popped_perm (h : List Ev) (hn : 0 < h.length) : (at' h 0 :: popped h).Perm h := by
  have h1 := set_perm h 0 (at' h (h.length - 1)) hn
  have h2 : (h.set 0 (at' h (h.length - 1))) = popped h ++ [at' h (h.length - 1)] := by
    unfold popped
    apply List.ext_getElem?
    intro j
    by_cases hj : j < h.length - 1
    · rw [List.getElem?_append_left (by simp; omega), List.getElem?_take, if_pos hj]
    · rw [List.getElem?_append_right (by simp; omega)]
      by_cases hj2 : j = h.length - 1
      · subst hj2
        by_cases h0 : h.length - 1 = 0
        · simp [h0, show 0 < h.length from hn]
        · rw [List.getElem?_set_ne (by omega)]
          simp [at', show h.length - 1 < h.length by omega]
      · rw [List.getElem?_eq_none (by simp; omega), List.getElem?_eq_none (by simp; omega)]
  rw [h2] at h1
  have h3 : (at' h (h.length - 1) :: (at' h 0 :: popped h)).Perm (at' h (h.length - 1) :: h) := by
    refine List.Perm.trans ?_ h1
    refine (List.Perm.swap _ _ _).trans (List.Perm.cons _ ?_)
    exact List.perm_append_singleton _ _ |>.symm
  exact (List.perm_cons _).1 h3
end Go.Proofs.Qxb6000059a
