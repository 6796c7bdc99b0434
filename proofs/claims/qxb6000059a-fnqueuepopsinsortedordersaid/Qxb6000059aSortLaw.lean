/- The plain law of the merge sort from the bottom up, over rows told by functions of the place. -/
import Derived.Test.Qxb6000059aHeapLaw
namespace Go.Proofs.Qxb6000059a
set_option linter.unusedVariables false
set_option linter.unusedSimpArgs false

/-- The places lo .. hi-1 of a row. -/
def seg (f : Nat → Nat) (lo hi : Nat) : List Nat := (List.range' lo (hi - lo)).map f

theorem seg_nil (f : Nat → Nat) (lo hi : Nat) (h : hi ≤ lo) : seg f lo hi = [] := by
  unfold seg
  rw [show hi - lo = 0 by omega]
  rfl
theorem seg_cons (f : Nat → Nat) (lo hi : Nat) (h : lo < hi) : seg f lo hi = f lo :: seg f (lo + 1) hi := by
  unfold seg
  rw [show hi - lo = (hi - (lo + 1)) + 1 by omega, List.range'_succ]
  rfl
theorem seg_snoc (f : Nat → Nat) (lo k : Nat) (h : lo ≤ k) : seg f lo (k + 1) = seg f lo k ++ [f k] := by
  unfold seg
  rw [show k + 1 - lo = (k - lo) + 1 by omega, List.range'_1_concat, List.map_append, show lo + (k - lo) = k by omega]
  rfl
theorem seg_append (f : Nat → Nat) (lo mid hi : Nat) (h1 : lo ≤ mid) (h2 : mid ≤ hi) : seg f lo hi = seg f lo mid ++ seg f mid hi := by
  unfold seg
  have h := List.range'_append (s := lo) (m := mid - lo) (n := hi - mid) (step := 1)
  rw [show hi - lo = (mid - lo) + (hi - mid) by omega, ← h, List.map_append, show lo + 1 * (mid - lo) = mid by omega]
theorem seg_congr {f g : Nat → Nat} {lo hi : Nat} (h : ∀ t, lo ≤ t → t < hi → f t = g t) : seg f lo hi = seg g lo hi := by
  unfold seg
  apply List.map_congr_left
  intro t ht
  rw [List.mem_range'_1] at ht
  exact h t ht.1 (by omega)
theorem mem_seg {f : Nat → Nat} {lo hi t : Nat} (h1 : lo ≤ t) (h2 : t < hi) : f t ∈ seg f lo hi := by
  unfold seg
  apply List.mem_map_of_mem
  rw [List.mem_range'_1]
  omega
theorem seg_len (f : Nat → Nat) (lo hi : Nat) : (seg f lo hi).length = hi - lo := by simp [seg]

/-- Behind a store. -/
def put (f : Nat → Nat) (k x : Nat) : Nat → Nat := fun t => if t = k then x else f t
theorem put_self (f : Nat → Nat) (k x : Nat) : put f k x k = x := by simp [put]
theorem put_ne (f : Nat → Nat) (k x t : Nat) (h : t ≠ k) : put f k x t = f t := by simp [put, h]

section
variable (le : Nat → Nat → Bool)

/-- What the innermost loop keeps. -/
def MInv (fa fb : Nat → Nat) (lo mid hi i j k : Nat) : Prop :=
  seg fb lo k ++ List.merge (seg fa i mid) (seg fa j hi) le = List.merge (seg fa lo mid) (seg fa mid hi) le

theorem m_start (fa fb : Nat → Nat) (lo mid hi : Nat) : MInv le fa fb lo mid hi lo mid lo := by
  unfold MInv
  rw [seg_nil fb lo lo (Nat.le_refl _), List.nil_append]

theorem seg_put (fb : Nat → Nat) (lo k x : Nat) (h : lo ≤ k) : seg (put fb k x) lo (k + 1) = seg fb lo k ++ [x] := by
  rw [seg_snoc _ _ _ h, put_self]
  congr 1
  exact seg_congr (fun t _ ht => put_ne _ _ _ _ (by omega))

theorem m_left {fa fb : Nat → Nat} {lo mid hi i j k : Nat} (h : MInv le fa fb lo mid hi i j k) (hk : lo ≤ k) (hi1 : i < mid) (hc : hi ≤ j ∨ (j < hi ∧ le (fa i) (fa j) = true)) : MInv le fa (put fb k (fa i)) lo mid hi (i + 1) j (k + 1) := by
  unfold MInv at *
  rw [← h, seg_put _ _ _ _ hk, List.append_assoc]
  congr 1
  rw [seg_cons fa i mid hi1]
  rcases hc with hc | ⟨hc, hle⟩
  · rw [seg_nil fa j hi hc, List.merge_right, List.merge_right]; rfl
  · rw [seg_cons fa j hi hc, List.cons_merge_cons, if_pos hle]; rfl

theorem m_right {fa fb : Nat → Nat} {lo mid hi i j k : Nat} (h : MInv le fa fb lo mid hi i j k) (hk : lo ≤ k) (hj1 : j < hi) (hc : mid ≤ i ∨ (i < mid ∧ le (fa i) (fa j) = false)) : MInv le fa (put fb k (fa j)) lo mid hi i (j + 1) (k + 1) := by
  unfold MInv at *
  rw [← h, seg_put _ _ _ _ hk, List.append_assoc]
  congr 1
  rw [seg_cons fa j hi hj1]
  rcases hc with hc | ⟨hc, hle⟩
  · rw [seg_nil fa i mid hc, List.nil_merge, List.nil_merge]; rfl
  · rw [seg_cons fa i mid hc, List.cons_merge_cons, if_neg (by simp [hle])]; rfl

theorem m_end {fa fb : Nat → Nat} {lo mid hi : Nat} (h : MInv le fa fb lo mid hi mid hi hi) : seg fb lo hi = List.merge (seg fa lo mid) (seg fa mid hi) le := by
  unfold MInv at h
  rw [seg_nil fa mid mid (Nat.le_refl _), seg_nil fa hi hi (Nat.le_refl _), List.nil_merge, List.append_nil] at h
  exact h

/-- Each run of w places, from a multiple of w on, is in order. -/
def RunS (n w : Nat) (f : Nat → Nat) : Prop := ∀ q, w * q < n → (seg f (w * q) (min (w * q + w) n)).Pairwise (fun a b => le a b = true)

/-- What a pass keeps: up to L the runs of 2w places are merged. -/
structure PInv (n w : Nat) (fa fb : Nat → Nat) (Q : Nat) : Prop where
  perm : (seg fb 0 (min (2 * w * Q) n)).Perm (seg fa 0 (min (2 * w * Q) n))
  sort : ∀ q, q < Q → 2 * w * q < n → (seg fb (2 * w * q) (min (2 * w * q + 2 * w) n)).Pairwise (fun a b => le a b = true)

theorem p_start (n w : Nat) (fa fb : Nat → Nat) : PInv le n w fa fb 0 := by
  refine ⟨?_, fun q hq => by omega⟩
  rw [Nat.mul_zero, Nat.zero_min, seg_nil _ 0 0 (Nat.le_refl _), seg_nil _ 0 0 (Nat.le_refl _)]

theorem p_step (tr : ∀ a b c : Nat, le a b = true → le b c = true → le a c = true) (tot : ∀ a b : Nat, (le a b || le b a) = true) {n w : Nat} {fa fb fb' : Nat → Nat} {Q : Nat} (hw : 1 ≤ w) (h : PInv le n w fa fb Q) (hr : RunS le n w fa) (hlt : 2 * w * Q < n) (hold : ∀ t, t < 2 * w * Q → fb' t = fb t)
    (hnew : seg fb' (2 * w * Q) (min (2 * w * Q + 2 * w) n) = List.merge (seg fa (2 * w * Q) (min (2 * w * Q + w) n)) (seg fa (min (2 * w * Q + w) n) (min (2 * w * Q + 2 * w) n)) le) : PInv le n w fa fb' (Q + 1) := by
  have e1 : 2 * w * (Q + 1) = 2 * w * Q + 2 * w := by rw [Nat.mul_add, Nat.mul_one]
  have e2 : w * (2 * Q) = 2 * w * Q := by rw [← Nat.mul_assoc, Nat.mul_comm w 2]
  have e3 : w * (2 * Q + 1) = 2 * w * Q + w := by rw [Nat.mul_add, e2, Nat.mul_one]
  have hperm := h.perm
  have s1 := hr (2 * Q) (by rw [e2]; exact hlt)
  rw [e2] at s1
  have s2 : (seg fa (min (2 * w * Q + w) n) (min (2 * w * Q + 2 * w) n)).Pairwise (fun a b => le a b = true) := by
    by_cases hm : 2 * w * Q + w < n
    · have := hr (2 * Q + 1) (by rw [e3]; exact hm)
      rw [e3] at this
      rw [show min (2 * w * Q + w) n = 2 * w * Q + w by omega]
      rw [show 2 * w * Q + 2 * w = 2 * w * Q + w + w by omega]
      exact this
    · rw [seg_nil _ _ _ (by omega)]
      exact List.Pairwise.nil
  refine ⟨?_, fun q hq hqn => ?_⟩
  · rw [e1]
    rw [show min (2 * w * Q) n = 2 * w * Q by omega] at hperm
    rw [seg_append fb' 0 (2 * w * Q) _ (Nat.zero_le _) (by omega), seg_append fa 0 (2 * w * Q) _ (Nat.zero_le _) (by omega)]
    rw [hnew]
    rw [seg_append fa (2 * w * Q) (min (2 * w * Q + w) n) (min (2 * w * Q + 2 * w) n) (by omega) (by omega)]
    refine List.Perm.append ?_ (List.merge_perm_append le)
    rw [seg_congr (f := fb') (g := fb) (fun t _ ht => hold t ht)]
    exact hperm
  · by_cases hqe : q = Q
    · subst hqe
      rw [hnew]
      exact List.pairwise_merge tr tot _ _ s1 s2
    · have hle : 2 * w * q + 2 * w ≤ 2 * w * Q := by
        have : 2 * w * (q + 1) ≤ 2 * w * Q := Nat.mul_le_mul_left _ (by omega)
        rw [Nat.mul_add, Nat.mul_one] at this
        exact this
      rw [seg_congr (f := fb') (g := fb) (fun t _ ht => hold t (by omega))]
      exact h.sort q (by omega) hqn

theorem p_end {n w : Nat} {fa fb : Nat → Nat} {Q : Nat} (hw : 1 ≤ w) (h : PInv le n w fa fb Q) (hge : n ≤ 2 * w * Q) : RunS le n (2 * w) fb ∧ (seg fb 0 n).Perm (seg fa 0 n) := by
  refine ⟨fun q hq => ?_, ?_⟩
  · refine h.sort q ?_ hq
    have : 2 * w * q < 2 * w * Q := by omega
    exact Nat.lt_of_mul_lt_mul_left this
  · have := h.perm
    rwa [show min (2 * w * Q) n = n by omega] at this

theorem run_one (n : Nat) (f : Nat → Nat) : RunS le n 1 f := by
  intro q hq
  rw [show min (1 * q + 1) n = 1 * q + 1 by omega, seg_cons _ _ _ (by omega), seg_nil _ _ _ (by omega)]
  exact List.pairwise_singleton _ _

theorem run_all {n w : Nat} {f : Nat → Nat} (h : RunS le n w f) (hw : n ≤ w) : (seg f 0 n).Pairwise (fun a b => le a b = true) := by
  by_cases h0 : n = 0
  · subst h0; rw [seg_nil _ 0 0 (Nat.le_refl _)]; exact List.Pairwise.nil
  · have := h 0 (by omega)
    rw [Nat.mul_zero, Nat.zero_add, show min w n = n by omega] at this
    exact this
end

theorem seg_id (n : Nat) : seg (fun t => t) 0 n = List.range n := by
  unfold seg
  rw [Nat.sub_zero, List.map_id', List.range_eq_range']

/-- The order on places, out of the events that they stand for. -/
def leE (E : Nat → Ev) (a b : Nat) : Bool := !ltB (E b) (E a)
theorem leE_iff (E : Nat → Ev) (a b : Nat) : leE E a b = true ↔ Le (E a) (E b) := by unfold leE Le; simp
theorem leE_tr (E : Nat → Ev) : ∀ a b c : Nat, leE E a b = true → leE E b c = true → leE E a c = true := by
  intro a b c h1 h2
  rw [leE_iff] at *
  exact h1.trans h2
theorem leE_tot (E : Nat → Ev) : ∀ a b : Nat, (leE E a b || leE E b a) = true := by
  intro a b
  rw [Bool.or_eq_true, leE_iff, leE_iff]
  exact Le.total _ _

/-- The heap's first is the next of the sorted row. -/
theorem next_least {E : Nat → Ev} {f : Nat → Nat} {n k : Nat} {es : List Ev} (hs : (seg f 0 n).Pairwise (fun a b => leE E a b = true)) (hk : k < n) (hh : IsHeap es) (hp : es.Perm ((seg f k n).map E)) : at' es 0 = E (f k) := by
  rw [seg_append f 0 k n (Nat.zero_le _) (by omega)] at hs
  have hs2 := (List.pairwise_append.1 hs).2.1
  rw [seg_cons f k n hk] at hs2 hp
  have hs3 := (List.pairwise_cons.1 hs2).1
  have hlen : 0 < es.length := by rw [hp.length_eq]; simp
  apply Le.antisymm
  · exact heap_min es hh _ (hp.symm.subset (by simp))
  · have hm : at' es 0 ∈ List.map E (f k :: seg f (k + 1) n) := hp.subset (by rw [at'_eq es 0 hlen]; exact List.getElem_mem hlen)
    rw [List.map_cons, List.mem_cons] at hm
    rcases hm with hm | hm
    · rw [hm]; exact Le.refl _
    · obtain ⟨t, ht, he⟩ := List.mem_map.1 hm
      rw [← he]
      exact (leE_iff E _ _).1 (hs3 t ht)

theorem next_rest {E : Nat → Ev} {f : Nat → Nat} {n k : Nat} {es es' : List Ev} (hk : k < n) (hp : es.Perm ((seg f k n).map E)) (hp2 : (E (f k) :: es').Perm es) : es'.Perm ((seg f (k + 1) n).map E) := by
  have h := hp2.trans hp
  rw [seg_cons f k n hk, List.map_cons] at h
  exact (List.perm_cons _).1 h

theorem perm_push {E : Nat → Ev} {n : Nat} {es es' : List Ev} (hp : es.Perm ((List.range n).map E)) (hp2 : es'.Perm (es ++ [E n])) : es'.Perm ((List.range (n + 1)).map E) := by
  rw [List.range_succ, List.map_append]
  exact hp2.trans (hp.append_right _)

theorem seg_lt {f : Nat → Nat} {n : Nat} (hp : (seg f 0 n).Perm (List.range n)) (t : Nat) (ht : t < n) : f t < n := by
  have := hp.subset (mem_seg (f := f) (Nat.zero_le t) ht)
  simpa using this
end Go.Proofs.Qxb6000059a
