/- The model of the script's law: three slices that hold the pending events; 'modelBefore'. -/
import Derived.Test.Qxb6000059aWrap
namespace Go.Proofs.Qxb6000059a
open Go.RowKit
set_option linter.unusedVariables false
set_option linter.unusedSimpArgs false

/-- The list without its place m: the last takes that place. -/
def remAt (h : List Ev) (m : Nat) : List Ev := (h.set m (at' h (h.length - 1))).take (h.length - 1)

theorem remAt_len (h : List Ev) (m : Nat) : (remAt h m).length = h.length - 1 := by simp [remAt]

theorem remAt_perm (h : List Ev) (m : Nat) (hm : m < h.length) : (at' h m :: remAt h m).Perm h := by
  have h1 := set_perm h m (at' h (h.length - 1)) hm
  have h2 : (h.set m (at' h (h.length - 1))) = remAt h m ++ [at' h (h.length - 1)] := by
    unfold remAt
    apply List.ext_getElem?
    intro j
    by_cases hj : j < h.length - 1
    · rw [List.getElem?_append_left (by simp; omega), List.getElem?_take, if_pos hj]
    · rw [List.getElem?_append_right (by simp; omega)]
      by_cases hj2 : j = h.length - 1
      · subst hj2
        by_cases h0 : m = h.length - 1
        · subst h0
          simp [hm]
        · rw [List.getElem?_set_ne (by omega)]
          simp [at', show h.length - 1 < h.length by omega]
      · rw [List.getElem?_eq_none (by simp; omega), List.getElem?_eq_none (by simp; omega)]
  rw [h2] at h1
  have h3 : (at' h (h.length - 1) :: (at' h m :: remAt h m)).Perm (at' h (h.length - 1) :: h) := by
    refine List.Perm.trans ?_ h1
    refine (List.Perm.swap _ _ _).trans (List.Perm.cons _ ?_)
    exact List.perm_append_singleton _ _ |>.symm
  exact (List.perm_cons _).1 h3

/-- The three slices of the model hold the events M. -/
structure MSt (w : World) (base n gp cp gk ck gs cs : Nat) (M : List Ev) : Prop where
  len : n = M.length
  p : w.ownsRow base 2 1 (.slice (some ⟨gp, 0, none⟩) n cp) n (M.map fun e => .int .i64 e.t)
  k : w.ownsRow base 5 1 (.slice (some ⟨gk, 0, none⟩) n ck) n (M.map fun e => .int .u8 e.k)
  s : w.ownsRow base 32 1 (.slice (some ⟨gs, 0, none⟩) n cs) n (M.map fun e => .int .u64 e.s)

theorem map_at {α : Type} (M : List Ev) (f : Ev → α) (i : Nat) (hi : i < M.length) : (M.map f)[i]? = some (f (at' M i)) := by
  rw [at'_eq M i hi]; simp [hi]

theorem MSt.cells {w : World} {base n gp cp gk ck gs cs : Nat} {M : List Ev} (h : MSt w base n gp cp gk ck gs cs M) (i : Nat) (hi : i < n) :
    w.cell? ⟨gp, i, none⟩ = some (.int .i64 (at' M i).t) ∧ w.cell? ⟨gk, i, none⟩ = some (.int .u8 (at' M i).k) ∧ w.cell? ⟨gs, i, none⟩ = some (.int .u64 (at' M i).s) := by
  have hl := h.len
  exact ⟨by rw [h.p.cellAt i (by omega), map_at _ _ _ (by omega)], by rw [h.k.cellAt i (by omega), map_at _ _ _ (by omega)], by rw [h.s.cellAt i (by omega), map_at _ _ _ (by omega)]⟩

theorem owns_block {w : World} {base e size g n cap : Nat} {xs : List Value} (h : w.ownsRow base e size (.slice (some ⟨g, 0, none⟩) n cap) n xs) : ∃ cur, w.heap[g]? = some (.cells cur e (0, 0)) ∧ base ≤ g ∧ n ≤ cap := by
  rcases h.2 with ⟨hv, _⟩ | ⟨g', cap', cur, hv, hb, hg, hn, _⟩
  · simp at hv
  · have h1 := (Value.slice.inj hv).1
    have h2 := (Value.slice.inj hv).2.2
    simp only [Option.some.injEq, Addr.mk.injEq, and_true] at h1
    subst h1
    exact ⟨cur, hg, hb, by omega⟩

theorem owns_of_block {w w' : World} {base e size n : Nat} {v : Value} {xs : List Value} (h : w.ownsRow base e size v n xs) (hb : ∀ g, v.ownBlock = some g → w'.heap[g]? = w.heap[g]?) : w'.ownsRow base e size v n xs := by
  obtain ⟨h1, h2⟩ := h
  refine ⟨h1, ?_⟩
  rcases h2 with h2 | ⟨g, cap, cur, hv, hg, hh, r⟩
  · exact .inl h2
  · exact .inr ⟨g, cap, cur, hv, hg, by rw [hb g (by rw [hv]; rfl)]; exact hh, r⟩

theorem FrQ.tag {base Q g e : Nat} {w w' : World} {cur : Array Value} {fr : Nat × Nat} (h : FrQ base Q w w') (hg : w.heap[g]? = some (.cells cur e fr)) (he : e ≠ 35) (hQ : g ≠ Q) : w'.heap[g]? = w.heap[g]? :=
  h.block g (lt_of_block hg) hQ (fun _ c f hc => by
    rw [hg] at hc
    have := Obj.cells.inj (Option.some.inj hc)
    exact he this.2.1)

theorem MSt.frq {w w' : World} {base Q n gp cp gk ck gs cs : Nat} {M : List Ev} (h : MSt w base n gp cp gk ck gs cs M) (hf : FrQ base Q w w') (hQ : Q < base) : MSt w' base n gp cp gk ck gs cs M := by
  obtain ⟨cp', hp, bp, _⟩ := owns_block h.p
  obtain ⟨ck', hk, bk, _⟩ := owns_block h.k
  obtain ⟨cs', hs, bs, _⟩ := owns_block h.s
  refine ⟨h.len, owns_of_block h.p ?_, owns_of_block h.k ?_, owns_of_block h.s ?_⟩
  · intro g hg
    have : gp = g := Option.some.inj hg
    subst this
    exact hf.tag hp (by decide) (by omega)
  · intro g hg
    have : gk = g := Option.some.inj hg
    subst this
    exact hf.tag hk (by decide) (by omega)
  · intro g hg
    have : gs = g := Option.some.inj hg
    subst this
    exact hf.tag hs (by decide) (by omega)

theorem MSt.ne {w : World} {base n gp cp gk ck gs cs : Nat} {M : List Ev} (h : MSt w base n gp cp gk ck gs cs M) : gp ≠ gk ∧ gp ≠ gs ∧ gk ≠ gs := by
  obtain ⟨cp', hp, _⟩ := owns_block h.p
  obtain ⟨ck', hk, _⟩ := owns_block h.k
  obtain ⟨cs', hs, _⟩ := owns_block h.s
  refine ⟨fun e => ?_, fun e => ?_, fun e => ?_⟩
  · subst e; rw [hp] at hk; simp at hk
  · subst e; rw [hp] at hs; simp at hs
  · subst e; rw [hk] at hs; simp at hs

theorem MSt.drewN {w : World} {base n gp cp gk ck gs cs : Nat} {M : List Ev} (h : MSt w base n gp cp gk ck gs cs M) (m : Nat) : MSt (w.drewN m) base n gp cp gk ck gs cs M := ⟨h.len, h.p, h.k, h.s⟩
theorem MSt.alloc {w : World} {base n gp cp gk ck gs cs : Nat} {M : List Ev} (h : MSt w base n gp cp gk ck gs cs M) (o : Obj) : MSt (w.alloc o) base n gp cp gk ck gs cs M := ⟨h.len, h.p.alloc o, h.k.alloc o, h.s.alloc o⟩

theorem map_set' (M : List Ev) (f : Ev → Value) (m : Nat) (e : Ev) : (M.map f).set m (f e) = (M.set m e).map f := by rw [List.map_set]

/-- Behind the three stores and the three cuts. -/
theorem MSt.rem {w : World} {base n gp cp gk ck gs cs : Nat} {M : List Ev} (h : MSt w base (n + 1) gp cp gk ck gs cs M) (m : Nat) (hm : m < n + 1) :
    MSt (((w.setCell ⟨gp, m, none⟩ (.int .i64 (at' M n).t)).setCell ⟨gk, m, none⟩ (.int .u8 (at' M n).k)).setCell ⟨gs, m, none⟩ (.int .u64 (at' M n).s)) base n gp cp gk ck gs cs (remAt M m) := by
  have hl := h.len
  obtain ⟨n1, n2, n3⟩ := h.ne
  have hrem : remAt M m ++ [at' (M.set m (at' M n)) n] = M.set m (at' M n) := by
    unfold remAt
    rw [show M.length - 1 = n by omega]
    apply List.ext_getElem?
    intro j
    by_cases hj : j < n
    · rw [List.getElem?_append_left (by simp; omega), List.getElem?_take, if_pos hj]
    · rw [List.getElem?_append_right (by simp; omega)]
      by_cases hj2 : j = n
      · subst hj2
        simp [at', show j < M.length by omega, show min j M.length = j by omega]
      · rw [List.getElem?_eq_none (by simp; omega), List.getElem?_eq_none (by simp; omega)]
  have hlr : (remAt M m).length = n := by rw [remAt_len]; omega
  refine ⟨by omega, ?_, ?_, ?_⟩
  · have r1 := (h.p.stored m (.int .i64 (at' M n).t)).1
    rw [map_set' M (fun e => .int .i64 e.t) m (at' M n), ← hrem, List.map_append] at r1
    have r2 := ownsRow_pop (by simp [hlr]) r1
    exact ownsRow_setCell_other (a := ⟨gs, m, none⟩) (ownsRow_setCell_other (a := ⟨gk, m, none⟩) r2 (fun hc => n1 (Option.some.inj hc)) _) (fun hc => n2 (Option.some.inj hc)) _
  · have r1 := ((ownsRow_setCell_other h.k (a := ⟨gp, m, none⟩) (fun hc => n1 (Option.some.inj hc).symm) (.int .i64 (at' M n).t)).stored m (.int .u8 (at' M n).k)).1
    rw [map_set' M (fun e => .int .u8 e.k) m (at' M n), ← hrem, List.map_append] at r1
    have r2 := ownsRow_pop (by simp [hlr]) r1
    exact ownsRow_setCell_other (a := ⟨gs, m, none⟩) r2 (fun hc => n3 (Option.some.inj hc)) _
  · have r1 := ((ownsRow_setCell_other (ownsRow_setCell_other h.s (a := ⟨gp, m, none⟩) (fun hc => n2 (Option.some.inj hc).symm) (.int .i64 (at' M n).t)) (a := ⟨gk, m, none⟩) (fun hc => n3 (Option.some.inj hc).symm) (.int .u8 (at' M n).k)).stored m (.int .u64 (at' M n).s)).1
    rw [map_set' M (fun e => .int .u64 e.s) m (at' M n), ← hrem, List.map_append] at r1
    exact ownsRow_pop (by simp [hlr]) r1

set_option maxHeartbeats 1000000 in
theorem modelBefore_any (base n gp cp gk ck gs cs i j : Nat) (M : List Ev) (w : World) (h : MSt w base n gp cp gk ck gs cs M) (hi : i < n) (hj : j < n) :
    Calls Try.prog 33 #[.slice (some ⟨gp, 0, none⟩) n cp, .slice (some ⟨gk, 0, none⟩) n ck, .slice (some ⟨gs, 0, none⟩) n cs, .int .i64 i, .int .i64 j] w fun r w' => r = .returned (.bool (ltB (at' M i) (at' M j))) ∧ ∃ N, w' = w.drewN N := by
  obtain ⟨a0, a1, a2⟩ := h.cells i hi
  obtain ⟨b0, b1, b2⟩ := h.cells j hj
  have hi1 : (i : Int) < (n : Int) := by omega
  have hj1 : (j : Int) < (n : Int) := by omega
  have hi0 : (0 : Int) ≤ (i : Int) := by omega
  have hj0 : (0 : Int) ≤ (j : Int) := by omega
  clear h
  generalize at' M i = a at a0 a1 a2 ⊢
  generalize at' M j = b at b0 b1 b2 ⊢
  obtain ⟨ta, ka, sa⟩ := a
  obtain ⟨tb, kb, sb⟩ := b
  simp only at a0 a1 a2 b0 b1 b2
  by_cases h1 : ta = tb
  · subst h1
    by_cases h2 : ka = kb
    · subst h2
      go_enter Try.func33, Try.ntmps33
      go_wp2
      go_quiet (fail)
      go_wp2
      go_quiet (fail)
      go_wp2
      go_quiet (fail)
      go_wp2
      go_ret
      exact ⟨ret_b (by simp [ltB]), by simp only [World.drewN_drewN]; exact ⟨_, rfl⟩⟩
    · have h2' : (ka != kb) = true := by simpa using h2
      go_enter Try.func33, Try.ntmps33
      go_wp2
      go_quiet (fail)
      go_wp2
      go_quiet (fail)
      go_wp2
      go_quiet (fail)
      go_wp2
      go_ret
      exact ⟨ret_b (by simp [ltB, h2]), by simp only [World.drewN_drewN]; exact ⟨_, rfl⟩⟩
  · have h1' : (ta != tb) = true := by simpa using h1
    go_enter Try.func33, Try.ntmps33
    go_wp2
    go_quiet (fail)
    go_wp2
    go_quiet (fail)
    go_wp2
    go_ret
    exact ⟨ret_b (by simp [ltB, h1]), by simp only [World.drewN_drewN]; exact ⟨_, rfl⟩⟩
end Go.Proofs.Qxb6000059a
