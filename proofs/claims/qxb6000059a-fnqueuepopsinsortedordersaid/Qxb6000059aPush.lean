/- '(*queue).push': its walk. -/
import Derived.Test.Qxb6000059aEv
import Derived.Deep.RegionLaw
import Derived.Deep.AppendLies
import Derived.Deep.DrawnRows
import Derived.Deep.RegionHeld3
import Derived.Deep.LoopGhost
import Derived.Deep.DeepCutAuto
namespace Go.Proofs.Qxb6000059a
open Go.RowKit
set_option linter.unusedVariables false
set_option linter.unusedSimpArgs false
attribute [local go_sem ↓] Go.wp_at_zero Go.wp_at_succ wp_build29 ldI_fold stI_fold
attribute [local go_sem] ldI_run stI_run EvT_drewN' EvT_drew' evAt_drewN evAt_drew isEv_eq aggOf_eq

structure QIs (w : World) (base Q : Nat) (v : Value) (es : List Ev) : Prop where
  blk : w.heap[Q]? = some (.cells #[v] 29 (0, 0))
  row : EvRow w base v es
  lo : Q < base
  hi : base ≤ w.heap.size

theorem box_ev (w : World) (e : Ev) : EvIs (w.alloc (.cells (evArr e) 35)) w.heap.size 0 e := by
  have hc : ∀ j, (w.alloc (.cells (evArr e) 35)).cell? ⟨w.heap.size, j, none⟩ = (evc e)[j]? := fun j => by
    rw [cell_of_row _ w.heap.size j (evArr e) 35 (0, 0) (heap_alloc_new w _)]
    simp [evArr_eq]
  refine ⟨fun j v hv => by rw [Nat.zero_add, hc, hv], fun j hj => ⟨?_, ?_⟩⟩
  · rw [Nat.zero_add, hc, List.getElem?_eq_getElem (by rw [evc_len]; exact hj)]; rfl
  · exact frozen_of_row _ w.heap.size _ (evArr e) 35 (heap_alloc_new w _)

theorem two_new (w : World) (o1 o2 : Obj) : ((w.alloc o1).alloc o2).drew.heap[w.heap.size + 1]? = some o2 := by
  have := heap_alloc_new (w.alloc o1) o2
  rwa [World.size_alloc] at this

theorem q_far {w w1 : World} {base Q : Nat} {v : Value} {es : List Ev} {o1 o2 : Obj} (hq : QIs w base Q v es) (hg : ((w.alloc o1).alloc o2).drew.grownBy w1 v.ownBlock) : w1.heap[Q]? = some (.cells #[v] 29 (0, 0)) := by
  have hQl : Q < w.heap.size := lt_of_block hq.blk
  have h1 : w1.heap[Q]? = ((w.alloc o1).alloc o2).drew.heap[Q]? := hg.block Q (by simp; omega) (fun hc => by
    have := World.ownsRow.lt hq.row Q hc.symm
    have := hq.lo
    omega)
  rw [h1]
  show ((w.alloc o1).alloc o2).heap[Q]? = _
  rw [Below.heap_alloc _ _ _ (by simp; omega), Below.heap_alloc _ _ _ hQl]
  exact hq.blk

/-- What push and pop leave alone: every block that is not the queue's variable nor, from 'base' on, a row of events. -/
structure FrQ (base Q : Nat) (w w' : World) : Prop where
  os : w'.os = w.os
  tape : w'.tape = w.tape
  output : w'.output = w.output
  size : w.heap.size ≤ w'.heap.size
  block : ∀ k, k < w.heap.size → k ≠ Q → (base ≤ k → ∀ c fr, w.heap[k]? ≠ some (.cells c 35 fr)) → w'.heap[k]? = w.heap[k]?

theorem FrQ.refl (base Q : Nat) (w : World) : FrQ base Q w w := ⟨rfl, rfl, rfl, Nat.le_refl _, fun _ _ _ _ => rfl⟩
theorem FrQ.trans {base Q : Nat} {a b c : World} (h : FrQ base Q a b) (k : FrQ base Q b c) : FrQ base Q a c :=
  ⟨k.os.trans h.os, k.tape.trans h.tape, k.output.trans h.output, Nat.le_trans h.size k.size, fun i hi h1 h2 => by
    have e := h.block i hi h1 h2
    rw [k.block i (Nat.lt_of_lt_of_le hi h.size) h1 (by rw [e]; exact h2), e]⟩
theorem FrQ.drewN {base Q : Nat} {a b : World} (h : FrQ base Q a b) (n : Nat) : FrQ base Q a (b.drewN n) := ⟨h.os, h.tape, h.output, h.size, h.block⟩
theorem FrQ.drew {base Q : Nat} {a b : World} (h : FrQ base Q a b) : FrQ base Q a b.drew := ⟨h.os, h.tape, h.output, h.size, h.block⟩
theorem FrQ.alloc {base Q : Nat} {a b : World} (h : FrQ base Q a b) (o : Obj) : FrQ base Q a (b.alloc o) :=
  ⟨h.os, h.tape, h.output, Nat.le_trans h.size (by simp), fun i hi h1 h2 => by rw [Below.heap_alloc _ _ _ (Nat.lt_of_lt_of_le hi h.size), h.block i hi h1 h2]⟩
theorem FrQ.setQ {base Q : Nat} {a b : World} (h : FrQ base Q a b) (o : Nat) (v : Value) : FrQ base Q a (b.setCell ⟨Q, o, none⟩ v) :=
  ⟨h.os, h.tape, h.output, by simpa [World.setCell] using h.size, fun i hi h1 h2 => by rw [Below.heap_setCell _ _ _ _ h1, h.block i hi h1 h2]⟩
/-- The one row that was written is a row of events from 'base' on. -/
theorem FrQ.grown {base Q : Nat} {a b c : World} {row : Option Nat} (h : FrQ base Q a b) (hg : b.grownBy c row) (hr : ∀ k, row = some k → base ≤ k ∧ ∃ cs fr, b.heap[k]? = some (.cells cs 35 fr)) : FrQ base Q a c :=
  ⟨hg.os.trans h.os, hg.tape.trans h.tape, hg.output.trans h.output, Nat.le_trans h.size hg.size, fun i hi h1 h2 => by
    have e := h.block i hi h1 h2
    rw [hg.block i (Nat.lt_of_lt_of_le hi h.size) (fun hc => by
      obtain ⟨hb, cs, fr, hcs⟩ := hr i hc.symm
      rw [e] at hcs
      exact h2 hb cs fr hcs), e]⟩

theorem owns_tag {w : World} {base e size n : Nat} {v : Value} {xs : List Value} (h : w.ownsRow base e size v n xs) : ∀ k, v.ownBlock = some k → base ≤ k ∧ ∃ cs fr, w.heap[k]? = some (.cells cs e fr) := by
  intro k hk
  rcases h.2 with ⟨hv, _⟩ | ⟨g, cap, cur, hv, hb, hg, _⟩
  · rw [hv] at hk; simp [Value.ownBlock] at hk
  · rw [hv] at hk
    simp only [Value.ownBlock, Option.some.injEq] at hk
    subst hk
    exact ⟨hb, cur, _, hg⟩

theorem QIs.own_ne {w : World} {base Q : Nat} {v : Value} {es : List Ev} (h : QIs w base Q v es) : v.ownBlock ≠ some Q := fun hc => by
  have := World.ownsRow.lt h.row Q hc
  have := h.lo
  omega

theorem flat_snoc (es : List Ev) (e : Ev) : (es ++ [e]).flatMap evc = es.flatMap evc ++ evc e := by simp

/-- Behind the append and the store into the variable. -/
theorem q_push {w w1 : World} {base Q gg cap : Nat} {v : Value} {es : List Ev} {e : Ev} {o1 o2 : Obj} (hq : QIs w base Q v es)
    (hown : w1.ownsRow base 35 7 (.slice (some ⟨gg, 0, none⟩) (es.length + 1) cap) (es.length + 1) (es.flatMap evc ++ evc e))
    (hg : ((w.alloc o1).alloc o2).drew.grownBy w1 v.ownBlock) (hQ1 : w1.heap[Q]? = some (.cells #[v] 29 (0, 0))) :
    QIs (w1.setCell ⟨Q, 0, none⟩ (.slice (some ⟨gg, 0, none⟩) (es.length + 1) cap)) base Q (.slice (some ⟨gg, 0, none⟩) (es.length + 1) cap) (es ++ [e]) ∧
    FrQ base Q w (w1.setCell ⟨Q, 0, none⟩ (.slice (some ⟨gg, 0, none⟩) (es.length + 1) cap)) := by
  have hne : (Value.slice (some ⟨gg, 0, none⟩) (es.length + 1) cap).ownBlock ≠ some Q := fun hc => by
    have := hown.lt Q hc
    have := hq.lo
    omega
  refine ⟨⟨one_setCell hQ1, ?_, hq.lo, ?_⟩, ?_⟩
  · unfold EvRow
    rw [flat_snoc, List.length_append]
    exact ownsRow_setCell_other hown hne _
  · have h1 := hg.size
    have h2 := hq.hi
    simp [World.setCell] at h1 ⊢
    omega
  · refine FrQ.setQ (FrQ.grown (((FrQ.refl base Q w).alloc o1).alloc o2).drew hg ?_) 0 _
    intro k hk
    obtain ⟨hb, cs, fr, hcs⟩ := owns_tag hq.row k hk
    refine ⟨hb, cs, fr, ?_⟩
    have hlt := lt_of_block hcs
    show ((w.alloc o1).alloc o2).heap[k]? = _
    rw [Below.heap_alloc _ _ _ (by simp; omega), Below.heap_alloc _ _ _ hlt]
    exact hcs

/-- Behind an exchange. -/
theorem q_swap {w : World} {base Q g n cap : Nat} {es : List Ev} (hq : QIs w base Q (.slice (some ⟨g, 0, none⟩) n cap) es) (hn : n = es.length) (i j : Nat) (hi : i < n) (hj : j < n) :
    QIs (putEv (putEv w g (i * 7) (at' es j)) g (j * 7) (at' es i)) base Q (.slice (some ⟨g, 0, none⟩) n cap) (swp es i j) ∧ FrQ base Q w (putEv (putEv w g (i * 7) (at' es j)) g (j * 7) (at' es i)) := by
  obtain ⟨r1, g1⟩ := hq.row.put hn i (by omega) (at' es j)
  obtain ⟨r2, g2⟩ := r1.put (by simpa using hn) j (by simp; omega) (at' es i)
  have hne := hq.own_ne
  have hne' : some Q ≠ some g := fun hc => hne hc.symm
  have hQl := lt_of_block hq.blk
  refine ⟨⟨?_, r2, hq.lo, Nat.le_trans hq.hi (Nat.le_trans g1.size g2.size)⟩, ?_⟩
  · rw [g2.block Q (Nat.lt_of_lt_of_le hQl g1.size) hne', g1.block Q hQl hne']
    exact hq.blk
  · refine (((FrQ.refl base Q w).grown g1 ?_).grown g2 ?_)
    · intro k hk; exact owns_tag hq.row k hk
    · intro k hk; exact owns_tag r1 k hk

theorem QIs.drewN {w : World} {base Q : Nat} {v : Value} {es : List Ev} (h : QIs w base Q v es) (n : Nat) : QIs (w.drewN n) base Q v es := ⟨h.blk, h.row, h.lo, h.hi⟩
theorem QIs.drew {w : World} {base Q : Nat} {v : Value} {es : List Ev} (h : QIs w base Q v es) : QIs w.drew base Q v es := ⟨h.blk, h.row, h.lo, h.hi⟩
theorem QIs.ev {w : World} {base Q g n cap : Nat} {es : List Ev} (hq : QIs w base Q (.slice (some ⟨g, 0, none⟩) n cap) es) (hn : n = es.length) (i : Nat) (hi : i < n) : EvIs w g (i * 7) (at' es i) := by
  rw [at'_eq es i (by omega)]
  exact hq.row.at hn i (by omega)

set_option maxHeartbeats 2000000 in
set_option maxRecDepth 100000 in
theorem push_any (base Q : Nat) (v : Value) (es : List Ev) (e : Ev) (w : World) (hq : QIs w base Q v es) (hn : es.length ≤ 1048576) (hheap : IsHeap es) :
    Calls Try.prog 30 #[.pointer (some ⟨Q, 0, none⟩), .agg (evArr e)] w fun r w' => r = .returned (.tuple #[]) ∧ ∃ v' es', QIs w' base Q v' es' ∧ FrQ base Q w w' ∧ IsHeap es' ∧ es'.Perm (es ++ [e]) := by
  obtain ⟨i0, hi0, hz0, hz1, hz2⟩ := info_parts info35
  have hb := box_ev w e
  have hT : EvT (w.alloc (.cells (evArr e) 35)) w.heap.size 0 := ⟨e, hb⟩
  have hA := hb.evAt
  have hQl : Q < w.heap.size := lt_of_block hq.blk
  have hQc := cell_of_one hq.blk
  have hQf := free_of_one hq.blk
  have hrow := hq.row
  have hlo := hq.lo
  have hhi := hq.hi
  clear hb
  go_enter Try.func30, Try.ntmps30
  go_wp2
  go_cut [] (fun wx => ∃ gg cap, QIs wx base Q (.slice (some ⟨gg, 0, none⟩) (es.length + 1) cap) (es ++ [e]) ∧ FrQ base Q w wx)
  case first =>
    go_region_law ((refine step_append_lies _ (by rfl) _ _ _ (by rfl) base 35 i0 _ 7 48 Try.underlying29 hi0 hz0 hz1 hz2 rfl (by omega) v es.length (es.flatMap evc) (by rfl) (by exact (World.ownsRow.alloc hrow _).alloc _) ⟨w.heap.size + 1, 0, none⟩ 1 1 (evc e) (by rfl) (by rfl) (World.news_of_block (cs := evArr e) (t := 35) (fr := (0, 0)) (two_new w _ _)) (by simp [evc, Value.oneCell']) (by omega) (by unfold maxLen; omega) (by omega) (by simp; omega) (w.heap.size + 2) (by simp) ?_; intro gg cap w1 hown1 hgrow hat hlt; have hQ1 := q_far hq hgrow; have hQc1 := cell_of_one hQ1; have hQf1 := free_of_one hQ1))
    all_goals
      go_wp2_with fail
      go_meet
      case rel => exact ⟨gg, cap, q_push hq hown1 hgrow hQ1⟩
  case rest =>
    obtain ⟨gg, cap, hq1, hf1⟩ := hcut
    clear hT hA hQl hQc hQf hrow hlo hhi hq
    have hQc := cell_of_one hq1.blk
    go_wp2
    go_loopg [5] es.length (fun k i wr => ∃ h : List Ev, i = .int .i64 k ∧ k < es.length + 1 ∧ QIs wr base Q (.slice (some ⟨gg, 0, none⟩) (es.length + 1) cap) h ∧ FrQ base Q w wr ∧ Hid (UpInv h k ∧ h.Perm (es ++ [e])))
    case atStart => exact ⟨es ++ [e], rfl, by omega, hq1, hf1, up_start es e hheap, List.Perm.refl _⟩
    case round =>
      clear hq1 hf1 hQc
      obtain ⟨h, rfl, hk, hqr, hfr, HU⟩ := hrel
      have hl : es.length + 1 = h.length := by have := HU.out.2.length_eq; simp at this; omega
      have HL : Hid _ := hl
      clear hl
      by_cases h0 : 0 < gk
      · obtain ⟨p, hp⟩ : ∃ p, p = (gk - 1) / 2 := ⟨_, rfl⟩
        have hpe : ((gk : Int) - 1) / 2 = (p : Int) := by omega
        have hpl : p < gk := by omega
        have HP : Hid _ := hp
        clear hp
        have ei := hqr.ev HL.out gk (by omega)
        have ep := hqr.ev HL.out p (by omega)
        by_cases hlt : ltB (at' h gk) (at' h p) = true
        · go_wp2
          go_quiet ((go_at_call 35; exact Calls.quiet_of (before_any gg (gk * 7) gg (p * 7) (at' h gk) (at' h p) _ (ei.drewN _) (ep.drewN _))))
          have hT1 : EvT wr gg (gk * 7) := ⟨_, ei⟩
          have hT2 : EvT wr gg (p * 7) := ⟨_, ep⟩
          have hT3 : ∀ W x, EvT W gg (p * 7) → EvT (putEv W gg (gk * 7) x) gg (p * 7) := fun W x hx => hx.put _ _ _ (by omega)
          have hA1 := ei.evAt
          have hA2 := ep.evAt
          have HE : Hid _ := ei
          have HE2 : Hid _ := ep
          clear ei ep
          have hi1 : (p : Int) < (es.length : Int) + 1 := by omega
          have hi2 : (gk : Int) < (es.length : Int) + 1 := by omega
          have hi3 : (0 : Int) ≤ (p : Int) := by omega
          have hi4 : (0 : Int) ≤ (gk : Int) := by omega
          go_wp2
          go_region_law (fail)
          all_goals go_wp2
          all_goals
            go_roundg p
            case measure => exact hpl
            case rel =>
              have hsw := fun m => q_swap (hqr.drewN m) HL.out gk p (by omega) (by omega)
              have hup := up_step h gk (by have := HL.out; omega) h0 HU.out.1 (by rw [← HP.out]; exact hlt)
              rw [← HP.out] at hup
              exact ⟨swp h gk p, rfl, by omega, (hsw _).1, (hfr.drewN _).trans (hsw _).2, hup, (swp_perm h gk p (by have := HL.out; omega) (by have := HL.out; omega)).trans HU.out.2⟩
        · have hlt' : ltB (at' h gk) (at' h p) = false := by simpa using hlt
          go_wp2
          go_quiet ((go_at_call 35; exact Calls.quiet_of (before_any gg (gk * 7) gg (p * 7) (at' h gk) (at' h p) _ (ei.drewN _) (ep.drewN _))))
          go_wp2
          go_end0
          exact ⟨rfl, _, h, hqr.drewN _, hfr.drewN _, up_stop h gk HU.out.1 (.inr (by rw [← HP.out]; exact hlt')), HU.out.2⟩
      · have hz : gk = 0 := by omega
        subst hz
        go_wp2
        go_end0
        exact ⟨rfl, _, h, hqr, hfr, up_stop h 0 HU.out.1 (.inl rfl), HU.out.2⟩
end Go.Proofs.Qxb6000059a
