/- '(*queue).pop': its walk. -/
import Derived.Test.Qxb6000059aPush
namespace Go.Proofs.Qxb6000059a
open Go.RowKit
set_option linter.unusedVariables false
set_option linter.unusedSimpArgs false
attribute [local go_sem ↓] Go.wp_at_zero Go.wp_at_succ wp_build29 ldI_fold stI_fold
attribute [local go_sem] ldI_run stI_run EvT_drewN' EvT_drew' evAt_drewN evAt_drew isEv_eq aggOf_eq

def evZ : Ev := ⟨0, 0, 0⟩

/-- The state of pop behind its head. -/
structure PopSt (w wr : World) (base Q gg n cap B0 B1 : Nat) (v : Value) (top : Ev) (h : List Ev) : Prop where
  row : EvRow wr base (.slice (some ⟨gg, 0, none⟩) n cap) h
  len : n = h.length
  blk : wr.heap[Q]? = some (.cells #[v] 29 (0, 0))
  fr : FrQ base Q w wr
  t0 : EvT wr B0 0
  t1 : EvIs wr B1 0 top
  lo : Q < base
  hi : base ≤ wr.heap.size
  n0 : B0 ≠ gg
  n1 : B1 ≠ gg
  n2 : B0 ≠ Q
  n3 : B1 ≠ Q
  g0 : Q ≠ gg
  fg : ∀ k, k < w.heap.size → k ≠ Q → k ≠ gg → wr.heap[k]? = w.heap[k]?

theorem PopSt.drewN {w wr : World} {base Q gg n cap B0 B1 : Nat} {v : Value} {top : Ev} {h : List Ev} (s : PopSt w wr base Q gg n cap B0 B1 v top h) (m : Nat) : PopSt w (wr.drewN m) base Q gg n cap B0 B1 v top h :=
  ⟨s.row, s.len, s.blk, s.fr.drewN m, s.t0, s.t1, s.lo, s.hi, s.n0, s.n1, s.n2, s.n3, s.g0, s.fg⟩

theorem EvIs.put_far {w : World} {g o : Nat} {x : Ev} (h : EvIs w g o x) (g' o' : Nat) (e : Ev) (ha : g ≠ g') : EvIs (putEv w g' o' e) g o x :=
  ⟨World.rangeAt_setCells_apart h.1 _ _ _ (.inl ha), World.there_setCells h.2 _ _ _⟩
theorem EvIs.put_same {w : World} {g o : Nat} (h : EvT w g o) (e : Ev) : EvIs (putEv w g o e) g o e := by
  obtain ⟨x, hx⟩ := h
  exact ⟨World.rangeAt_setCells_same _ _ _ _ hx.2, World.there_setCells hx.2 _ _ _⟩

theorem PopSt.ev {w wr : World} {base Q gg n cap B0 B1 : Nat} {v : Value} {top : Ev} {h : List Ev} (s : PopSt w wr base Q gg n cap B0 B1 v top h) (i : Nat) (hi : i < n) : EvIs wr gg (i * 7) (at' h i) := by
  have := s.len
  rw [at'_eq h i (by omega)]
  exact s.row.at s.len i (by omega)

theorem PopSt.swap {w wr : World} {base Q gg n cap B0 B1 : Nat} {v : Value} {top : Ev} {h : List Ev} (s : PopSt w wr base Q gg n cap B0 B1 v top h) (i j : Nat) (hi : i < n) (hj : j < n) :
    PopSt w (putEv (putEv wr gg (i * 7) (at' h j)) gg (j * 7) (at' h i)) base Q gg n cap B0 B1 v top (swp h i j) := by
  have hl := s.len
  obtain ⟨r1, g1⟩ := s.row.put hl i (by omega) (at' h j)
  obtain ⟨r2, g2⟩ := r1.put (by simpa using hl) j (by simp; omega) (at' h i)
  have hne' : some Q ≠ some gg := fun hc => s.g0 (Option.some.inj hc)
  have hQl := lt_of_block s.blk
  refine ⟨r2, by rw [swp_len]; exact hl, ?_, ?_, ?_, ?_, s.lo, Nat.le_trans s.hi (Nat.le_trans g1.size g2.size), s.n0, s.n1, s.n2, s.n3, s.g0, fun k hk k1 k2 => ?_⟩
  · rw [g2.block Q (Nat.lt_of_lt_of_le hQl g1.size) hne', g1.block Q hQl hne']
    exact s.blk
  · exact ((s.fr.grown g1 (fun k hk => owns_tag s.row k hk)).grown g2 (fun k hk => owns_tag r1 k hk))
  · exact (s.t0.put _ _ _ (.inr (.inr (.inr s.n0)))).put _ _ _ (.inr (.inr (.inr s.n0)))
  · exact (s.t1.put_far _ _ _ s.n1).put_far _ _ _ s.n1
  · have hkl : k < wr.heap.size := Nat.lt_of_lt_of_le hk s.fr.size
    have hkg : some k ≠ some gg := fun hc => k2 (Option.some.inj hc)
    rw [g2.block k (Nat.lt_of_lt_of_le hkl g1.size) hkg, g1.block k hkl hkg]
    exact s.fg k hk k1 k2

theorem flat_take (es : List Ev) (k : Nat) : (es.take k).flatMap evc ++ (es.drop k).flatMap evc = es.flatMap evc := by
  rw [← List.flatMap_append, List.take_append_drop]

/-- Behind pop's head: the result's box, the top's box, the last event at the head, the last place struck. -/
theorem pop_start {w : World} {base Q gg n cap : Nat} {es : List Ev} (hq : QIs w base Q (.slice (some ⟨gg, 0, none⟩) (n + 1) cap) es) (hn : n + 1 = es.length) :
    PopSt w (putEv (putEv ((w.alloc (.cells (evArr evZ) 35)).alloc (.cells (evArr evZ) 35)) (w.heap.size + 1) 0 (at' es 0)) gg (0 * 7) (at' es n)) base Q gg n cap w.heap.size (w.heap.size + 1) (.slice (some ⟨gg, 0, none⟩) (n + 1) cap) (at' es 0) (popped es) := by
  have hQl := lt_of_block hq.blk
  have hgl := World.ownsRow.lt hq.row gg rfl
  have hQg : Q ≠ gg := by have := hq.lo; omega
  -- the two boxes
  have b0 : EvIs (w.alloc (.cells (evArr evZ) 35)) w.heap.size 0 evZ := box_ev w evZ
  have b1 : EvIs ((w.alloc (.cells (evArr evZ) 35)).alloc (.cells (evArr evZ) 35)) (w.heap.size + 1) 0 evZ := by
    have := box_ev (w.alloc (.cells (evArr evZ) 35)) evZ
    rwa [World.size_alloc] at this
  have b0' : EvIs ((w.alloc (.cells (evArr evZ) 35)).alloc (.cells (evArr evZ) 35)) w.heap.size 0 evZ := ⟨World.rangeAt_alloc b0.1 _, World.there_alloc b0.2 _⟩
  -- the row
  have r0 : EvRow ((w.alloc (.cells (evArr evZ) 35)).alloc (.cells (evArr evZ) 35)) base (.slice (some ⟨gg, 0, none⟩) (n + 1) cap) es := World.ownsRow.alloc (World.ownsRow.alloc hq.row _) _
  generalize hW : (w.alloc (.cells (evArr evZ) 35)).alloc (.cells (evArr evZ) 35) = W at b0' b1 r0
  have hWs : W.heap.size = w.heap.size + 2 := by rw [← hW]; simp
  have hfr : FrQ base Q w W := by rw [← hW]; exact ((FrQ.refl base Q w).alloc _).alloc _
  have hWQ : W.heap[Q]? = some (.cells #[.slice (some ⟨gg, 0, none⟩) (n + 1) cap] 29 (0, 0)) := by
    rw [← hW, Below.heap_alloc _ _ _ (by simp; omega), Below.heap_alloc _ _ _ hQl]; exact hq.blk
  have hblk1 : ∀ k, k ≠ w.heap.size + 1 → (putEv W (w.heap.size + 1) 0 (at' es 0)).heap[k]? = W.heap[k]? := by
    intro k hk
    have : ∀ (cs : List Value) (o : Nat) (W : World), (W.setCells (w.heap.size + 1) o cs).heap[k]? = W.heap[k]? := by
      intro cs
      induction cs with
      | nil => intro o W; rfl
      | cons c cs ih => intro o W; rw [World.setCells, ih, Below.heap_setCell _ _ _ _ hk]
    exact this _ _ _
  have hsz1 : (putEv W (w.heap.size + 1) 0 (at' es 0)).heap.size = W.heap.size := by
    have : ∀ (cs : List Value) (o : Nat) (W : World), (W.setCells (w.heap.size + 1) o cs).heap.size = W.heap.size := by
      intro cs
      induction cs with
      | nil => intro o W; rfl
      | cons c cs ih => intro o W; rw [World.setCells, ih]; simp [World.setCell]
    exact this _ _ _
  have hos1 : (putEv W (w.heap.size + 1) 0 (at' es 0)).os = W.os ∧ (putEv W (w.heap.size + 1) 0 (at' es 0)).tape = W.tape ∧ (putEv W (w.heap.size + 1) 0 (at' es 0)).output = W.output := by
    have : ∀ (cs : List Value) (o : Nat) (W : World), (W.setCells (w.heap.size + 1) o cs).os = W.os ∧ (W.setCells (w.heap.size + 1) o cs).tape = W.tape ∧ (W.setCells (w.heap.size + 1) o cs).output = W.output := by
      intro cs
      induction cs with
      | nil => intro o W; exact ⟨rfl, rfl, rfl⟩
      | cons c cs ih => intro o W; exact ih _ _
    exact this _ _ _
  have c1 : EvIs (putEv W (w.heap.size + 1) 0 (at' es 0)) (w.heap.size + 1) 0 (at' es 0) := EvIs.put_same ⟨_, b1⟩ _
  have c0 : EvT (putEv W (w.heap.size + 1) 0 (at' es 0)) w.heap.size 0 := EvT.put ⟨_, b0'⟩ _ _ _ (.inr (.inr (.inr (by omega))))
  have r1 : EvRow (putEv W (w.heap.size + 1) 0 (at' es 0)) base (.slice (some ⟨gg, 0, none⟩) (n + 1) cap) es := by
    obtain ⟨h1, h2⟩ := r0
    refine ⟨h1, ?_⟩
    rcases h2 with h2 | ⟨g, cap', cur, hv, hg, hh, r⟩
    · exact .inl h2
    · have hgg : g = gg := by have := Value.slice.inj hv; simpa using this.1.symm
      exact .inr ⟨g, cap', cur, hv, hg, by rw [hblk1 g (by omega)]; exact hh, r⟩
  have f1 : FrQ base Q w (putEv W (w.heap.size + 1) 0 (at' es 0)) := ⟨hos1.1.trans hfr.os, hos1.2.1.trans hfr.tape, hos1.2.2.trans hfr.output, by rw [hsz1]; exact hfr.size, fun k hk h1 h2 => by rw [hblk1 k (by omega)]; exact hfr.block k hk h1 h2⟩
  have q1 : (putEv W (w.heap.size + 1) 0 (at' es 0)).heap[Q]? = some (.cells #[.slice (some ⟨gg, 0, none⟩) (n + 1) cap] 29 (0, 0)) := by rw [hblk1 Q (by omega)]; exact hWQ
  generalize hW1 : putEv W (w.heap.size + 1) 0 (at' es 0) = W1 at c1 c0 r1 f1 q1 hsz1
  obtain ⟨r2, g2⟩ := r1.put hn 0 (by omega) (at' es n)
  refine ⟨?_, by rw [popped_len]; omega, ?_, f1.grown g2 (fun k hk => owns_tag r1 k hk), c0.put _ _ _ (.inr (.inr (.inr (by omega)))), c1.put_far _ _ _ (by omega), hq.lo, ?_, by omega, by omega, by omega, by omega, hQg, fun k hk k1 k2 => ?_⟩
  · unfold EvRow at r2 ⊢
    rw [List.length_set, ← hn] at r2
    rw [popped_len, ← hn, Nat.add_sub_cancel]
    have hp : popped es = (es.set 0 (at' es n)).take n := by unfold popped; rw [← hn, Nat.add_sub_cancel]
    rw [hp]
    rw [← flat_take (es.set 0 (at' es n)) n] at r2
    exact ownsRow_pop (by rw [flat_len, List.length_take, List.length_set]; congr 1; omega) r2
  · rw [g2.block Q (by have := lt_of_block q1; omega) (fun hc => hQg (Option.some.inj hc))]
    exact q1
  · have := g2.size
    have := hq.hi
    omega
  · have hkg : some k ≠ some gg := fun hc => k2 (Option.some.inj hc)
    rw [g2.block k (by omega) hkg, ← hW1, hblk1 k (by omega), ← hW, Below.heap_alloc _ _ _ (by simp; omega), Below.heap_alloc _ _ _ hk]

theorem results_cell {fn : Func} {p : Tmp} {ty : TypeId} (h : fn.results = #[.cell p ty]) (tmps : Array Value) (P : Program) (w : World) :
    (results fn tmps).run P w = ((asAddr (tmps.getD p undef)).run P w).andThen fun a w₁ => (loadVar ty a).run P w₁ := by
  simp only [results, h]
  simp [Sem.run_bind, Result.andThen]

theorem ev_res {fn : Func} {p : Tmp} (h : fn.results = #[.cell p 35]) (tmps : Array Value) (w : World) (g : Nat) (e : Ev) (hp : tmps.getD p undef = .pointer (some ⟨g, 0, none⟩)) (he : EvIs w g 0 e) :
    (results fn tmps).run Try.prog w = .ok (.agg (evArr e)) w := by
  obtain ⟨d, hd, hr⟩ := Option.map_eq_some_iff.1 isRow35
  rw [results_cell h, hp]
  have := run_loadVar_mid (P := Try.prog) w g 0 35 (evc e) d he.1 hd hr size35
  simp only [asAddr, Sem.run_pure, Result.andThen_ok, this]
  rfl

/-- Behind pop's foot: the queue's variable stored, the top stored into the result's box. -/
theorem pop_end {w wr : World} {base Q gg n cap B0 B1 : Nat} {v : Value} {top : Ev} {h : List Ev} (s : PopSt w wr base Q gg n cap B0 B1 v top h) (hB : w.heap.size ≤ B0) :
    EvT (wr.setCell ⟨Q, 0, none⟩ (.slice (some ⟨gg, 0, none⟩) n cap)) B0 0 ∧ EvIs (wr.setCell ⟨Q, 0, none⟩ (.slice (some ⟨gg, 0, none⟩) n cap)) B1 0 top ∧
    QIs (putEv (wr.setCell ⟨Q, 0, none⟩ (.slice (some ⟨gg, 0, none⟩) n cap)) B0 0 top) base Q (.slice (some ⟨gg, 0, none⟩) n cap) h ∧
    FrQ base Q w (putEv (wr.setCell ⟨Q, 0, none⟩ (.slice (some ⟨gg, 0, none⟩) n cap)) B0 0 top) ∧
    (∀ k, k < w.heap.size → k ≠ Q → k ≠ gg → (putEv (wr.setCell ⟨Q, 0, none⟩ (.slice (some ⟨gg, 0, none⟩) n cap)) B0 0 top).heap[k]? = w.heap[k]?) := by
  have hc : ∀ (g o : Nat) (x : Ev), g ≠ Q → EvIs wr g o x → EvIs (wr.setCell ⟨Q, 0, none⟩ (.slice (some ⟨gg, 0, none⟩) n cap)) g o x := fun g o x hne hx =>
    ⟨World.rangeAt_setCells_apart hx.1 Q 0 [.slice (some ⟨gg, 0, none⟩) n cap] (.inl hne), World.there_setCells hx.2 Q 0 [.slice (some ⟨gg, 0, none⟩) n cap]⟩
  have t0 : EvT (wr.setCell ⟨Q, 0, none⟩ (.slice (some ⟨gg, 0, none⟩) n cap)) B0 0 := by
    obtain ⟨x, hx⟩ := s.t0
    exact ⟨x, hc _ _ _ s.n2 hx⟩
  have hblk : ∀ k, k ≠ B0 → ∀ W : World, (putEv W B0 0 top).heap[k]? = W.heap[k]? := by
    intro k hk
    have : ∀ (cs : List Value) (o : Nat) (W : World), (W.setCells B0 o cs).heap[k]? = W.heap[k]? := by
      intro cs
      induction cs with
      | nil => intro o W; rfl
      | cons c cs ih => intro o W; rw [World.setCells, ih, Below.heap_setCell _ _ _ _ hk]
    exact fun W => this _ _ _
  have hsz : ∀ W : World, (putEv W B0 0 top).heap.size = W.heap.size := by
    have : ∀ (cs : List Value) (o : Nat) (W : World), (W.setCells B0 o cs).heap.size = W.heap.size := by
      intro cs
      induction cs with
      | nil => intro o W; rfl
      | cons c cs ih => intro o W; rw [World.setCells, ih]; simp [World.setCell]
    exact fun W => this _ _ _
  have hos : ∀ W : World, (putEv W B0 0 top).os = W.os ∧ (putEv W B0 0 top).tape = W.tape ∧ (putEv W B0 0 top).output = W.output := by
    have : ∀ (cs : List Value) (o : Nat) (W : World), (W.setCells B0 o cs).os = W.os ∧ (W.setCells B0 o cs).tape = W.tape ∧ (W.setCells B0 o cs).output = W.output := by
      intro cs
      induction cs with
      | nil => intro o W; exact ⟨rfl, rfl, rfl⟩
      | cons c cs ih => intro o W; exact ih _ _
    exact fun W => this _ _ _
  refine ⟨t0, hc _ _ _ s.n3 s.t1, ⟨?_, ?_, s.lo, ?_⟩, ?_, fun k hk k1 k2 => ?_⟩
  · rw [hblk Q (Ne.symm s.n2)]; exact one_setCell s.blk
  · have r1 : EvRow (wr.setCell ⟨Q, 0, none⟩ (.slice (some ⟨gg, 0, none⟩) n cap)) base (.slice (some ⟨gg, 0, none⟩) n cap) h := ownsRow_setCell_other s.row (fun hc => s.g0 (Option.some.inj hc).symm) _
    obtain ⟨h1, h2⟩ := r1
    refine ⟨h1, ?_⟩
    rcases h2 with h2 | ⟨g, cap', cur, hv, hg, hh, r⟩
    · exact .inl h2
    · have hgg : g = gg := by have := Value.slice.inj hv; simpa using this.1.symm
      exact .inr ⟨g, cap', cur, hv, hg, by rw [hblk g (by have := s.n0; omega)]; exact hh, r⟩
  · rw [hsz]; simpa [World.setCell] using s.hi
  · have f1 := s.fr.setQ 0 (.slice (some ⟨gg, 0, none⟩) n cap)
    obtain ⟨h1, h2, h3⟩ := hos (wr.setCell ⟨Q, 0, none⟩ (.slice (some ⟨gg, 0, none⟩) n cap))
    exact ⟨h1.trans f1.os, h2.trans f1.tape, h3.trans f1.output, by rw [hsz]; exact f1.size, fun k hk k1 k2 => by rw [hblk k (by omega)]; exact f1.block k hk k1 k2⟩
  · rw [hblk k (by omega), Below.heap_setCell _ _ _ _ k1]
    exact s.fg k hk k1 k2

theorem quiet_add {P : Program} {f : FuncId} {args : Array Value} {w : World} {a b : Nat} {v : Value} (h : Calls P f args (w.drewN (a + b)) fun e w' => e = .returned v ∧ ∃ m, w' = (w.drewN (a + b)).drewN m) :
    Calls P f args (w.drewN (a + b)) fun e w'' => e = .returned v ∧ ∃ n, w'' = w.drewN (a + n) :=
  h.mono fun _ _ ⟨he, m, hm⟩ => ⟨he, b + m, by rw [hm, World.drewN_drewN, Nat.add_assoc]⟩
theorem least_b {h : List Ev} {i l r n : Nat} (hl : l = 2 * i + 1) (hr : r = 2 * i + 2) (hn : n = h.length) (c1 : l < n) (c2 : ¬ r < n) (t1 : ltB (at' h l) (at' h i) = true) : IsLeast h i l := by
  subst hl hr hn
  exact ⟨.inr (.inl rfl), c1, Le.of_lt t1, fun _ => Le.refl _, fun h2 => absurd h2 c2⟩
theorem least_c {h : List Ev} {i l r n : Nat} (hl : l = 2 * i + 1) (hr : r = 2 * i + 2) (hn : n = h.length) (c2 : r < n) (t1 : ltB (at' h l) (at' h i) = true) (t2 : ltB (at' h r) (at' h l) = true) : IsLeast h i r := by
  subst hl hr hn
  exact ⟨.inr (.inr rfl), c2, (Le.of_lt t2).trans (Le.of_lt t1), fun _ => Le.of_lt t2, fun _ => Le.refl _⟩
theorem least_d {h : List Ev} {i l r n : Nat} (hl : l = 2 * i + 1) (hr : r = 2 * i + 2) (hn : n = h.length) (c2 : r < n) (t1 : ltB (at' h l) (at' h i) = true) (t2 : ltB (at' h r) (at' h l) = false) : IsLeast h i l := by
  subst hl hr hn
  exact ⟨.inr (.inl rfl), by omega, Le.of_lt t1, fun _ => Le.refl _, fun _ => t2⟩
theorem least_e {h : List Ev} {i l r n : Nat} (hl : l = 2 * i + 1) (hr : r = 2 * i + 2) (hn : n = h.length) (c1 : l < n) (c2 : ¬ r < n) (t1 : ltB (at' h l) (at' h i) = false) : IsLeast h i i := by
  subst hl hr hn
  exact ⟨.inl rfl, by omega, Le.refl _, fun _ => t1, fun h2 => absurd h2 c2⟩
theorem least_f {h : List Ev} {i l r n : Nat} (hl : l = 2 * i + 1) (hr : r = 2 * i + 2) (hn : n = h.length) (c2 : r < n) (t1 : ltB (at' h l) (at' h i) = false) (t2 : ltB (at' h r) (at' h i) = true) : IsLeast h i r := by
  subst hl hr hn
  have t1' : Le (at' h i) (at' h (2 * i + 1)) := t1
  exact ⟨.inr (.inr rfl), c2, Le.of_lt t2, fun _ => (Le.of_lt t2).trans t1', fun _ => Le.refl _⟩
theorem least_g {h : List Ev} {i l r n : Nat} (hl : l = 2 * i + 1) (hr : r = 2 * i + 2) (hn : n = h.length) (c2 : r < n) (t1 : ltB (at' h l) (at' h i) = false) (t2 : ltB (at' h r) (at' h i) = false) : IsLeast h i i := by
  subst hl hr hn
  exact ⟨.inl rfl, by omega, Le.refl _, fun _ => t1, fun _ => t2⟩

set_option maxHeartbeats 4000000 in
set_option maxRecDepth 100000 in
theorem pop_any (base Q gg n cap : Nat) (es : List Ev) (w : World) (hq : QIs w base Q (.slice (some ⟨gg, 0, none⟩) (n + 1) cap) es) (hn : n + 1 = es.length) (hn2 : n ≤ 1048576) (hheap : IsHeap es) :
    Calls Try.prog 32 #[.pointer (some ⟨Q, 0, none⟩)] w fun r w' => r = .returned (.agg (evArr (at' es 0))) ∧ ∃ es', QIs w' base Q (.slice (some ⟨gg, 0, none⟩) n cap) es' ∧ FrQ base Q w w' ∧ (∀ k, k < w.heap.size → k ≠ Q → k ≠ gg → w'.heap[k]? = w.heap[k]?) ∧ IsHeap es' ∧ (at' es 0 :: es').Perm es := by
  have hQl := lt_of_block hq.blk
  have hQc := cell_of_one hq.blk
  have e0 := hq.ev hn 0 (by omega)
  have en := hq.ev hn n (by omega)
  have hgl := (World.ownsRow.lt hq.row gg rfl).2
  have hcap : (n : Int) ≤ (cap : Int) := by
    rcases hq.row.2 with ⟨h, _⟩ | ⟨g, c, cur, hv, _, _, hle, _⟩
    · simp at h
    · have := (Value.slice.inj hv).2.2
      omega
  rw [Nat.zero_mul] at e0
  have a0 : ∀ o, EvIs (w.alloc o) gg 0 (at' es 0) := fun o => ⟨World.rangeAt_alloc e0.1 _, World.there_alloc e0.2 _⟩
  have z0 : EvT (w.alloc (.cells #[.int .i64 0, .int .u64 0, .int .i64 0, .int .i32 0, .int .i32 0, .int .u8 0, .int .i64 0] 35)) w.heap.size 0 := ⟨evZ, box_ev w evZ⟩
  have hT0 : ∀ o, EvT (w.alloc o) gg 0 := fun o => ⟨_, a0 o⟩
  have hA0 : ∀ o, evAt (w.alloc o) gg 0 = at' es 0 := fun o => (a0 o).evAt
  have z1 : ∀ o, EvT ((w.alloc o).alloc (.cells #[.int .i64 0, .int .u64 0, .int .i64 0, .int .i32 0, .int .i32 0, .int .u8 0, .int .i64 0] 35)) (w.heap.size + 1) 0 := fun o => by
    have := box_ev (w.alloc o) evZ
    rw [World.size_alloc] at this
    exact ⟨evZ, this⟩
  have a1 : ∀ o1 o2 x, EvIs (putEv ((w.alloc o1).alloc o2) (w.heap.size + 1) 0 x) gg 0 (at' es 0) := fun o1 o2 x => EvIs.put_far ⟨World.rangeAt_alloc (a0 o1).1 _, World.there_alloc (a0 o1).2 _⟩ _ _ _ (by omega)
  have a2 : ∀ o1 o2 x, EvIs (putEv ((w.alloc o1).alloc o2) (w.heap.size + 1) 0 x) gg (n * 7) (at' es n) := fun o1 o2 x => EvIs.put_far ⟨World.rangeAt_alloc (World.rangeAt_alloc en.1 _) _, World.there_alloc (World.there_alloc en.2 _) _⟩ _ _ _ (by omega)
  have hT1 : ∀ o1 o2 x, EvT (putEv ((w.alloc o1).alloc o2) (w.heap.size + 1) 0 x) gg 0 := fun o1 o2 x => ⟨_, a1 o1 o2 x⟩
  have hT2 : ∀ o1 o2 x, EvT (putEv ((w.alloc o1).alloc o2) (w.heap.size + 1) 0 x) gg (n * 7) := fun o1 o2 x => ⟨_, a2 o1 o2 x⟩
  have hA2 : ∀ o1 o2 x, evAt (putEv ((w.alloc o1).alloc o2) (w.heap.size + 1) 0 x) gg (n * 7) = at' es n := fun o1 o2 x => (a2 o1 o2 x).evAt
  have hst := pop_start hq hn
  have hperm := popped_perm es (by omega)
  have hdown := popped_inv es hheap
  have HST : Hid _ := hst
  have HN : Hid _ := hn
  have HPD : Hid _ := And.intro hperm hdown
  clear hst hn a0 a1 a2 e0 en hperm hdown hq hheap
  go_enter Try.func32, Try.ntmps32
  go_wp2
  go_loopg [6] n (fun m iv wr => ∃ (i : Nat) (h : List Ev), iv = .int .i64 i ∧ PopSt w wr base Q gg n cap w.heap.size (w.heap.size + 1) (.slice (some ⟨gg, 0, none⟩) (n + 1) cap) (at' es 0) h ∧ Hid (DownInv h i ∧ (at' es 0 :: h).Perm es ∧ (i < n ∨ i = 0) ∧ m = n - i))
  case atStart => exact ⟨0, popped es, rfl, HST.out, HPD.out.2, HPD.out.1, .inr rfl, rfl⟩
  case round =>
    clear z0 hT0 hA0 z1 hT1 hT2 hA2 HST HPD
    obtain ⟨i, h, rfl, hst, HD⟩ := hrel
    have hib : i ≤ n := by have := HD.out.2.2.1; omega
    obtain ⟨l, hl⟩ : ∃ l, l = 2 * i + 1 := ⟨_, rfl⟩
    obtain ⟨r, hr⟩ : ∃ r, r = 2 * i + 2 := ⟨_, rfl⟩
    have hle : 2 * (i : Int) + 1 = (l : Int) := by omega
    have hre : 2 * (i : Int) + 2 = (r : Int) := by omega
    have HL : Hid _ := hl
    have HR : Hid _ := hr
    have hlr : l < r := by omega
    have hil : i < l := by omega
    clear hl hr
    have hi0 : (0 : Int) ≤ (i : Int) := by omega
    have hl0 : (0 : Int) ≤ (l : Int) := by omega
    have hr0 : (0 : Int) ≤ (r : Int) := by omega
    by_cases c1 : l < n
    · have c1' : (l : Int) < (n : Int) := by omega
      have ci' : (i : Int) < (n : Int) := by omega
      have ei := hst.ev i (by omega)
      have el := hst.ev l c1
      by_cases t1 : ltB (at' h l) (at' h i) = true
      · by_cases c2 : r < n
        · have c2' : (r : Int) < (n : Int) := by omega
          have er := hst.ev r c2
          by_cases t2 : ltB (at' h r) (at' h l) = true
          · have HLE : Hid _ := least_c HL.out HR.out hst.len c2 t1 t2
            go_wp2
            go_quiet ((go_at_call 35; exact Calls.quiet_of (before_any gg (l * 7) gg (i * 7) (at' h l) (at' h i) _ (el.drewN _) (ei.drewN _))))
            go_wp2
            go_quiet ((go_at_call 35; exact quiet_add (before_any gg (r * 7) gg (l * 7) (at' h r) (at' h l) _ (er.drewN _) (el.drewN _))))
            go_wp2
            have hT1 : EvT wr gg (i * 7) := ⟨_, ei⟩
            have hT2 : EvT wr gg (r * 7) := ⟨_, er⟩
            have hT3 : ∀ W x, EvT W gg (r * 7) → EvT (putEv W gg (i * 7) x) gg (r * 7) := fun W x hx => hx.put _ _ _ (by have := HL.out; have := HR.out; omega)
            have hA1 := ei.evAt
            have hA2 := er.evAt
            have hne : (((r : Nat) : Int) == (i : Int)) = false := by have := HL.out; have := HR.out; simp; omega
            go_wp2
            go_region_law (fail)
            all_goals go_wp2
            all_goals
              go_roundg (n - r)
              case measure => have := HD.out.2.2.2; have := HL.out; have := HR.out; omega
              case rel =>
                have hsw := fun m => (hst.drewN m).swap i r (by omega) (by omega)
                exact ⟨r, swp h i r, rfl, hsw _, down_step h i r (by have := hst.len; omega) HD.out.1 HLE.out (by have := HL.out; have := HR.out; omega), (List.Perm.cons _ (swp_perm h i r (by have := hst.len; omega) (by have := hst.len; omega))).trans HD.out.2.1, .inl (by omega), rfl⟩
          · have t2' : ltB (at' h r) (at' h l) = false := by simpa using t2
            have HLE : Hid _ := least_d HL.out HR.out hst.len c2 t1 t2'
            go_wp2
            go_quiet ((go_at_call 35; exact Calls.quiet_of (before_any gg (l * 7) gg (i * 7) (at' h l) (at' h i) _ (el.drewN _) (ei.drewN _))))
            go_wp2
            go_quiet ((go_at_call 35; exact quiet_add (before_any gg (r * 7) gg (l * 7) (at' h r) (at' h l) _ (er.drewN _) (el.drewN _))))
            go_wp2
            have hT1 : EvT wr gg (i * 7) := ⟨_, ei⟩
            have hT2 : EvT wr gg (l * 7) := ⟨_, el⟩
            have hT3 : ∀ W x, EvT W gg (l * 7) → EvT (putEv W gg (i * 7) x) gg (l * 7) := fun W x hx => hx.put _ _ _ (by have := HL.out; have := HR.out; omega)
            have hA1 := ei.evAt
            have hA2 := el.evAt
            have hne : (((l : Nat) : Int) == (i : Int)) = false := by have := HL.out; have := HR.out; simp; omega
            go_wp2
            go_region_law (fail)
            all_goals go_wp2
            all_goals
              go_roundg (n - l)
              case measure => have := HD.out.2.2.2; have := HL.out; have := HR.out; omega
              case rel =>
                have hsw := fun m => (hst.drewN m).swap i l (by omega) (by omega)
                exact ⟨l, swp h i l, rfl, hsw _, down_step h i l (by have := hst.len; omega) HD.out.1 HLE.out (by have := HL.out; have := HR.out; omega), (List.Perm.cons _ (swp_perm h i l (by have := hst.len; omega) (by have := hst.len; omega))).trans HD.out.2.1, .inl (by omega), rfl⟩
        · have c2' : decide ((r : Int) < (n : Int)) = false := decide_eq_false (by omega)
          have HLE : Hid _ := least_b HL.out HR.out hst.len c1 (by omega) t1
          go_wp2
          go_quiet ((go_at_call 35; exact Calls.quiet_of (before_any gg (l * 7) gg (i * 7) (at' h l) (at' h i) _ (el.drewN _) (ei.drewN _))))
          go_wp2
          go_quiet (fail)
          go_wp2
          have hT1 : EvT wr gg (i * 7) := ⟨_, ei⟩
          have hT2 : EvT wr gg (l * 7) := ⟨_, el⟩
          have hT3 : ∀ W x, EvT W gg (l * 7) → EvT (putEv W gg (i * 7) x) gg (l * 7) := fun W x hx => hx.put _ _ _ (by have := HL.out; have := HR.out; omega)
          have hA1 := ei.evAt
          have hA2 := el.evAt
          have hne : (((l : Nat) : Int) == (i : Int)) = false := by have := HL.out; have := HR.out; simp; omega
          go_wp2
          go_region_law (fail)
          all_goals go_wp2
          all_goals
            go_roundg (n - l)
            case measure => have := HD.out.2.2.2; have := HL.out; have := HR.out; omega
            case rel =>
              have hsw := fun m => (hst.drewN m).swap i l (by omega) (by omega)
              exact ⟨l, swp h i l, rfl, hsw _, down_step h i l (by have := hst.len; omega) HD.out.1 HLE.out (by have := HL.out; have := HR.out; omega), (List.Perm.cons _ (swp_perm h i l (by have := hst.len; omega) (by have := hst.len; omega))).trans HD.out.2.1, .inl (by omega), rfl⟩
      · have t1' : ltB (at' h l) (at' h i) = false := by simpa using t1
        by_cases c2 : r < n
        · have c2' : (r : Int) < (n : Int) := by omega
          have er := hst.ev r c2
          by_cases t2 : ltB (at' h r) (at' h i) = true
          · have HLE : Hid _ := least_f HL.out HR.out hst.len c2 t1' t2
            go_wp2
            go_quiet ((go_at_call 35; exact Calls.quiet_of (before_any gg (l * 7) gg (i * 7) (at' h l) (at' h i) _ (el.drewN _) (ei.drewN _))))
            go_wp2
            go_quiet ((go_at_call 35; exact quiet_add (before_any gg (r * 7) gg (i * 7) (at' h r) (at' h i) _ (er.drewN _) (ei.drewN _))))
            go_wp2
            have hT1 : EvT wr gg (i * 7) := ⟨_, ei⟩
            have hT2 : EvT wr gg (r * 7) := ⟨_, er⟩
            have hT3 : ∀ W x, EvT W gg (r * 7) → EvT (putEv W gg (i * 7) x) gg (r * 7) := fun W x hx => hx.put _ _ _ (by have := HL.out; have := HR.out; omega)
            have hA1 := ei.evAt
            have hA2 := er.evAt
            have hne : (((r : Nat) : Int) == (i : Int)) = false := by have := HL.out; have := HR.out; simp; omega
            go_wp2
            go_region_law (fail)
            all_goals go_wp2
            all_goals
              go_roundg (n - r)
              case measure => have := HD.out.2.2.2; have := HL.out; have := HR.out; omega
              case rel =>
                have hsw := fun m => (hst.drewN m).swap i r (by omega) (by omega)
                exact ⟨r, swp h i r, rfl, hsw _, down_step h i r (by have := hst.len; omega) HD.out.1 HLE.out (by have := HL.out; have := HR.out; omega), (List.Perm.cons _ (swp_perm h i r (by have := hst.len; omega) (by have := hst.len; omega))).trans HD.out.2.1, .inl (by omega), rfl⟩
          · have t2' : ltB (at' h r) (at' h i) = false := by simpa using t2
            go_wp2
            go_quiet ((go_at_call 35; exact Calls.quiet_of (before_any gg (l * 7) gg (i * 7) (at' h l) (at' h i) _ (el.drewN _) (ei.drewN _))))
            go_wp2
            go_quiet ((go_at_call 35; exact quiet_add (before_any gg (r * 7) gg (i * 7) (at' h r) (at' h i) _ (er.drewN _) (ei.drewN _))))
            have heq : ((i : Int) == (i : Int)) = true := by simp
            have hh : IsHeap h := down_stop h i HD.out.1 (least_g HL.out HR.out hst.len c2 t1' t2')
            have HH : Hid _ := hh
            clear hh
            have hbc := cell_of_one hst.blk
            have hbf := free_of_one hst.blk
            have hpe := fun m => pop_end (hst.drewN m) (Nat.le_refl _)
            have hT5 := fun m => (hpe m).1
            have hT6 := fun m => (hpe m).2.1
            have hT7 : ∀ m, EvT ((wr.drewN m).setCell ⟨Q, 0, none⟩ (.slice (some ⟨gg, 0, none⟩) n cap)) (w.heap.size + 1) 0 := fun m => ⟨_, hT6 m⟩
            have hA7 : ∀ m, evAt ((wr.drewN m).setCell ⟨Q, 0, none⟩ (.slice (some ⟨gg, 0, none⟩) n cap)) (w.heap.size + 1) 0 = at' es 0 := fun m => (hT6 m).evAt
            have HQE : Hid _ := hpe
            clear hpe hT6
            go_wp2
            refine bodyPost_ret (v := .agg (evArr (at' es 0))) (ev_res Try.results32 _ _ _ _ rfl (EvIs.put_same (hT5 _) _)) rfl ⟨rfl, h, (HQE.out _).2.2.1, (HQE.out _).2.2.2.1, (HQE.out _).2.2.2.2, HH.out, HD.out.2.1⟩
        · have c2' : decide ((r : Int) < (n : Int)) = false := decide_eq_false (by omega)
          go_wp2
          go_quiet ((go_at_call 35; exact Calls.quiet_of (before_any gg (l * 7) gg (i * 7) (at' h l) (at' h i) _ (el.drewN _) (ei.drewN _))))
          go_wp2
          go_quiet (fail)
          have heq : ((i : Int) == (i : Int)) = true := by simp
          have hh : IsHeap h := down_stop h i HD.out.1 (least_e HL.out HR.out hst.len c1 (by omega) t1')
          have HH : Hid _ := hh
          clear hh
          have hbc := cell_of_one hst.blk
          have hbf := free_of_one hst.blk
          have hpe := fun m => pop_end (hst.drewN m) (Nat.le_refl _)
          have hT5 := fun m => (hpe m).1
          have hT6 := fun m => (hpe m).2.1
          have hT7 : ∀ m, EvT ((wr.drewN m).setCell ⟨Q, 0, none⟩ (.slice (some ⟨gg, 0, none⟩) n cap)) (w.heap.size + 1) 0 := fun m => ⟨_, hT6 m⟩
          have hA7 : ∀ m, evAt ((wr.drewN m).setCell ⟨Q, 0, none⟩ (.slice (some ⟨gg, 0, none⟩) n cap)) (w.heap.size + 1) 0 = at' es 0 := fun m => (hT6 m).evAt
          have HQE : Hid _ := hpe
          clear hpe hT6
          go_wp2
          refine bodyPost_ret (v := .agg (evArr (at' es 0))) (ev_res Try.results32 _ _ _ _ rfl (EvIs.put_same (hT5 _) _)) rfl ⟨rfl, h, (HQE.out _).2.2.1, (HQE.out _).2.2.2.1, (HQE.out _).2.2.2.2, HH.out, HD.out.2.1⟩
    · have c1' : decide ((l : Int) < (n : Int)) = false := decide_eq_false (by omega)
      have c2' : ¬ r < n := by omega
      go_wp2
      go_quiet (fail)
      go_wp2
      go_quiet (fail)
      have heq : ((i : Int) == (i : Int)) = true := by simp
      have hh : IsHeap h := down_out h i HD.out.1 (by have := hst.len; have := HL.out; omega)
      have HH : Hid _ := hh
      clear hh
      have hbc := cell_of_one hst.blk
      have hbf := free_of_one hst.blk
      have hpe := fun m => pop_end (hst.drewN m) (Nat.le_refl _)
      have hT5 := fun m => (hpe m).1
      have hT6 := fun m => (hpe m).2.1
      have hT7 : ∀ m, EvT ((wr.drewN m).setCell ⟨Q, 0, none⟩ (.slice (some ⟨gg, 0, none⟩) n cap)) (w.heap.size + 1) 0 := fun m => ⟨_, hT6 m⟩
      have hA7 : ∀ m, evAt ((wr.drewN m).setCell ⟨Q, 0, none⟩ (.slice (some ⟨gg, 0, none⟩) n cap)) (w.heap.size + 1) 0 = at' es 0 := fun m => (hT6 m).evAt
      have HQE : Hid _ := hpe
      clear hpe hT6
      go_wp2
      refine bodyPost_ret (v := .agg (evArr (at' es 0))) (ev_res Try.results32 _ _ _ _ rfl (EvIs.put_same (hT5 _) _)) rfl ⟨rfl, h, (HQE.out _).2.2.1, (HQE.out _).2.2.2.1, (HQE.out _).2.2.2.2, HH.out, HD.out.2.1⟩
end Go.Proofs.Qxb6000059a
