/- The small functions round the queue. -/
import Derived.Test.Qxb6000059aPop
namespace Go.Proofs.Qxb6000059a
open Go.RowKit
set_option linter.unusedVariables false
set_option linter.unusedSimpArgs false
attribute [local go_sem ↓] Go.wp_at_zero Go.wp_at_succ wp_build29 ldI_fold stI_fold
attribute [local go_sem] ldI_run stI_run EvT_drewN' EvT_drew' evAt_drewN evAt_drew isEv_eq aggOf_eq

theorem tick_any (e : Ev) (w : World) : Calls Try.prog 17 #[.agg (evArr e)] w fun r w' => r = .returned (.int .i64 e.t) ∧ w.alloc (.cells (evArr e) 35) = w' := by
  have hb := (box_ev w e).cells
  obtain ⟨h0, h1, h5⟩ := hb
  go_enter Try.func17, Try.ntmps17
  go_wp2
  go_ret
  exact ⟨rfl, rfl⟩

theorem kind_any (e : Ev) (w : World) : Calls Try.prog 18 #[.agg (evArr e)] w fun r w' => r = .returned (.int .u8 e.k) ∧ w.alloc (.cells (evArr e) 35) = w' := by
  have hb := (box_ev w e).cells
  obtain ⟨h0, h1, h5⟩ := hb
  go_enter Try.func18, Try.ntmps18
  go_wp2
  go_ret
  exact ⟨rfl, rfl⟩

theorem seq_any (e : Ev) (w : World) : Calls Try.prog 19 #[.agg (evArr e)] w fun r w' => r = .returned (.int .u64 e.s) ∧ w.alloc (.cells (evArr e) 35) = w' := by
  have hb := (box_ev w e).cells
  obtain ⟨h0, h1, h5⟩ := hb
  go_enter Try.func19, Try.ntmps19
  go_wp2
  go_ret
  exact ⟨rfl, rfl⟩

theorem len_any (Q : Nat) (ao : Option Addr) (n c : Nat) (w : World) (h : w.cell? ⟨Q, 0, none⟩ = some (.slice ao n c)) : Calls Try.prog 14 #[.pointer (some ⟨Q, 0, none⟩)] w fun r w' => r = .returned (.int .i64 n) ∧ w = w' := by
  go_enter Try.func14, Try.ntmps14
  go_wp2
  go_ret
  exact ⟨rfl, rfl⟩

theorem putEv_box (w : World) (e0 e : Ev) : putEv (w.alloc (.cells (evArr e0) 35)) w.heap.size 0 e = w.alloc (.cells (evArr e) 35) := by
  unfold putEv evc
  simp only [World.setCells]
  simp only [World.setCell_alloc_at _ _ _ _ _ rfl]
  rfl

theorem make_any (t s k : Int) (w : World) : Calls Try.prog 13 #[.int .i64 t, .int .u64 s, .int .u8 k] w fun r w' => r = .returned (.agg (evArr ⟨t, k, s⟩)) ∧ w.alloc (.cells (evArr ⟨t, k, s⟩) 35) = w' := by
  have z0 : EvT (w.alloc (.cells #[.int .i64 0, .int .u64 0, .int .i64 0, .int .i32 0, .int .i32 0, .int .u8 0, .int .i64 0] 35)) w.heap.size 0 := ⟨evZ, box_ev w evZ⟩
  have hst := stI_run (w.alloc (.cells #[.int .i64 0, .int .u64 0, .int .i64 0, .int .i32 0, .int .i32 0, .int .u8 0, .int .i64 0] 35)) w.heap.size 0 ⟨t, k, s⟩ z0
  have hst' : (stI (.pointer (some ⟨w.heap.size, 0, none⟩)) (.agg #[.int .i64 t, .int .u64 s, .int .i64 0, .int .i32 0, .int .i32 0, .int .u8 k, .int .i64 0])).run Try.prog (w.alloc (.cells #[.int .i64 0, .int .u64 0, .int .i64 0, .int .i32 0, .int .i32 0, .int .u8 0, .int .i64 0] 35)) = _ := hst
  clear hst
  go_enter Try.func13, Try.ntmps13
  go_wp2
  refine bodyPost_ret (v := .agg (evArr ⟨t, k, s⟩)) (ev_res Try.results13 _ _ _ _ rfl (EvIs.put_same z0 _)) rfl ⟨rfl, (putEv_box w evZ ⟨t, k, s⟩).symm⟩

set_option maxHeartbeats 1000000 in
theorem zzpush_any (base Q : Nat) (v : Value) (es : List Ev) (e : Ev) (w : World) (hq : QIs w base Q v es) (hn : es.length ≤ 1048576) (hheap : IsHeap es) :
    Calls Try.prog 12 #[.pointer (some ⟨Q, 0, none⟩), .agg (evArr e)] w fun r w' => r = .returned (.tuple #[]) ∧ ∃ v' es', QIs w' base Q v' es' ∧ FrQ base Q w w' ∧ IsHeap es' ∧ es'.Perm (es ++ [e]) := by
  have hb := box_ev w e
  have hT : EvT (w.alloc (.cells (evArr e) 35)) w.heap.size 0 := ⟨e, hb⟩
  have hA := hb.evAt
  have hq1 : QIs (w.alloc (.cells (evArr e) 35)) base Q v es := by
    refine ⟨?_, World.ownsRow.alloc hq.row _, hq.lo, Nat.le_trans hq.hi (by simp)⟩
    rw [Below.heap_alloc _ _ _ (lt_of_block hq.blk)]
    exact hq.blk
  have HP := push_any base Q v es e _ hq1 hn hheap
  have hf1 : FrQ base Q w (w.alloc (.cells (evArr e) 35)) := (FrQ.refl base Q w).alloc _
  clear hb
  go_enter Try.func12, Try.ntmps12
  go_wp2_with (go_at_call 30; refine HP.mono ?_; rintro r w' ⟨rfl, hpost⟩)
  go_end0
  obtain ⟨v', es', h1, h2, h3, h4⟩ := hpost
  exact ⟨rfl, v', es', h1, hf1.trans h2, h3, h4⟩

theorem QIs.alloc {w : World} {base Q : Nat} {v : Value} {es : List Ev} (hq : QIs w base Q v es) (o : Obj) : QIs (w.alloc o) base Q v es := by
  refine ⟨?_, World.ownsRow.alloc hq.row _, hq.lo, Nat.le_trans hq.hi (by simp)⟩
  rw [Below.heap_alloc _ _ _ (lt_of_block hq.blk)]
  exact hq.blk

theorem setCells_far (g k : Nat) (hk : k ≠ g) : ∀ (cs : List Value) (o : Nat) (W : World), (W.setCells g o cs).heap[k]? = W.heap[k]?
  | [], _, _ => rfl
  | c :: cs, o, W => by rw [World.setCells, setCells_far g k hk cs, Below.heap_setCell _ _ _ _ hk]
theorem setCells_size (g : Nat) : ∀ (cs : List Value) (o : Nat) (W : World), (W.setCells g o cs).heap.size = W.heap.size
  | [], _, _ => rfl
  | c :: cs, o, W => by rw [World.setCells, setCells_size g cs]; simp [World.setCell]
theorem setCells_out (g : Nat) : ∀ (cs : List Value) (o : Nat) (W : World), (W.setCells g o cs).os = W.os ∧ (W.setCells g o cs).tape = W.tape ∧ (W.setCells g o cs).output = W.output
  | [], _, _ => ⟨rfl, rfl, rfl⟩
  | c :: cs, o, W => setCells_out g cs (o + 1) (W.setCell ⟨g, o, none⟩ c)

/-- A store of an event into a new block that is none of the queue's. -/
theorem QIs.putNew {w : World} {base Q g : Nat} {v : Value} {es : List Ev} (hq : QIs w base Q v es) (hg : v.ownBlock ≠ some g) (hQ : Q ≠ g) (o : Nat) (e : Ev) : QIs (putEv w g o e) base Q v es := by
  refine ⟨?_, ?_, hq.lo, ?_⟩
  · unfold putEv; rw [setCells_far g Q hQ]; exact hq.blk
  · obtain ⟨h1, h2⟩ := hq.row
    refine ⟨h1, ?_⟩
    rcases h2 with h2 | ⟨g', cap', cur, hv, hg', hh, r⟩
    · exact .inl h2
    · refine .inr ⟨g', cap', cur, hv, hg', ?_, r⟩
      unfold putEv
      rw [setCells_far g g' (fun e => hg (by rw [hv, ← e]; rfl))]
      exact hh
  · unfold putEv; rw [setCells_size]; exact hq.hi
theorem FrQ.putNew {base Q g : Nat} {a b : World} (h : FrQ base Q a b) (hg : a.heap.size ≤ g) (o : Nat) (e : Ev) : FrQ base Q a (putEv b g o e) := by
  obtain ⟨h1, h2, h3⟩ := setCells_out g (evc e) o b
  refine ⟨h1.trans h.os, h2.trans h.tape, h3.trans h.output, ?_, fun k hk k1 k2 => ?_⟩
  · unfold putEv; rw [setCells_size]; exact h.size
  · unfold putEv; rw [setCells_far g k (by omega)]; exact h.block k hk k1 k2

theorem EvIs.of_block {w w' : World} {g o : Nat} {e : Ev} (h : EvIs w g o e) (hb : w'.heap[g]? = w.heap[g]?) : EvIs w' g o e :=
  ⟨fun j v hv => (World.cell?_of_block (w := w) hb).trans (h.1 j v hv), fun j hj => ⟨by rw [World.cell?_of_block (w := w) hb]; exact (h.2 j hj).1, by rw [World.frozen?_of_block (w := w) hb]; exact (h.2 j hj).2⟩⟩
theorem EvT.of_block {w w' : World} {g o : Nat} (h : EvT w g o) (hb : w'.heap[g]? = w.heap[g]?) : EvT w' g o := by
  obtain ⟨e, he⟩ := h
  exact ⟨e, he.of_block hb⟩
theorem pop_box {w w' : World} {base Q gg n cap : Nat} {es : List Ev} {o : Obj} {top : Ev}
    (h : ∃ es', QIs w' base Q (.slice (some ⟨gg, 0, none⟩) n cap) es' ∧ FrQ base Q (w.alloc o) w' ∧ (∀ k, k < (w.alloc o).heap.size → k ≠ Q → k ≠ gg → w'.heap[k]? = (w.alloc o).heap[k]?) ∧ IsHeap es' ∧ (top :: es').Perm es)
    (h1 : w.heap.size ≠ Q) (h2 : w.heap.size ≠ gg) : w'.heap[w.heap.size]? = (w.alloc o).heap[w.heap.size]? := by
  obtain ⟨_, _, _, h3, _⟩ := h
  exact h3 w.heap.size (by simp) h1 h2

set_option maxHeartbeats 1000000 in
theorem zzpop_any (base Q gg n cap : Nat) (es : List Ev) (w : World) (hq : QIs w base Q (.slice (some ⟨gg, 0, none⟩) (n + 1) cap) es) (hn : n + 1 = es.length) (hn2 : n ≤ 1048576) (hheap : IsHeap es) :
    Calls Try.prog 16 #[.pointer (some ⟨Q, 0, none⟩)] w fun r w' => r = .returned (.agg (evArr (at' es 0))) ∧ ∃ es', QIs w' base Q (.slice (some ⟨gg, 0, none⟩) n cap) es' ∧ FrQ base Q w w' ∧ IsHeap es' ∧ (at' es 0 :: es').Perm es := by
  have z0 : EvT (w.alloc (.cells #[.int .i64 0, .int .u64 0, .int .i64 0, .int .i32 0, .int .i32 0, .int .u8 0, .int .i64 0] 35)) w.heap.size 0 := ⟨evZ, box_ev w evZ⟩
  have hf1 : FrQ base Q w (w.alloc (.cells #[.int .i64 0, .int .u64 0, .int .i64 0, .int .i32 0, .int .i32 0, .int .u8 0, .int .i64 0] 35)) := (FrQ.refl base Q w).alloc _
  have HP := pop_any base Q gg n cap es _ (hq.alloc (.cells #[.int .i64 0, .int .u64 0, .int .i64 0, .int .i32 0, .int .i32 0, .int .u8 0, .int .i64 0] 35)) hn hn2 hheap
  have hgl := World.ownsRow.lt hq.row gg rfl
  have hQl := lt_of_block hq.blk
  have hgZ : w.heap.size ≠ Q := by omega
  have hgG : w.heap.size ≠ gg := by omega
  go_enter Try.func16, Try.ntmps16
  go_wp2_with (go_at_call 32; refine HP.mono ?_; rintro r w' ⟨rfl, hpost⟩; have hT9 := z0.of_block (pop_box hpost hgZ hgG))
  obtain ⟨es', h1, h2, h3, h4, h5⟩ := hpost
  refine bodyPost_ret (v := .agg (evArr (at' es 0))) (ev_res Try.results16 _ _ _ _ rfl (EvIs.put_same hT9 _)) rfl ⟨rfl, es', h1.putNew (fun hc => hgG (Option.some.inj hc).symm) (Ne.symm hgZ) 0 _, (hf1.trans h2).putNew (Nat.le_refl _) 0 _, h4, h5⟩
end Go.Proofs.Qxb6000059a
