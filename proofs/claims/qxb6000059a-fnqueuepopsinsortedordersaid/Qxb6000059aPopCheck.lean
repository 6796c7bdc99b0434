/- 'popCheck': its walk. -/
import Derived.Test.Qxb6000059aModel
import Derived.Deep.RegionHeld3
namespace Go.Proofs.Qxb6000059a
open Go.RowKit
set_option linter.unusedVariables false
set_option linter.unusedSimpArgs false

/-- Below 'base', but for the queue's variable, nothing has turned. -/
structure FrB (base Q : Nat) (w w' : World) : Prop where
  os : w'.os = w.os
  tape : w'.tape = w.tape
  output : w'.output = w.output
  size : w.heap.size ≤ w'.heap.size
  block : ∀ k, k < w.heap.size → k < base → k ≠ Q → w'.heap[k]? = w.heap[k]?

theorem FrB.refl (base Q : Nat) (w : World) : FrB base Q w w := ⟨rfl, rfl, rfl, Nat.le_refl _, fun _ _ _ _ => rfl⟩
theorem FrB.trans {base Q : Nat} {a b c : World} (h : FrB base Q a b) (k : FrB base Q b c) : FrB base Q a c :=
  ⟨k.os.trans h.os, k.tape.trans h.tape, k.output.trans h.output, Nat.le_trans h.size k.size, fun i hi h1 h2 => by
    rw [k.block i (Nat.lt_of_lt_of_le hi h.size) h1 h2, h.block i hi h1 h2]⟩
theorem FrQ.toB {base Q : Nat} {a b : World} (h : FrQ base Q a b) : FrB base Q a b := ⟨h.os, h.tape, h.output, h.size, fun k hk h1 h2 => h.block k hk h2 (fun hb => by omega)⟩
theorem FrB.setCell {base Q : Nat} {a b : World} (h : FrB base Q a b) {g : Nat} (hg : base ≤ g) (o : Nat) (v : Value) : FrB base Q a (b.setCell ⟨g, o, none⟩ v) :=
  ⟨h.os, h.tape, h.output, by simpa [World.setCell] using h.size, fun i hi h1 h2 => by rw [Below.heap_setCell _ _ _ _ (by show i ≠ g; omega), h.block i hi h1 h2]⟩
theorem FrB.alloc {base Q : Nat} {a b : World} (h : FrB base Q a b) (o : Obj) : FrB base Q a (b.alloc o) :=
  ⟨h.os, h.tape, h.output, Nat.le_trans h.size (by simp), fun i hi h1 h2 => by rw [Below.heap_alloc _ _ _ (Nat.lt_of_lt_of_le hi h.size), h.block i hi h1 h2]⟩
theorem FrB.drewN {base Q : Nat} {a b : World} (h : FrB base Q a b) (n : Nat) : FrB base Q a (b.drewN n) := ⟨h.os, h.tape, h.output, h.size, h.block⟩
theorem FrB.drew {base Q : Nat} {a b : World} (h : FrB base Q a b) : FrB base Q a b.drew := ⟨h.os, h.tape, h.output, h.size, h.block⟩
theorem FrB.grown {base Q : Nat} {a b c : World} {row : Option Nat} (h : FrB base Q a b) (hg : b.grownBy c row) (hr : ∀ k, row = some k → base ≤ k) : FrB base Q a c :=
  ⟨hg.os.trans h.os, hg.tape.trans h.tape, hg.output.trans h.output, Nat.le_trans h.size hg.size, fun i hi h1 h2 => by
    rw [hg.block i (Nat.lt_of_lt_of_le hi h.size) (fun hc => by have := hr i hc.symm; omega), h.block i hi h1 h2]⟩

/-- A store into a block of another tag leaves the queue alone. -/
theorem QIs.setOther {w : World} {base Q g : Nat} {v : Value} {es : List Ev} (hq : QIs w base Q v es) (hQ : Q ≠ g) (hg : v.ownBlock ≠ some g) (o : Nat) (u : Value) : QIs (w.setCell ⟨g, o, none⟩ u) base Q v es := by
  refine ⟨?_, ownsRow_setCell_other (a := ⟨g, o, none⟩) hq.row hg u, hq.lo, by simpa [World.setCell] using hq.hi⟩
  rw [Below.heap_setCell _ _ _ _ hQ]
  exact hq.blk

theorem EvT.alloc {w : World} {g o : Nat} (h : EvT w g o) (ob : Obj) : EvT (w.alloc ob) g o := by
  obtain ⟨e, he⟩ := h
  exact ⟨e, World.rangeAt_alloc he.1 _, World.there_alloc he.2 _⟩
theorem evAt_alloc {w : World} {g o : Nat} {e : Ev} (h : EvT w g o) (ha : evAt w g o = e) (ob : Obj) : evAt (w.alloc ob) g o = e := by
  obtain ⟨x, hx⟩ := h
  rw [← ha, hx.evAt]
  exact EvIs.evAt ⟨World.rangeAt_alloc hx.1 _, World.there_alloc hx.2 _⟩
theorem cell_alloc' {w : World} {a : Addr} {v : Value} (h : w.cell? a = some v) (ob : Obj) : (w.alloc ob).cell? a = some v := by
  rw [World.cell?_alloc_lt _ _ _ (World.block_lt_of_cell? w a h)]; exact h

theorem putEv_boxZ (w : World) (e : Ev) : putEv (w.alloc (.cells #[.int .i64 0, .int .u64 0, .int .i64 0, .int .i32 0, .int .i32 0, .int .u8 0, .int .i64 0] 35)) w.heap.size 0 e = w.alloc (.cells (evArr e) 35) := putEv_box w evZ e

theorem least_eq {es M : List Ev} (hp : es.Perm M) (hh : IsHeap es) (m : Nat) (hm : m < M.length) (hl : ∀ j, j < M.length → Le (at' M m) (at' M j)) : at' es 0 = at' M m := by
  have hel : 0 < es.length := by rw [hp.length_eq]; omega
  apply Le.antisymm
  · apply heap_min es hh
    rw [at'_eq M m hm]
    exact hp.symm.subset (List.getElem_mem hm)
  · have h0 : at' es 0 ∈ M := by
      rw [at'_eq es 0 hel]
      exact hp.subset (List.getElem_mem hel)
    obtain ⟨j, hj, he⟩ := List.getElem_of_mem h0
    rw [← he, ← at'_eq M j hj]
    exact hl j hj

attribute [local go_sem ↓] Go.wp_at_zero Go.wp_at_succ wp_build29 ldI_fold stI_fold
attribute [local go_sem] ldI_run stI_run EvT_drewN' EvT_drew' evAt_drewN evAt_drew isEv_eq aggOf_eq putEv_boxZ

theorem least_zero (M : List Ev) : ∀ j, j < 1 → Le (at' M 0) (at' M j) := fun j hj => by
  have : j = 0 := by omega
  subst this
  exact Le.refl _
theorem least_up {M : List Ev} {m i : Nat} (h : ∀ j, j < i → Le (at' M m) (at' M j)) (t : ltB (at' M i) (at' M m) = true) : ∀ j, j < i + 1 → Le (at' M i) (at' M j) := fun j hj => by
  by_cases e : j = i
  · subst e; exact Le.refl _
  · exact (Le.of_lt t).trans (h j (by omega))
theorem least_stay {M : List Ev} {m i : Nat} (h : ∀ j, j < i → Le (at' M m) (at' M j)) (t : ltB (at' M i) (at' M m) = false) : ∀ j, j < i + 1 → Le (at' M m) (at' M j) := fun j hj => by
  by_cases e : j = i
  · subst e; exact t
  · exact h j (by omega)

/-- The end of popCheck. -/
theorem pop_fin {w W : World} {base Q gg n cap gp cp gc ck gs cs : Nat} {es es' M : List Ev} {e : Ev} (hq : QIs W base Q (.slice (some ⟨gg, 0, none⟩) n cap) es') (hm : MSt W base (n + 1) gp cp gc ck gs cs M) (m : Nat) (hml : m < n + 1)
    (hperm : es.Perm M) (he0 : at' es 0 = e) (hem : at' M m = e) (hh : IsHeap es') (hp : (e :: es').Perm es) (hf : FrB base Q w W) :
    ∃ es'' M', QIs (((W.setCell ⟨gp, m, none⟩ (.int .i64 (at' M n).t)).setCell ⟨gc, m, none⟩ (.int .u8 (at' M n).k)).setCell ⟨gs, m, none⟩ (.int .u64 (at' M n).s)) base Q (.slice (some ⟨gg, 0, none⟩) n cap) es'' ∧
      MSt (((W.setCell ⟨gp, m, none⟩ (.int .i64 (at' M n).t)).setCell ⟨gc, m, none⟩ (.int .u8 (at' M n).k)).setCell ⟨gs, m, none⟩ (.int .u64 (at' M n).s)) base n gp cp gc ck gs cs M' ∧ es''.Perm M' ∧ IsHeap es'' ∧
      FrB base Q w (((W.setCell ⟨gp, m, none⟩ (.int .i64 (at' M n).t)).setCell ⟨gc, m, none⟩ (.int .u8 (at' M n).k)).setCell ⟨gs, m, none⟩ (.int .u64 (at' M n).s)) := by
  have hl := hm.len
  obtain ⟨cp', hp', bp, _⟩ := owns_block hm.p
  obtain ⟨ck', hk', bk, _⟩ := owns_block hm.k
  obtain ⟨cs', hs', bs, _⟩ := owns_block hm.s
  obtain ⟨be, ce', fe', he'⟩ := owns_tag hq.row gg rfl
  have lo := hq.lo
  have hgp : gg ≠ gp := fun e => by subst e; rw [hp'] at he'; simp at he'
  have hgk : gg ≠ gc := fun e => by subst e; rw [hk'] at he'; simp at he'
  have hgs : gg ≠ gs := fun e => by subst e; rw [hs'] at he'; simp at he'
  refine ⟨es', remAt M m, ?_, hm.rem m hml, ?_, hh, ?_⟩
  · exact ((hq.setOther (by omega) (fun hc => hgp (Option.some.inj hc)) m _).setOther (by omega) (fun hc => hgk (Option.some.inj hc)) m _).setOther (by omega) (fun hc => hgs (Option.some.inj hc)) m _
  · have h1 := remAt_perm M m (by omega)
    rw [hem] at h1
    have h2 := (hp.trans hperm).trans h1.symm
    exact (List.perm_cons _).1 h2
  · exact ((hf.setCell bp m _).setCell bk m _).setCell bs m _

set_option maxHeartbeats 4000000 in
set_option maxRecDepth 100000 in
theorem popCheck_any (base Q gg n cap gp cp gc ck gs cs : Nat) (es M : List Ev) (w : World) (hq : QIs w base Q (.slice (some ⟨gg, 0, none⟩) (n + 1) cap) es) (hm : MSt w base (n + 1) gp cp gc ck gs cs M)
    (hperm : es.Perm M) (hheap : IsHeap es) (hn2 : n ≤ 1048576) :
    Calls Try.prog 21 #[.pointer (some ⟨Q, 0, none⟩), .slice (some ⟨gp, 0, none⟩) (n + 1) cp, .slice (some ⟨gc, 0, none⟩) (n + 1) ck, .slice (some ⟨gs, 0, none⟩) (n + 1) cs] w fun r w' =>
      r = .returned (.tuple #[.bool true, .slice (some ⟨gp, 0, none⟩) n cp, .slice (some ⟨gc, 0, none⟩) n ck, .slice (some ⟨gs, 0, none⟩) n cs]) ∧
      ∃ es' M', QIs w' base Q (.slice (some ⟨gg, 0, none⟩) n cap) es' ∧ MSt w' base n gp cp gc ck gs cs M' ∧ es'.Perm M' ∧ IsHeap es' ∧ FrB base Q w w' := by
  have HM : Hid (MSt w base (n + 1) gp cp gc ck gs cs M) := hm
  have HQ : Hid (QIs w base Q (.slice (some ⟨gg, 0, none⟩) (n + 1) cap) es) := hq
  have HL : Hid (n + 1 = M.length) := hm.len
  have HPM : Hid (es.Perm M ∧ IsHeap es) := ⟨hperm, hheap⟩
  clear hm hq hperm hheap
  go_enter Try.func21, Try.ntmps21
  go_wp2
  go_loopw [12, 13] (fun mv iv wr => ∃ (m i N : Nat), mv = .int .i64 m ∧ iv = .int .i64 i ∧ 1 ≤ i ∧ i ≤ n + 1 ∧ m < i ∧ Hid (∀ j, j < i → Le (at' M m) (at' M j)) ∧ wr = w.drewN N)
    (fun _ i _ => n + 1 - (intOf i).toNat)
  case atStart => exact ⟨0, 1, 0, rfl, rfl, by omega, by omega, by omega, least_zero M, rfl⟩
  case round =>
    obtain ⟨m, i, N, rfl, rfl, hi1, hi2, hmi, HD, rfl⟩ := hrel
    by_cases hlt : i < n + 1
    · by_cases t : ltB (at' M i) (at' M m) = true
      · go_wp2_with (go_at_call 33; refine (modelBefore_any base (n + 1) gp cp gc ck gs cs i m M _ (HM.out.drewN _) (by omega) (by omega)).mono ?_; rintro r w' ⟨rfl, ⟨N', rfl⟩⟩)
        go_roundw
        case rel => exact ⟨i, i + 1, N + N', rfl, by go_num, by omega, by omega, by omega, least_up HD.out t, by simp⟩
        case measure => simp [intOf]; omega
      · have t' : ltB (at' M i) (at' M m) = false := by simpa using t
        go_wp2_with (go_at_call 33; refine (modelBefore_any base (n + 1) gp cp gc ck gs cs i m M _ (HM.out.drewN _) (by omega) (by omega)).mono ?_; rintro r w' ⟨rfl, ⟨N', rfl⟩⟩)
        go_roundw
        case rel => exact ⟨m, i + 1, N + N', rfl, by go_num, by omega, by omega, by omega, least_stay HD.out t', by simp⟩
        case measure => simp [intOf]; omega
    · have hie : i = n + 1 := by omega
      have HE : Hid (at' es 0 = at' M m) := least_eq HPM.out.1 HPM.out.2 m (by have := HL.out; omega) (fun j hj => HD.out j (by have := HL.out; omega))
      clear HD
      obtain ⟨e, he⟩ : ∃ e, at' M m = e := ⟨_, rfl⟩
      have hlen : n + 1 = es.length := by rw [HPM.out.1.length_eq]; exact HL.out
      have HP := zzpop_any base Q gg n cap es (w.drewN N) (HQ.out.drewN N) hlen hn2 HPM.out.2
      rw [HE.out, he] at HP
      have HME : Hid _ := he
      clear hlen he hie
      have hz : ∀ W : World, EvT (W.alloc (.cells #[.int .i64 0, .int .u64 0, .int .i64 0, .int .i32 0, .int .i32 0, .int .u8 0, .int .i64 0] 35)) W.heap.size 0 := fun W => ⟨evZ, box_ev W evZ⟩
      have hi3 : (m : Int) < (n : Int) + 1 := by omega
      have hi4 : (0 : Int) ≤ (m : Int) := by omega
      go_wp2_with (go_at_call 16; refine HP.mono ?_; rintro r w1 ⟨rfl, hpost⟩)
      obtain ⟨es', hq1, hf1, hh1, hp1⟩ := hpost
      have hm1 : MSt w1 base (n + 1) gp cp gc ck gs cs M := (HM.out.drewN N).frq hf1 HQ.out.lo
      have hc := hm1.cells m (by omega)
      rw [HME.out] at hc
      obtain ⟨c0, c1, c2⟩ := hc
      have HM1 : Hid _ := hm1
      have HQ1 : Hid _ := hq1
      have HF1 : Hid _ := hf1
      have HR : Hid _ := And.intro hh1 hp1
      clear hm1 hq1 hf1 hh1 hp1 hz HP
      have hb := box_ev w1 e
      have hT : EvT (w1.alloc (.cells (evArr e) 35)) w1.heap.size 0 := ⟨e, hb⟩
      have hA := hb.evAt
      have d0 := cell_alloc' c0 (.cells (evArr e) 35)
      have d1 := cell_alloc' c1 (.cells (evArr e) 35)
      have d2 := cell_alloc' c2 (.cells (evArr e) 35)
      clear hb c0 c1 c2
      go_region_held3 (fun w' => EvT w' w1.heap.size 0 ∧ evAt w' w1.heap.size 0 = e ∧ w'.cell? ⟨gp, m, none⟩ = some (.int .i64 e.t) ∧ w'.cell? ⟨gc, m, none⟩ = some (.int .u8 e.k) ∧ w'.cell? ⟨gs, m, none⟩ = some (.int .u64 e.s))
        (first | (go_split_ands; refine ⟨?_, ?_, ?_, ?_, ?_⟩ <;> (simp only [EvT_drew', evAt_drew, World.cell?_drew]; assumption)) | (go_split_ands; refine ⟨?_, ?_, ?_, ?_, ?_⟩ <;> first | (apply EvT.alloc; assumption) | (apply evAt_alloc; assumption; assumption) | (apply cell_alloc'; assumption)))
        (first | (go_at_call 17; refine (tick_any e _).mono ?_; rintro r w' ⟨rfl, rfl⟩) | (go_at_call 18; refine (kind_any e _).mono ?_; rintro r w' ⟨rfl, rfl⟩) | (go_at_call 19; refine (seq_any e _).mono ?_; rintro r w' ⟨rfl, rfl⟩))
      have hm2 : MSt ((((w1.alloc (.cells (evArr e) 35)).alloc (.cells (evArr e) 35)).alloc (.cells (evArr e) 35)).alloc (.cells (evArr e) 35)).drew base (n + 1) gp cp gc ck gs cs M := ((((MSt.alloc HM1.out _).alloc _).alloc _).alloc _).drewN 1
      have hq2 : QIs ((((w1.alloc (.cells (evArr e) 35)).alloc (.cells (evArr e) 35)).alloc (.cells (evArr e) 35)).alloc (.cells (evArr e) 35)).drew base Q (.slice (some ⟨gg, 0, none⟩) n cap) es' := ((((QIs.alloc HQ1.out _).alloc _).alloc _).alloc _).drew
      have hf2 : FrB base Q w ((((w1.alloc (.cells (evArr e) 35)).alloc (.cells (evArr e) 35)).alloc (.cells (evArr e) 35)).alloc (.cells (evArr e) 35)).drew := ((((FrB.trans ((FrB.refl base Q w).drewN N) (FrQ.toB HF1.out)).alloc _).alloc _).alloc _).alloc _ |>.drew
      clear hT hA d0 d1 d2
      generalize hWW : ((((w1.alloc (.cells (evArr e) 35)).alloc (.cells (evArr e) 35)).alloc (.cells (evArr e) 35)).alloc (.cells (evArr e) 35)).drew = W at hm2 hq2 hf2 ⊢
      have key := pop_fin hq2 hm2 m (by omega) HPM.out.1 (by rw [HE.out, HME.out]) HME.out HR.out.1 HR.out.2 hf2
      obtain ⟨b0, b1, b2⟩ := hm2.cells n (by omega)
      obtain ⟨a0, a1, a2⟩ := hm2.cells m (by omega)
      obtain ⟨n1, n2, n3⟩ := hm2.ne
      have f0 := hm2.p.frozenAt m
      have f1 := hm2.k.frozenAt m
      have f2 := hm2.s.frozenAt m
      obtain ⟨_, _, _, k0⟩ := owns_block hm2.p
      obtain ⟨_, _, _, k1⟩ := owns_block hm2.k
      obtain ⟨_, _, _, k2⟩ := owns_block hm2.s
      have n1' := Ne.symm n1
      have n2' := Ne.symm n2
      have n3' := Ne.symm n3
      have k0' : (n : Int) ≤ (cp : Int) := by omega
      have k1' : (n : Int) ≤ (ck : Int) := by omega
      have k2' : (n : Int) ≤ (cs : Int) := by omega
      clear hm2 hq2 hf2 HM1 HQ1 HF1 HR hWW
      have KEY : Hid _ := key
      clear key
      go_wp2
      go_quiet (fail)
      go_wp2
      obtain ⟨es'', M', q, mm, pm, hh, fr⟩ := KEY.out
      refine bodyPost_ret (v := .tuple #[.bool true, .slice (some ⟨gp, 0, none⟩) n cp, .slice (some ⟨gc, 0, none⟩) n ck, .slice (some ⟨gs, 0, none⟩) n cs]) (by simp [results, Try.results21, go_sem]) rfl ⟨rfl, es'', M', q.drewN _, mm.drewN _, pm, hh, fr.drewN _⟩
end Go.Proofs.Qxb6000059a
