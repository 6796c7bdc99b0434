/- FnQueuePopsInSortedOrder: its walk behind the guards. -/
import Derived.Test.Qxb6000059aScript
import Derived.Test.Qxb6000059aSortWalk
namespace Go.Proofs.Qxb6000059a
open Go.RowKit
set_option linter.unusedVariables false
set_option linter.unusedSimpArgs false

theorem sort_zero (ax : Option Addr) (l1 ct : Nat) (ak : Option Addr) (l2 ck : Nat) (w : World) :
    Calls Try.prog 15 #[.slice ax l1 ct, .slice ak l2 ck, .int .i64 0] w fun r w' => ∃ ga, r = .returned (.slice (some ⟨ga, 0, none⟩) 0 0) ∧ Below w.heap.size w w' := by
  have hmk := run_make_row' (P := Try.prog) 38 3 (.int .i64 0) 8 Try.underlying38 info3 rfl .i64 .i64 0 (by omega) (by omega)
  have e0 : ((0 : Nat) : Int) = 0 := rfl
  simp only [e0] at hmk
  clear e0
  go_enter Try.func15, Try.ntmps15
  go_wp2
  refine wp_loop_rounds 1 ?_
  rw [rounds_succ]
  go_wp2
  refine wp_loop_rounds 1 ?_
  rw [rounds_succ]
  go_wp2
  go_ret
  exact ⟨_, rfl, ((Below.refl _ _).alloc (Nat.le_refl _) _).alloc (by simp) _⟩

theorem below_frb' {w w0 wr wx : World} {base Q : Nat} (h2 : FrB base Q w0 wr) (h3 : Below wr.heap.size wr wx) : FrB base Q w0 wx :=
  ⟨h3.os.trans h2.os, h3.tape.trans h2.tape, h3.output.trans h2.output, Nat.le_trans h2.size h3.size, fun k hk h1 h4 => by rw [h3.block k (Nat.lt_of_lt_of_le hk h2.size), h2.block k hk h1 h4]⟩

theorem QIs.below {w w' : World} {base Q : Nat} {v : Value} {es : List Ev} (hq : QIs w base Q v es) (hb : Below w.heap.size w w') : QIs w' base Q v es := by
  refine ⟨?_, ?_, hq.lo, Nat.le_trans hq.hi hb.size⟩
  · rw [hb.block Q (lt_of_block hq.blk)]; exact hq.blk
  · refine owns_of_block hq.row (fun g hg => ?_)
    exact hb.block g (World.ownsRow.lt hq.row g hg).2

theorem row_frq {w w' : World} {base Q g n : Nat} {f : Nat → Value} (h : w.rowIs g 3 n f) (hf : FrQ base Q w w') (hQ : g ≠ Q) : w'.rowIs g 3 n f := by
  obtain ⟨c, hc, h1, h2⟩ := h
  exact ⟨c, (hf.tag hc (by decide) hQ).trans hc, h1, h2⟩

/-- What the loops keep. -/
structure PSt (w0 wr : World) (base Q : Nat) (v : Value) (es : List Ev) : Prop where
  q : QIs wr base Q v es
  hp : IsHeap es
  fr : FrB base Q w0 wr

theorem pst_start {w0 : World} {Q : Nat} (hQ : w0.heap.size = Q + 1) (hb : w0.heap[Q]? = some (.cells #[.slice none 0 0] 29 (0, 0))) : PSt w0 w0 (Q + 1) Q (.slice none 0 0) [] :=
  ⟨⟨hb, World.ownsRow_nil _ _ _ _, by omega, by omega⟩, fun j h0 h1 => by simp at h1, FrB.refl _ _ _⟩

attribute [local go_sem ↓] Go.wp_at_zero Go.wp_at_succ wp_build29 ldI_fold stI_fold
attribute [local go_sem] ldI_run stI_run EvT_drewN' EvT_drew' evAt_drewN evAt_drew isEv_eq aggOf_eq putEv_boxZ

set_option maxHeartbeats 8000000 in
set_option maxRecDepth 100000 in
theorem pops_zero (a1 : Option Addr) (l1 c1 : Nat) (z1 : List Int) (a2 : Option Addr) (l2 c2 : Nat) (z2 : List Int) (w : World)
    (h1 : InRow .i64 w a1 l1 c1 z1) (h2 : InRow .u8 w a2 l2 c2 z2) (b1 : l1 ≤ 65536) (b2 : l2 ≤ 65536) (hz : l1 = 0 ∨ l2 = 0) :
    Calls Try.prog 3 #[.slice a1 l1 c1, .slice a2 l2 c2] w fun e w' => e = .returned (.bool true) ∧ Below w.heap.size w w' := by
  have H1 : Hid _ := h1
  have H2 : Hid _ := h2
  have HZ : Hid (((l1 : Int) < (l2 : Int) ∧ (0 : Int) = (l1 : Int)) ∨ ((l2 : Int) ≤ (l1 : Int) ∧ (0 : Int) = (l2 : Int))) := by show _ ∨ _; omega
  clear h1 h2 hz
  go_enter Try.func3, Try.ntmps3
  go_wp2_with (first
    | (go_at_call 9; refine (clone64_gen a1 l1 c1 z1 _ (by omega) H1.out).mono ?_)
    | go_in)
  rintro e wA ⟨ax, ct, rfl, hr1, hbA⟩
  have BA : Hid _ := hbA
  clear hr1 hbA H1
  go_wp2_with (first
    | (go_at_call 10; refine (clone8_gen a2 l2 c2 z2 _ (by omega) (InRow.below H2.out BA.out)).mono ?_))
  rintro e wB ⟨ak, ck, rfl, hr2, hbB⟩
  have B0 : Hid (Below w.heap.size w wB) := BA.out.trans (hbB.mono BA.out.size)
  clear BA hr2 hbB H2
  go_wp2_with fail
  refine (min_any (l1 : Int) (l2 : Int) 0 _ HZ.out).mono ?_
  rintro r w' ⟨rfl, rfl⟩
  clear HZ
  go_wp2
  refine wp_loop_rounds 1 ?_
  rw [rounds_succ]
  have hqc : (wB.alloc (.cells #[.slice none 0 0] 29)).cell? ⟨wB.heap.size, 0, none⟩ = some (.slice none 0 0) := cell_of_one (heap_alloc_new wB _)
  go_wp2_with fail
  refine (len_any wB.heap.size none 0 0 _ hqc).mono ?_
  rintro r w' ⟨rfl, rfl⟩
  go_wp2_with fail
  refine (sort_zero ax l1 ct ak l2 ck _).mono ?_
  rintro r wD ⟨ga, rfl, hbD⟩
  have B1 : Hid _ := (B0.out.alloc B0.out.size _).trans (hbD.mono (by simp; have := B0.out.size; omega))
  clear hbD hqc
  go_wp2
  refine wp_loop_rounds 1 ?_
  rw [rounds_succ]
  go_wp2
  go_ret
  exact ⟨rfl, B1.out⟩

set_option maxHeartbeats 8000000 in
set_option maxRecDepth 100000 in
theorem pops_main (a1 : Option Addr) (l1 c1 : Nat) (z1 : List Int) (a2 : Option Addr) (l2 c2 : Nat) (z2 : List Int) (w : World)
    (h1 : InRow .i64 w a1 l1 c1 z1) (h2 : InRow .u8 w a2 l2 c2 z2) (b1 : l1 ≤ 65536) (b2 : l2 ≤ 65536) (hz1 : 1 ≤ l1) (hz2 : 1 ≤ l2) :
    Calls Try.prog 3 #[.slice a1 l1 c1, .slice a2 l2 c2] w fun e w' => e = .returned (.bool true) ∧ Below w.heap.size w w' := by
  have H1 : Hid _ := h1
  have H2 : Hid _ := h2
  obtain ⟨n, hn⟩ : ∃ n, n = min l1 l2 := ⟨_, rfl⟩
  have HZ : Hid (((l1 : Int) < (l2 : Int) ∧ (n : Int) = (l1 : Int)) ∨ ((l2 : Int) ≤ (l1 : Int) ∧ (n : Int) = (l2 : Int))) := by show _ ∨ _; omega
  have n1 : n ≤ l1 := by omega
  have n2 : n ≤ l2 := by omega
  have n3 : 1 ≤ n := by omega
  clear h1 h2 hn
  go_enter Try.func3, Try.ntmps3
  go_wp2_with (first
    | (go_at_call 9; refine (clone64_gen a1 l1 c1 z1 _ (by omega) H1.out).mono ?_)
    | go_in)
  rintro e wA ⟨ax, ct, rfl, hr1, hbA⟩
  have BA : Hid _ := hbA
  have R1 : Hid _ := hr1
  clear hr1 hbA H1
  go_wp2_with (first
    | (go_at_call 10; refine (clone8_gen a2 l2 c2 z2 _ (by omega) (InRow.below H2.out BA.out)).mono ?_))
  rintro e wB ⟨ak, ck, rfl, hr2, hbB⟩
  have B0 : Hid (Below w.heap.size w wB) := BA.out.trans (hbB.mono BA.out.size)
  obtain ⟨bt, hbt, _, hbt2, hbtc⟩ := Rd.below R1.out hbB (by omega)
  obtain ⟨bk, hbk, _, hbk2, hbkc⟩ := hr2 (by omega)
  subst hbt
  subst hbk
  have HBT : Hid _ := hbtc
  have HBK : Hid _ := hbkc
  clear BA R1 hr2 hbB H2 hbtc hbkc
  go_wp2_with fail
  refine (min_any (l1 : Int) (l2 : Int) (n : Int) _ HZ.out).mono ?_
  rintro r w' ⟨rfl, rfl⟩
  clear HZ
  go_wp2
  go_loopw [7] (fun iv wr => ∃ (i : Nat) (v : Value) (es : List Ev), iv = .int .i64 i ∧ i ≤ n ∧ Hid (PSt (wB.alloc (.cells #[.slice none 0 0] 29)) wr (wB.heap.size + 1) wB.heap.size v es) ∧ Hid (es.Perm ((List.range i).map (evOf z1 z2))))
    (fun iv _ => n - (intOf iv).toNat)
  case atStart => exact ⟨0, _, [], rfl, by omega, pst_start (by simp) (heap_alloc_new wB _), List.Perm.refl _⟩
  case round =>
    obtain ⟨p, v, es, rfl, hpn, HS, HP⟩ := hrel
    by_cases hlt : p < n
    · obtain ⟨tv, htv⟩ : ∃ x, z1.getD p 0 = x := ⟨_, rfl⟩
      obtain ⟨kv, hkv⟩ : ∃ x, z2.getD p 0 = x := ⟨_, rfl⟩
      have hct : wr.cell? ⟨bt, p, none⟩ = some (.int .i64 tv) := by rw [← htv]; exact rd_cell rfl hbt2 HBT.out HS.out.fr (by omega)
      have hck : wr.cell? ⟨bk, p, none⟩ = some (.int .u8 kv) := by rw [← hkv]; exact rd_cell rfl hbk2 HBK.out HS.out.fr (by omega)
      have HE : Hid ((⟨tv, kv, p⟩ : Ev) = evOf z1 z2 p) := by show _ = _; unfold evOf; rw [htv, hkv]
      clear htv hkv
      have hp1' : (p : Int) < (l1 : Int) := by omega
      have hp2' : (p : Int) < (l2 : Int) := by omega
      have hp0' : (0 : Int) ≤ (p : Int) := by omega
      have hwp : IntKind.u64.wrap (p : Int) = (p : Int) := wrap_p p (by omega)
      have HQI : Hid _ := HS.out.q
      have hws : wB.heap.size < wr.heap.size := lt_of_block HS.out.q.blk
      have hlen : Hid (es.length = p) := by show es.length = p; rw [HP.out.length_eq]; simp
      go_wp2
      go_region_held3 (fun w' => w'.cell? ⟨bt, p, none⟩ = some (.int .i64 tv) ∧ w'.cell? ⟨bk, p, none⟩ = some (.int .u8 kv))
        (first | (go_split_ands; refine ⟨?_, ?_⟩ <;> (simp only [World.cell?_drew]; assumption)) | (go_split_ands; refine ⟨?_, ?_⟩ <;> (apply cell_alloc'; assumption)) | (go_split_ands; exact ⟨(frq_cell hf1 (by omega) (by exact hbt2) (by simp; omega)).trans ‹_›, (frq_cell hf1 (by omega) (by exact hbk2) (by simp; omega)).trans ‹_›⟩))
        (first | (go_at_call 13; refine (make_any tv p kv _).mono ?_; rintro r w' ⟨rfl, rfl⟩) | (go_at_call 12; refine (zzpush_any (wB.heap.size + 1) wB.heap.size v es ⟨tv, kv, p⟩ _ (by exact (HQI.out.alloc _).drew) (by rw [hlen.out]; omega) HS.out.hp).mono ?_; rintro r w1 ⟨rfl, ⟨v1, es1, hq1, hf1, hh1, hp1⟩⟩))
      have hfb1 : FrB (wB.heap.size + 1) wB.heap.size (wB.alloc (.cells #[.slice none 0 0] 29)) w1 := ((HS.out.fr.alloc _).drew).trans hf1.toB
      have HS1 : Hid (PSt (wB.alloc (.cells #[.slice none 0 0] 29)) w1 (wB.heap.size + 1) wB.heap.size v1 es1) := ⟨hq1, hh1, hfb1⟩
      rw [HE.out] at hp1
      have HP1 : Hid _ := perm_push HP.out hp1
      clear hp1 hh1 hq1 hf1 hfb1 hct hck
      go_wp2
      go_roundw
      case rel => exact ⟨p + 1, v1, es1, by go_num, by omega, HS1, HP1⟩
      case measure => simp [intOf]; omega
    · have hpe : p = n := by omega
      have hlen : Hid (es.length = n) := by show es.length = n; rw [HP.out.length_eq]; simp [hpe]
      have HP' : Hid (es.Perm ((List.range n).map (evOf z1 z2))) := by rw [← hpe]; exact HP.out
      clear hpe HP
      obtain ⟨aq, cq, hv, _⟩ := HS.out.q.form
      rw [hlen.out] at hv
      subst hv
      have hqc := cell_of_one HS.out.q.blk
      have hws : wB.heap.size < wr.heap.size := lt_of_block HS.out.q.blk
      have HCM : Hid (Cmp wr bt bk n z1 z2) := ⟨fun t ht => rd_cell rfl hbt2 HBT.out HS.out.fr (by omega), fun t ht => rd_cell rfl hbk2 HBK.out HS.out.fr (by omega)⟩
      go_wp2_with fail
      refine (len_any wB.heap.size aq n cq _ hqc).mono ?_
      rintro r w' ⟨rfl, rfl⟩
      go_wp2_with fail
      refine (sort_any bt l1 ct bk l2 ck n z1 z2 _ HCM.out n1 n2 (by omega) (by omega) (by omega)).mono ?_
      rintro r wD ⟨ga, ord, rfl, hrow, hgaw, hbD, hperm, hsort⟩
      have HSD : Hid (PSt (wB.alloc (.cells #[.slice none 0 0] 29)) wD (wB.heap.size + 1) wB.heap.size (.slice aq n cq) es) := ⟨HS.out.q.below hbD, HS.out.hp, below_frb' (w := w) HS.out.fr hbD⟩
      have HRW : Hid _ := hrow
      have HSO : Hid _ := And.intro hperm hsort
      have HPD : Hid (es.Perm ((seg ord 0 n).map (evOf z1 z2))) := HP'.out.trans (hperm.symm.map _)
      have hga : wB.heap.size < ga := by omega
      clear hrow hgaw hbD hperm hsort HS HCM hqc HP' hlen hws
      go_wp2
      go_loopw [9] (fun kv wr => ∃ (k : Nat) (v : Value) (es : List Ev), kv = .int .i64 k ∧ k ≤ n ∧ Hid (PSt (wB.alloc (.cells #[.slice none 0 0] 29)) wr (wB.heap.size + 1) wB.heap.size v es) ∧ Hid (es.Perm ((seg ord k n).map (evOf z1 z2))) ∧ Hid (wr.rowIs ga 3 n (fun j => .int .i64 (ord j : Nat))))
        (fun kv _ => n - (intOf kv).toNat)
      case atStart => exact ⟨0, _, es, rfl, by omega, HSD, HPD, HRW⟩
      case round =>
        clear HSD HPD HRW
        obtain ⟨k, v, es, rfl, hkn, HS, HP, HRW⟩ := hrel
        by_cases hlt : k < n
        · obtain ⟨n', hn'⟩ : ∃ n', n - k = n' + 1 := ⟨n - k - 1, by omega⟩
          have hlen : Hid (es.length = n' + 1) := by show es.length = n' + 1; rw [HP.out.length_eq]; simp [seg_len]; omega
          have hnn : (n : Int) - (k : Int) - 1 = (n' : Int) := by omega
          have hnl : n' ≤ 65536 := by omega
          clear hn'
          have hqi := HS.out.q
          obtain ⟨aq, cq, hv, hg⟩ := hqi.form
          obtain ⟨gg, rfl⟩ := hg (by rw [hlen.out]; omega)
          rw [hlen.out] at hv
          subst hv
          obtain ⟨m, hm⟩ : ∃ m, ord k = m := ⟨_, rfl⟩
          have hmn : m < n := by rw [← hm]; exact seg_lt HSO.out.1 k hlt
          have hleast := next_least HSO.out.2 hlt HS.out.hp HP.out
          obtain ⟨te, hte⟩ : ∃ x, z1.getD m 0 = x := ⟨_, rfl⟩
          obtain ⟨ke, hke⟩ : ∃ x, z2.getD m 0 = x := ⟨_, rfl⟩
          have HEV : Hid (evOf z1 z2 (ord k) = ⟨te, ke, m⟩) := by show _ = _; rw [hm]; unfold evOf; rw [hte, hke]
          rw [HEV.out] at hleast
          have HPP := zzpop_any (wB.heap.size + 1) wB.heap.size gg n' cq es wr hqi hlen.out.symm (by omega) HS.out.hp
          rw [hleast] at HPP
          have HLE : Hid _ := hleast
          have HM : Hid _ := hm
          have HTE : Hid _ := hte
          have HKE : Hid _ := hke
          clear hqi hleast hm hte hke
          have hz : ∀ W : World, EvT (W.alloc (.cells #[.int .i64 0, .int .u64 0, .int .i64 0, .int .i32 0, .int .i32 0, .int .u8 0, .int .i64 0] 35)) W.heap.size 0 := fun W => ⟨evZ, box_ev W evZ⟩
          have hi3 : (m : Int) < (l1 : Int) := by omega
          have hi4 : (m : Int) < (l2 : Int) := by omega
          have hi5 : (0 : Int) ≤ (m : Int) := by omega
          have hwm : IntKind.u64.wrap (m : Int) = (m : Int) := wrap_p m (by omega)
          have hk1 : (k : Int) < (n : Int) := by omega
          go_wp2_with fail
          refine HPP.mono ?_
          rintro r w1 ⟨rfl, hpost⟩
          obtain ⟨es', hq1, hf1, hh1, hp1⟩ := hpost
          have hfb1 : FrB (wB.heap.size + 1) wB.heap.size (wB.alloc (.cells #[.slice none 0 0] 29)) w1 := HS.out.fr.trans hf1.toB
          have hrw1 : w1.rowIs ga 3 n (fun j => .int .i64 (ord j : Nat)) := row_frq HRW.out hf1 (by omega)
          rw [← HEV.out] at hp1
          have HP1 : Hid _ := next_rest hlt HP.out hp1
          have c0 : w1.cell? ⟨bt, m, none⟩ = some (.int .i64 te) := by rw [← HTE.out]; exact rd_cell rfl hbt2 HBT.out hfb1 (by omega)
          have c1 : w1.cell? ⟨bk, m, none⟩ = some (.int .u8 ke) := by rw [← HKE.out]; exact rd_cell rfl hbk2 HBK.out hfb1 (by omega)
          have c2 : w1.cell? ⟨ga, k, none⟩ = some (.int .i64 m) := by rw [← HM.out]; exact hrw1.cell hlt
          have hb := box_ev w1 ⟨te, ke, m⟩
          have hT : EvT (w1.alloc (.cells (evArr ⟨te, ke, m⟩) 35)) w1.heap.size 0 := ⟨_, hb⟩
          have hA := hb.evAt
          have d0 := cell_alloc' c0 (.cells (evArr ⟨te, ke, m⟩) 35)
          have d1 := cell_alloc' c1 (.cells (evArr ⟨te, ke, m⟩) 35)
          have d2 := cell_alloc' c2 (.cells (evArr ⟨te, ke, m⟩) 35)
          have HRW1 : Hid _ := hrw1
          have HQ1 : Hid _ := hq1
          have HF1 : Hid _ := hfb1
          have HH1 : Hid _ := hh1
          clear hp1 hf1 hfb1 hrw1 hq1 hh1 hb c0 c1 c2 HPP
          go_wp2
          go_region_held3 (fun w' => EvT w' w1.heap.size 0 ∧ evAt w' w1.heap.size 0 = ⟨te, ke, m⟩ ∧ w'.cell? ⟨bt, m, none⟩ = some (.int .i64 te) ∧ w'.cell? ⟨bk, m, none⟩ = some (.int .u8 ke))
            (first | (go_split_ands; refine ⟨?_, ?_, ?_, ?_⟩ <;> (simp only [EvT_drew', evAt_drew, World.cell?_drew]; assumption)) | (go_split_ands; refine ⟨?_, ?_, ?_, ?_⟩ <;> first | (apply EvT.alloc; assumption) | (apply evAt_alloc; assumption; assumption) | (apply cell_alloc'; assumption)))
            (first | (go_at_call 17; refine (tick_any ⟨te, ke, m⟩ _).mono ?_; rintro r w' ⟨rfl, rfl⟩) | (go_at_call 18; refine (kind_any ⟨te, ke, m⟩ _).mono ?_; rintro r w' ⟨rfl, rfl⟩) | (go_at_call 19; refine (seq_any ⟨te, ke, m⟩ _).mono ?_; rintro r w' ⟨rfl, rfl⟩))
          have hq2 : QIs ((((w1.alloc (.cells (evArr ⟨te, ke, m⟩) 35)).alloc (.cells (evArr ⟨te, ke, m⟩) 35)).alloc (.cells (evArr ⟨te, ke, m⟩) 35)).alloc (.cells (evArr ⟨te, ke, m⟩) 35)).drew (wB.heap.size + 1) wB.heap.size (.slice (some ⟨gg, 0, none⟩) n' cq) es' := ((((QIs.alloc HQ1.out _).alloc _).alloc _).alloc _).drew
          have hf2 : FrB (wB.heap.size + 1) wB.heap.size (wB.alloc (.cells #[.slice none 0 0] 29)) ((((w1.alloc (.cells (evArr ⟨te, ke, m⟩) 35)).alloc (.cells (evArr ⟨te, ke, m⟩) 35)).alloc (.cells (evArr ⟨te, ke, m⟩) 35)).alloc (.cells (evArr ⟨te, ke, m⟩) 35)).drew := ((((FrB.alloc HF1.out _).alloc _).alloc _).alloc _).drew
          have hr2 : (((((w1.alloc (.cells (evArr ⟨te, ke, m⟩) 35)).alloc (.cells (evArr ⟨te, ke, m⟩) 35)).alloc (.cells (evArr ⟨te, ke, m⟩) 35)).alloc (.cells (evArr ⟨te, ke, m⟩) 35)).drew).rowIs ga 3 n (fun j => .int .i64 (ord j : Nat)) := ((((World.rowIs.alloc HRW1.out _).alloc _).alloc _).alloc _).drew
          have HS2 : Hid _ := (PSt.mk hq2 HH1.out hf2)
          have HR2 : Hid _ := hr2
          have hqc := cell_of_one hq2.blk
          clear hT hA d0 d1 d2 hq2 hf2 hr2 HRW1 HQ1 HF1 HH1 hz
          generalize hWW : ((((w1.alloc (.cells (evArr ⟨te, ke, m⟩) 35)).alloc (.cells (evArr ⟨te, ke, m⟩) 35)).alloc (.cells (evArr ⟨te, ke, m⟩) 35)).alloc (.cells (evArr ⟨te, ke, m⟩) 35)).drew = W at HS2 HR2 hqc ⊢
          clear hWW
          go_wp2_with fail
          refine (len_any wB.heap.size (some ⟨gg, 0, none⟩) n' cq _ hqc).mono ?_
          rintro r w' ⟨rfl, rfl⟩
          go_wp2
          go_roundw
          case rel => exact ⟨k + 1, _, es', by go_num, by omega, HS2, HP1, HR2⟩
          case measure => simp [intOf]; omega
        · go_wp2
          go_ret
          exact ⟨rfl, below_frb (B0.out.alloc B0.out.size _) HS.out.fr B0.out.size (by omega) (by simp)⟩
end Go.Proofs.Qxb6000059a
