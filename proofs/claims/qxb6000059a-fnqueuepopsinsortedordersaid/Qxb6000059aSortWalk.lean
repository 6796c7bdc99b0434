/- 'lessIdx', 'minInt', 'sortedIdx': their walks. -/
import Derived.Test.Qxb6000059aSortLaw
import Derived.Test.Qxb6000059aEv
namespace Go.Proofs.Qxb6000059a
open Go.RowKit
set_option linter.unusedVariables false
set_option linter.unusedSimpArgs false

/-- The event that place t stands for. -/
def evOf (z1 z2 : List Int) (t : Nat) : Ev := ⟨z1.getD t 0, z2.getD t 0, t⟩

/-- The two rows that are compared. -/
def Cmp (w : World) (bt bk n : Nat) (z1 z2 : List Int) : Prop := (∀ i, i < n → w.cell? ⟨bt, i, none⟩ = some (.int .i64 (z1.getD i 0))) ∧ ∀ i, i < n → w.cell? ⟨bk, i, none⟩ = some (.int .u8 (z2.getD i 0))

theorem min_any (a b m : Int) (w : World) (h : (a < b ∧ m = a) ∨ (b ≤ a ∧ m = b)) : Calls Try.prog 11 #[.int .i64 a, .int .i64 b] w fun r w' => r = .returned (.int .i64 m) ∧ w = w' := by
  rcases h with ⟨h, rfl⟩ | ⟨h, rfl⟩
  · go_enter Try.func11, Try.ntmps11
    go_wp2
    go_ret
    exact ⟨rfl, rfl⟩
  · go_enter Try.func11, Try.ntmps11
    go_wp2
    go_ret
    exact ⟨rfl, rfl⟩

set_option maxHeartbeats 1000000 in
theorem less_any (bt l1 ct bk l2 ck n i j : Nat) (z1 z2 : List Int) (w : World) (h : Cmp w bt bk n z1 z2) (hi : i < n) (hj : j < n) (h1 : n ≤ l1) (h2 : n ≤ l2) :
    Calls Try.prog 31 #[.slice (some ⟨bt, 0, none⟩) l1 ct, .slice (some ⟨bk, 0, none⟩) l2 ck, .int .i64 i, .int .i64 j] w fun r w' => r = .returned (.bool (ltB (evOf z1 z2 i) (evOf z1 z2 j))) ∧ ∃ N, w' = w.drewN N := by
  have a0 := h.1 i hi
  have a1 := h.2 i hi
  have b0 := h.1 j hj
  have b1 := h.2 j hj
  have hi1 : (i : Int) < (l1 : Int) := by omega
  have hj1 : (j : Int) < (l1 : Int) := by omega
  have hi2 : (i : Int) < (l2 : Int) := by omega
  have hj2 : (j : Int) < (l2 : Int) := by omega
  have hi0 : (0 : Int) ≤ (i : Int) := by omega
  have hj0 : (0 : Int) ≤ (j : Int) := by omega
  clear h
  unfold evOf
  generalize z1.getD i 0 = ta at a0 ⊢
  generalize z1.getD j 0 = tb at b0 ⊢
  generalize z2.getD i 0 = ka at a1 ⊢
  generalize z2.getD j 0 = kb at b1 ⊢
  by_cases h1 : ta = tb
  · subst h1
    by_cases h2 : ka = kb
    · subst h2
      go_enter Try.func31, Try.ntmps31
      go_wp2
      go_quiet (fail)
      go_wp2
      go_quiet (fail)
      go_wp2
      go_ret
      exact ⟨ret_b (by simp [ltB]), by first | exact ⟨_, rfl⟩ | (simp only [World.drewN_drewN]; exact ⟨_, rfl⟩)⟩
    · have h2' : (ka != kb) = true := by simpa using h2
      go_enter Try.func31, Try.ntmps31
      go_wp2
      go_quiet (fail)
      go_wp2
      go_quiet (fail)
      go_wp2
      go_quiet (fail)
      go_wp2
      go_ret
      exact ⟨ret_b (by simp [ltB, h2]), by first | exact ⟨_, rfl⟩ | (simp only [World.drewN_drewN]; exact ⟨_, rfl⟩)⟩
  · have h1' : (ta != tb) = true := by simpa using h1
    go_enter Try.func31, Try.ntmps31
    go_wp2
    go_quiet (fail)
    go_wp2
    go_quiet (fail)
    go_wp2
    go_ret
    exact ⟨ret_b (by simp [ltB, h1]), by first | exact ⟨_, rfl⟩ | (simp only [World.drewN_drewN]; exact ⟨_, rfl⟩)⟩

theorem info3 : (Try.prog.info? 3).map (fun i => (i.zero, i.size, i.bytes)) = some (some (.int .i64 0), 1, 8) := by kernel_rfl

/-- The two rows that the sort works on. -/
structure SoSt (w wr : World) (ga gb n : Nat) (fa fb : Nat → Nat) : Prop where
  a : wr.rowIs ga 3 n (fun j => .int .i64 (fa j))
  b : wr.rowIs gb 3 n (fun j => .int .i64 (fb j))
  ne : ga ≠ gb
  la : w.heap.size ≤ ga
  lb : w.heap.size ≤ gb
  bel : Below w.heap.size w wr

theorem SoSt.drewN {w wr : World} {ga gb n : Nat} {fa fb : Nat → Nat} (h : SoSt w wr ga gb n fa fb) (m : Nat) : SoSt w (wr.drewN m) ga gb n fa fb := ⟨h.a, h.b, h.ne, h.la, h.lb, h.bel.os, h.bel.tape, h.bel.output, h.bel.size, h.bel.block⟩
theorem SoSt.swap {w wr : World} {ga gb n : Nat} {fa fb : Nat → Nat} (h : SoSt w wr ga gb n fa fb) : SoSt w wr gb ga n fb fa := ⟨h.b, h.a, Ne.symm h.ne, h.lb, h.la, h.bel⟩
theorem SoSt.put {w wr : World} {ga gb n : Nat} {fa fb : Nat → Nat} (h : SoSt w wr ga gb n fa fb) (k x : Nat) : SoSt w (wr.setCell ⟨gb, k, none⟩ (.int .i64 x)) ga gb n fa (put fb k x) := by
  refine ⟨h.a.setOther h.ne _, (h.b.set k _).congr (fun j hj => ?_), h.ne, h.la, h.lb, h.bel.setCell h.lb _⟩
  unfold Qxb6000059a.put
  by_cases e : j = k
  · simp [e]
  · simp [e]

set_option maxHeartbeats 4000000 in
set_option maxRecDepth 100000 in
theorem sort_any (bt l1 ct bk l2 ck n : Nat) (z1 z2 : List Int) (w : World) (h : Cmp w bt bk n z1 z2) (h1 : n ≤ l1) (h2 : n ≤ l2) (hn : n ≤ 65536) (hbt : bt < w.heap.size) (hbk : bk < w.heap.size) :
    Calls Try.prog 15 #[.slice (some ⟨bt, 0, none⟩) l1 ct, .slice (some ⟨bk, 0, none⟩) l2 ck, .int .i64 n] w fun r w' => ∃ ga fa, r = .returned (.slice (some ⟨ga, 0, none⟩) n n) ∧ w'.rowIs ga 3 n (fun j => .int .i64 (fa j : Nat)) ∧ w.heap.size ≤ ga ∧ Below w.heap.size w w' ∧
      (seg fa 0 n).Perm (List.range n) ∧ (seg fa 0 n).Pairwise (fun a b => leE (evOf z1 z2) a b = true) := by
  have hmk := run_make_row' (P := Try.prog) 38 3 (.int .i64 0) 8 Try.underlying38 info3 rfl .i64 .i64 n (by omega) (by omega)
  have HC : Hid (Cmp w bt bk n z1 z2) := h
  clear h
  go_enter Try.func15, Try.ntmps15
  go_wp2
  go_loopw [8] (fun i wr => ∃ k : Nat, k ≤ n ∧ i = .int .i64 k ∧ wr.rowIs w.heap.size 3 n (fun j => .int .i64 ((if j < k then j else 0 : Nat) : Int)) ∧ Below w.heap.size w wr ∧ wr.heap.size = w.heap.size + 1)
    (fun i _ => n - (intOf i).toNat)
  case atStart => exact ⟨0, Nat.zero_le _, rfl, (World.rowIs_made w (.int .i64 0) n 3).congr (fun i hi => by simp), (Below.refl _ _).alloc (Nat.le_refl _) _, by simp⟩
  case round =>
    obtain ⟨k, hk, rfl, hrow, hbel, hsz⟩ := hrel
    by_cases hlt : k < n
    · have hcw := hrow.cell hlt
      have hfw := hrow.frozen k
      have R := (hrow.set k (.int .i64 k)).congr (g := fun j => .int .i64 ((if j < k + 1 then j else 0 : Nat) : Int)) (fun j hj => by
        by_cases e : j = k
        · subst e; simp
        · by_cases e2 : j < k
          · simp [e, e2, show j < k + 1 by omega]
          · simp [e, e2, show ¬ j < k + 1 by omega])
      have HR : Hid _ := R
      have HB : Hid _ := hbel.setCell (p := ⟨w.heap.size, k, none⟩) (Nat.le_refl _) (.int .i64 k)
      clear R hbel hrow
      go_wp2
      go_roundw
      case rel => exact ⟨k + 1, by omega, by go_num, HR.out, HB.out, by simp [hsz]⟩
      case measure => simp [intOf]; omega
    · have hkn : k = n := by omega
      have hst : SoSt w (wr.alloc (.cells (madeCells #[.int .i64 0] n) 3)) w.heap.size (w.heap.size + 1) n (fun t => t) (fun _ => 0) := by
        have r2 := World.rowIs_made wr (.int .i64 0) n 3
        rw [hsz] at r2
        exact ⟨(hrow.congr (fun j hj => by simp [hkn, hj])).alloc _, r2.congr (fun j hj => by simp), by omega, Nat.le_refl _, by omega, hbel.alloc (by omega) _⟩
      have HST : Hid _ := hst
      clear hst hrow hbel
      clear hkn
      go_wp2
      clear hmk hlt hk hsz
      go_loopw [7, 9, 10] (fun va vb wv wr => ∃ (wd ga gb : Nat) (fa fb : Nat → Nat), va = .slice (some ⟨ga, 0, none⟩) n n ∧ vb = .slice (some ⟨gb, 0, none⟩) n n ∧ wv = .int .i64 wd ∧ 1 ≤ wd ∧ wd ≤ 131072 ∧ Hid (SoSt w wr ga gb n fa fb) ∧ Hid (RunS (leE (evOf z1 z2)) n wd fa ∧ (seg fa 0 n).Perm (List.range n)))
        (fun _ _ wv _ => n - (intOf wv).toNat)
      case atStart => exact ⟨1, _, _, _, _, rfl, rfl, rfl, by omega, by omega, HST, run_one _ n _, by rw [seg_id]⟩
      case round =>
        clear HST
        obtain ⟨wd, ga, gb, fa, fb, rfl, rfl, rfl, hw1, hw2, HST, HR⟩ := hrel
        by_cases hwn : wd < n
        · go_wp2
          go_loopw [11] (fun lv wr => ∃ (lo q : Nat) (fb : Nat → Nat), lv = .int .i64 lo ∧ lo ≤ 400000 ∧ Hid (lo = 2 * wd * q) ∧ Hid (SoSt w wr ga gb n fa fb) ∧ Hid (PInv (leE (evOf z1 z2)) n wd fa fb q))
            (fun lv _ => n - (intOf lv).toNat)
          case atStart => exact ⟨0, 0, fb, rfl, by omega, rfl, HST, p_start _ n wd fa fb⟩
          case round =>
            clear HST
            obtain ⟨lo, q, fb0, rfl, hlo4, HLO, HST, HPI⟩ := hrel
            by_cases hlon : lo < n
            · obtain ⟨mid, hmid⟩ : ∃ mid, mid = min (lo + wd) n := ⟨_, rfl⟩
              obtain ⟨hi, hhi⟩ : ∃ hi, hi = min (lo + 2 * wd) n := ⟨_, rfl⟩
              have m1 : lo ≤ mid := by omega
              have m2 : mid ≤ hi := by omega
              have m3 : hi ≤ n := by omega
              have q1 : ((lo : Int) + (wd : Int) < (n : Int) ∧ (mid : Int) = (lo : Int) + (wd : Int)) ∨ ((n : Int) ≤ (lo : Int) + (wd : Int) ∧ (mid : Int) = (n : Int)) := by omega
              have q2 : ((lo : Int) + 2 * (wd : Int) < (n : Int) ∧ (hi : Int) = (lo : Int) + 2 * (wd : Int)) ∨ ((n : Int) ≤ (lo : Int) + 2 * (wd : Int) ∧ (hi : Int) = (n : Int)) := by omega
              have Q1 : Hid _ := q1
              have Q2 : Hid _ := q2
              have HMID : Hid _ := hmid
              have HHI : Hid _ := hhi
              clear q1 q2 hmid hhi
              go_wp2_with fail
              refine (min_any ((lo : Int) + (wd : Int)) (n : Int) (mid : Int) _ Q1.out).mono ?_
              rintro r w' ⟨rfl, rfl⟩
              go_wp2_with fail
              refine (min_any ((lo : Int) + 2 * (wd : Int)) (n : Int) (hi : Int) _ Q2.out).mono ?_
              rintro r w' ⟨rfl, rfl⟩
              go_wp2
              go_loopw [14, 15, 16] (fun iv jv kv wr => ∃ (i j k : Nat) (fb : Nat → Nat), iv = .int .i64 i ∧ jv = .int .i64 j ∧ kv = .int .i64 k ∧ lo ≤ i ∧ i ≤ mid ∧ mid ≤ j ∧ j ≤ hi ∧ k + mid = i + j ∧ Hid (SoSt w wr ga gb n fa fb) ∧ Hid (MInv (leE (evOf z1 z2)) fa fb lo mid hi i j k ∧ ∀ t, t < lo → fb t = fb0 t))
                (fun _ _ kv _ => hi - (intOf kv).toNat)
              case atStart => exact ⟨lo, mid, lo, fb0, rfl, rfl, rfl, by omega, by omega, by omega, by omega, by omega, HST, m_start _ fa fb0 lo mid hi, fun t _ => rfl⟩
              case round =>
                clear HST
                obtain ⟨i, j, k, fb1, rfl, rfl, rfl, hi1, hi2, hj1, hj2, hkm, HST, HM⟩ := hrel
                by_cases hkh : k < hi
                · have HKM : Hid _ := hkm
                  have hkb : k < n := by omega
                  have hcb : wr.cell? ⟨gb, k, none⟩ = some (.int .i64 (fb1 k)) := HST.out.b.cell hkb
                  have hfb : wr.frozen? ⟨gb, k, none⟩ = false := HST.out.b.frozen k
                  have hkn' : (k : Int) < (n : Int) := by omega
                  have hk0 : (0 : Int) ≤ (k : Int) := by omega
                  by_cases hjh : j < hi
                  · have hjh' : (j : Int) < (hi : Int) := by omega
                    have hjh2 : ¬ hi ≤ j := by omega
                    have hjn : (j : Int) < (n : Int) := by omega
                    have hj0 : (0 : Int) ≤ (j : Int) := by omega
                    have hcj : wr.cell? ⟨ga, j, none⟩ = some (.int .i64 (fa j)) := HST.out.a.cell (by omega)
                    by_cases him : i < mid
                    · have him' : (i : Int) < (mid : Int) := by omega
                      have hin : (i : Int) < (n : Int) := by omega
                      have hi0 : (0 : Int) ≤ (i : Int) := by omega
                      have hci : wr.cell? ⟨ga, i, none⟩ = some (.int .i64 (fa i)) := HST.out.a.cell (by omega)
                      have hfi := seg_lt HR.out.2 i (by omega)
                      have hfj := seg_lt HR.out.2 j (by omega)
                      have hcmp : Cmp wr bt bk n z1 z2 := ⟨fun t ht => (HST.out.bel.cell (by exact hbt)).trans (HC.out.1 t ht), fun t ht => (HST.out.bel.cell (by exact hbk)).trans (HC.out.2 t ht)⟩
                      have HCM : Hid _ := hcmp
                      clear hcmp hkm
                      by_cases hls : ltB (evOf z1 z2 (fa j)) (evOf z1 z2 (fa i)) = true
                      · go_wp2
                        go_quiet ((go_at_call 31; exact Calls.quiet_of (less_any bt l1 ct bk l2 ck n (fa j) (fa i) z1 z2 _ HCM.out hfj hfi h1 h2)))
                        go_wp2
                        go_roundw
                        case rel => exact ⟨i, j + 1, k + 1, put fb1 k (fa j), rfl, by go_num, by go_num, by omega, by omega, by omega, by omega, by have := HKM.out; omega, (HST.out.drewN _).put k (fa j), m_right _ HM.out.1 (by have := HKM.out; omega) hjh (.inr ⟨him, by unfold leE; rw [hls]; rfl⟩), fun t ht => by rw [put_ne _ _ _ _ (by have := HKM.out; omega)]; exact HM.out.2 t ht⟩
                        case measure => simp [intOf]; omega
                      · have hls' : ltB (evOf z1 z2 (fa j)) (evOf z1 z2 (fa i)) = false := by simpa using hls
                        go_wp2
                        go_quiet ((go_at_call 31; exact Calls.quiet_of (less_any bt l1 ct bk l2 ck n (fa j) (fa i) z1 z2 _ HCM.out hfj hfi h1 h2)))
                        go_wp2
                        go_roundw
                        case rel => exact ⟨i + 1, j, k + 1, put fb1 k (fa i), by go_num, rfl, by go_num, by omega, by omega, by omega, by omega, by have := HKM.out; omega, (HST.out.drewN _).put k (fa i), m_left _ HM.out.1 (by have := HKM.out; omega) him (.inr ⟨hjh, by unfold leE; rw [hls']; rfl⟩), fun t ht => by rw [put_ne _ _ _ _ (by have := HKM.out; omega)]; exact HM.out.2 t ht⟩
                        case measure => simp [intOf]; omega
                    · have him' : ¬ (i : Int) < (mid : Int) := by omega
                      clear hkm
                      go_wp2
                      go_quiet (fail)
                      go_wp2
                      go_roundw
                      case rel => exact ⟨i, j + 1, k + 1, put fb1 k (fa j), rfl, by go_num, by go_num, by omega, by omega, by omega, by omega, by have := HKM.out; omega, (HST.out.drewN _).put k (fa j), m_right _ HM.out.1 (by have := HKM.out; omega) hjh (.inl (by omega)), fun t ht => by rw [put_ne _ _ _ _ (by have := HKM.out; omega)]; exact HM.out.2 t ht⟩
                      case measure => simp [intOf]; omega
                  · have him : i < mid := by omega
                    have hjh' : (hi : Int) ≤ (j : Int) := by omega
                    have hjh2 : hi ≤ j := by omega
                    have hin : (i : Int) < (n : Int) := by omega
                    have hi0 : (0 : Int) ≤ (i : Int) := by omega
                    have hci : wr.cell? ⟨ga, i, none⟩ = some (.int .i64 (fa i)) := HST.out.a.cell (by omega)
                    clear hkm
                    go_wp2
                    go_quiet (fail)
                    go_wp2
                    go_roundw
                    case rel => exact ⟨i + 1, j, k + 1, put fb1 k (fa i), by go_num, rfl, by go_num, by omega, by omega, by omega, by omega, by have := HKM.out; omega, (HST.out.drewN _).put k (fa i), m_left _ HM.out.1 (by have := HKM.out; omega) him (.inl hjh2), fun t ht => by rw [put_ne _ _ _ _ (by have := HKM.out; omega)]; exact HM.out.2 t ht⟩
                    case measure => simp [intOf]; omega
                · have he1 : i = mid := by omega
                  have he2 : j = hi := by omega
                  have he3 : k = hi := by omega
                  have HE : Hid (seg fb1 lo hi = List.merge (seg fa lo mid) (seg fa mid hi) (leE (evOf z1 z2))) := m_end _ (by have := HM.out.1; rw [he1, he2, he3] at this; exact this)
                  clear he1 he2 he3 hkm
                  go_wp2
                  go_roundw
                  case rel =>
                    have hst := p_step _ (leE_tr _) (leE_tot _) hw1 HPI.out HR.out.1 (by have := HLO.out; omega) (fun t ht => HM.out.2 t (by have := HLO.out; omega)) (by rw [← HLO.out, ← HMID.out, ← HHI.out]; exact HE.out)
                    exact ⟨lo + 2 * wd, q + 1, fb1, by go_num, by omega, by show lo + 2 * wd = 2 * wd * (q + 1); rw [Nat.mul_add, ← HLO.out, Nat.mul_one], HST, hst⟩
                  case measure => simp [intOf]; omega
            · have hpe := p_end _ hw1 HPI.out (by have := HLO.out; omega)
              have HPE : Hid _ := hpe
              clear hpe
              go_wp2
              go_roundw
              case rel => exact ⟨2 * wd, gb, ga, fb0, fa, rfl, rfl, by go_num, by omega, by omega, HST.out.swap, HPE.out.1, HPE.out.2.trans HR.out.2⟩
              case measure => simp [intOf]; omega
        · go_wp2
          go_ret
          exact ⟨ga, fa, rfl, HST.out.a, HST.out.la, HST.out.bel, HR.out.2, run_all _ HR.out.1 (by omega)⟩
end Go.Proofs.Qxb6000059a
