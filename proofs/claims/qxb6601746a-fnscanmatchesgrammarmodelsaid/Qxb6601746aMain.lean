/- 'scanModel', 'ZZscan', FnScanMatchesGrammarModel: their walks. -/
import Derived.Test.Qxb6601746aScan
namespace Go.Proofs.Qxb6601746a
open Go.RowKit
set_option linter.unusedVariables false
set_option linter.unusedSimpArgs false

theorem Parts.no1 {s W F : ByteArray} (h : Parts s W F) (h0 : W.size = 0) : ¬ Ok (byteAt s) s.size := fun hok => by
  have h1 := hok.1; have h2 := h.ws; omega
theorem Parts.no2 {s W F : ByteArray} (h : Parts s W F) (h0 : AllD W false) : ¬ Ok (byteAt s) s.size := fun hok => by
  refine Bool.noConfusion (h0.mpr fun t ht => ?_)
  rw [h.wb t ht]
  have := h.ws
  exact hok.2.1 _ (by omega) (by omega)
theorem Parts.no3 {s W F : ByteArray} (h : Parts s W F) (h0 : AllD F false) : ¬ Ok (byteAt s) s.size := fun hok => by
  refine Bool.noConfusion (h0.mpr fun t ht => ?_)
  rw [h.fb t ht]
  have := h.fs
  exact hok.2.2.1 _ (by omega) (by omega)
theorem Parts.no4 {s W F : ByteArray} (h : Parts s W F) (hp : P (byteAt s) s.size < s.size) (h0 : F.size = 0) : ¬ Ok (byteAt s) s.size := fun hok => by
  have h1 := hok.2.2.2 hp; have h2 := h.fs; omega
theorem Parts.ok {s W F : ByteArray} (h : Parts s W F) (h1 : W.size ≠ 0) (h2 : AllD W true) (h3 : AllD F true) (h4 : P (byteAt s) s.size < s.size → F.size ≠ 0) : Ok (byteAt s) s.size := by
  have hw := h.ws
  have hf := h.fs
  refine ⟨by omega, fun t ht1 ht2 => ?_, fun t ht1 ht2 => ?_, fun hp => ?_⟩
  · have := h2.mp rfl (t - st (byteAt s) s.size) (by omega)
    rw [h.wb _ (by omega), show st (byteAt s) s.size + (t - st (byteAt s) s.size) = t by omega] at this; exact this
  · have := h3.mp rfl (t - (P (byteAt s) s.size + 1)) (by omega)
    rw [h.fb _ (by omega), show P (byteAt s) s.size + 1 + (t - (P (byteAt s) s.size + 1)) = t by omega] at this; exact this
  · have := h4 hp; omega
theorem Parts.len {s W F : ByteArray} (h : Parts s W F) : len (byteAt s) s.size = W.size + F.size := by
  unfold Qxb6601746a.len; rw [h.ws, h.fs]
theorem Parts.D {s W F : ByteArray} (h : Parts s W F) (h1 : W.size ≠ 0) {j : Nat} (hj : j < W.size + F.size) : D (byteAt s) s.size j = if j < W.size then byteAt W j - 48 else byteAt F (j - W.size) - 48 := by
  have hw := h.ws
  have hf := h.fs
  unfold Qxb6601746a.D
  by_cases hlt : j < W.size
  · rw [if_pos (by omega), if_pos hlt, h.wb j hlt]
  · rw [if_neg (by omega), if_neg hlt, h.fb _ (by omega)]
    congr 2; omega

/-- What the model's loop holds with m digits to come. -/
structure MI (f : Nat → Int) (k m : Nat) (A pl : Int) : Prop where
  le : m ≤ k
  k18 : k ≤ 18
  dg : ∀ j, j < k → 0 ≤ f j ∧ f j ≤ 9
  sum : num f m * pl + A = num f k
  A0 : 0 ≤ A
  pl : pl = 10 ^ (k - m)
theorem MI.start {f : Nat → Int} {k : Nat} (h18 : k ≤ 18) (h : ∀ j, j < k → 0 ≤ f j ∧ f j ≤ 9) : MI f k k 0 1 :=
  ⟨Nat.le_refl _, h18, h, by omega, Int.le_refl 0, by rw [Nat.sub_self]; rfl⟩
theorem MI.pl_bd {f : Nat → Int} {k m : Nat} {A pl : Int} (h : MI f k m A pl) : 0 ≤ pl ∧ pl ≤ 1000000000000000000 := by
  rw [h.pl]
  have h18 := h.k18
  exact ⟨Int.le_of_lt (Int.pow_pos (by decide)), pow_le18 (by omega)⟩
theorem MI.A_bd {f : Nat → Int} {k m : Nat} {A pl : Int} (h : MI f k m A pl) : A < 1000000000000000000 := by
  have hle := h.le
  have h1 := num_18 h.k18 h.dg
  have h2 := (num_bd m (fun j hj => h.dg j (by omega))).1
  have h3 : 0 ≤ num f m * pl := Int.mul_nonneg h2 h.pl_bd.1
  have h4 := h.sum
  omega
theorem MI.pl17 {f : Nat → Int} {k m : Nat} {A pl : Int} (h : MI f k m A pl) (hm : 0 < m) : pl ≤ 100000000000000000 := by
  rw [h.pl]
  have h18 := h.k18
  have hle := h.le
  have h2 : (10 : Int) ^ (k - m) ≤ 10 ^ 17 := by
    have := Nat.pow_le_pow_right (show 0 < 10 by decide) (show k - m ≤ 17 by omega)
    have h2 : ((10 ^ (k - m) : Nat) : Int) ≤ ((10 ^ 17 : Nat) : Int) := Int.ofNat_le.mpr this
    simpa using h2
  have e : (10 : Int) ^ 17 = 100000000000000000 := by decide
  omega
theorem MI.step {f : Nat → Int} {k m : Nat} {A pl : Int} (h : MI f k (m + 1) A pl) : MI f k m (A + f m * pl) (pl * 10) := by
  have hle := h.le
  have hm := h.dg m (by omega)
  refine ⟨by omega, h.k18, h.dg, num_step h.sum, ?_, ?_⟩
  · have := Int.mul_nonneg hm.1 h.pl_bd.1
    have := h.A0
    omega
  · rw [h.pl, show k - m = (k - (m + 1)) + 1 by omega, Int.pow_succ]
theorem MI.prod {f : Nat → Int} {k m : Nat} {A pl : Int} (h : MI f k (m + 1) A pl) : 0 ≤ f m * pl ∧ f m * pl ≤ 900000000000000000 := by
  have hle := h.le
  have hm := h.dg m (by omega)
  have hp := h.pl17 (by omega)
  have hp0 := h.pl_bd.1
  refine ⟨Int.mul_nonneg hm.1 hp0, ?_⟩
  have h1 : f m * pl ≤ 9 * pl := Int.mul_le_mul_of_nonneg_right hm.2 hp0
  omega
theorem MI.done {f : Nat → Int} {k : Nat} {A pl : Int} (h : MI f k 0 A pl) : A = num f k := by
  have := h.sum
  rw [show num f 0 = 0 from rfl, Int.zero_mul] at this
  omega

set_option maxHeartbeats 4000000 in
set_option maxRecDepth 100000 in
theorem model_any (s : ByteArray) (w : World) (hs : s.size ≤ 1048576) :
    Calls Try.prog 7 #[.string s] w fun e w' => ScanR e s ∧ ∃ N, w' = w.drewN N := by
  go_enter Try.func7, Try.ntmps7
  go_wp2_with (go_at_call 10; refine (split_any s _ hs).mono ?_)
  rintro e w0 ⟨⟨W, F, rfl, hpt⟩, hw1⟩
  have HW1 : Hid _ := hw1
  clear hw1
  have hws : W.size ≤ 1048576 := by rw [hpt.ws]; have := P_le (byteAt s) s.size; omega
  have hfs : F.size ≤ 1048576 := by rw [hpt.fs]; omega
  have HPT : Hid _ := hpt
  clear hpt
  obtain ⟨ng, hng⟩ : ∃ ng, decide (st (byteAt s) s.size = 1) = ng := ⟨_, rfl⟩
  obtain ⟨po, hpo⟩ : ∃ po, decide (P (byteAt s) s.size < s.size) = po := ⟨_, rfl⟩
  rw [hng, hpo]
  have HNG : Hid _ := hng
  have HPO : Hid _ := hpo
  clear hng hpo
  by_cases hw0 : W.size = 0
  · have HW0 : Hid _ := hw0
    have hw0' : ((W.size : Int) == 0) = true := by simp [hw0]
    clear hw0
    go_wp2
    (try simp only [Exit.inBlock, Exit.then])
    refine bodyPost_ret (results_tmp4 rfl _ _ _) rfl ?_
    exact ⟨ScanR.no (HPT.out.no1 HW0.out), HW1.out⟩
  have hw0' : ((W.size : Int) == 0) = false := beq_false_of_ne (by omega)
  go_wp2_with (fail)
  refine (allDigits_any W _ hws).mono ?_
  rintro e w1 ⟨⟨b1, rfl, hb1⟩, rfl⟩
  have HB1 : Hid _ := hb1
  clear hb1
  cases b1
  · go_wp2
    (try simp only [Exit.inBlock, Exit.then])
    refine bodyPost_ret (results_tmp4 rfl _ _ _) rfl ?_
    exact ⟨ScanR.no (HPT.out.no2 HB1.out), HW1.out⟩
  go_wp2_with (fail)
  refine (allDigits_any F _ hfs).mono ?_
  rintro e w1 ⟨⟨b2, rfl, hb2⟩, rfl⟩
  have HB2 : Hid _ := hb2
  clear hb2
  cases b2
  · go_wp2
    (try simp only [Exit.inBlock, Exit.then])
    refine bodyPost_ret (results_tmp4 rfl _ _ _) rfl ?_
    exact ⟨ScanR.no (HPT.out.no3 HB2.out), HW1.out⟩
  have hcase : (po = true ∧ F.size = 0) ∨ (po = false ∨ F.size ≠ 0) := by
    cases po
    · exact .inr (.inl rfl)
    · by_cases h : F.size = 0
      · exact .inl ⟨rfl, h⟩
      · exact .inr (.inr h)
  rcases hcase with ⟨rfl, hf0⟩ | hgood
  · have HF0 : Hid _ := hf0
    have hf0' : ((F.size : Int) == 0) = true := by simp [hf0]
    clear hf0
    go_wp2
    (try simp only [Exit.inBlock, Exit.then])
    refine bodyPost_ret (results_tmp4 rfl _ _ _) rfl ?_
    exact ⟨ScanR.no (HPT.out.no4 (of_decide_eq_true HPO.out) HF0.out), HW1.out⟩
  have hok : Ok (byteAt s) s.size := HPT.out.ok hw0 (by first | exact HB1.out | exact ⟨fun _ => HB1.out.mp trivial, fun _ => rfl⟩) (by first | exact HB2.out | exact ⟨fun _ => HB2.out.mp trivial, fun _ => rfl⟩) (fun hP => by
    rcases hgood with h | h
    · have := HPO.out; rw [decide_eq_true hP, h] at this; exact absurd this (by decide)
    · exact h)
  have hlen := HPT.out.len
  have HOK : Hid _ := And.intro hok hlen
  have HDg : Hid (∀ j, j < W.size + F.size → 0 ≤ D (byteAt s) s.size j ∧ D (byteAt s) s.size j ≤ 9) := fun j hj => hok.dig (by omega)
  have HDv : Hid (∀ j, j < W.size + F.size → D (byteAt s) s.size j = if j < W.size then byteAt W j - 48 else byteAt F (j - W.size) - 48) := fun j hj => HPT.out.D hw0 hj
  clear hok hlen hw0 HB1 HB2
  have hgood' : (po = false) ∨ (po = true ∧ ((F.size : Int) == 0) = false) := by
    rcases hgood with h | h
    · exact .inl h
    · cases po
      · exact .inl rfl
      · exact .inr ⟨rfl, beq_false_of_ne (by omega)⟩
  clear hgood
  obtain ⟨k, hk⟩ : ∃ k, k = min (W.size + F.size) 18 := ⟨_, rfl⟩
  have hkle : k ≤ 18 := by omega
  have hkn : k ≤ W.size + F.size := by omega
  have HK : Hid _ := hk
  rcases hgood' with rfl | ⟨rfl, hgf⟩
  · by_cases h18 : 18 < W.size + F.size
    · have hk2 : k = 18 := by omega
      have HEQ : Hid _ := hk2
      clear hk hk2
      have h18i : (18 : Int) < (W.size : Int) + (F.size : Int) := by omega
      clear h18
      go_wp2
      go_loop [12, 13, 14] (fun cv pv jv => ∃ (m : Nat) (A pl : Int), jv = .int .i64 ((m : Int) - 1) ∧ cv = .int .i64 A ∧ pv = .int .i64 pl ∧ m ≤ k ∧ Hid (MI (D (byteAt s) s.size) k m A pl)) (fun _ _ jv => (intOf jv + 1).toNat)
      case atStart => exact ⟨k, 0, 1, by rw [HEQ.out]; go_num, rfl, rfl, Nat.le_refl _, MI.start hkle (fun j hj => HDg.out j (by omega))⟩
      case round =>
        obtain ⟨m, A, pl, rfl, rfl, rfl, hmk, HM⟩ := hrel
        have hA0 := HM.out.A0
        have hA1 := HM.out.A_bd
        obtain ⟨hp0, hp1⟩ := HM.out.pl_bd
        cases m with
        | zero =>
          rw [show ((0 : Nat) : Int) - 1 = -1 from rfl]
          have HNUM : Hid (A = num (D (byteAt s) s.size) (min (len (byteAt s) s.size) 18)) := by show _ = _; rw [HOK.out.2, ← HK.out]; exact HM.out.done
          cases ng
          · go_wp2
            (try simp only [Exit.inBlock, Exit.then])
            refine bodyPost_ret (results_tmp4 rfl _ _ _) rfl ?_
            exact ⟨ScanR.yes HOK.out.1 (by rw [if_neg (of_decide_eq_false HNG.out)]; exact HNUM.out) (by rw [← HPT.out.fs]) (by rw [HOK.out.2]; omega), HW1.out⟩
          · go_wp2
            (try simp only [Exit.inBlock, Exit.then])
            refine bodyPost_ret (results_tmp4 rfl _ _ _) rfl ?_
            exact ⟨ScanR.yes HOK.out.1 (by rw [if_pos (of_decide_eq_true HNG.out), ← HNUM.out]) (by rw [← HPT.out.fs]) (by rw [HOK.out.2]; omega), HW1.out⟩
        | succ m =>
          have hp17 := HM.out.pl17 (by omega)
          obtain ⟨hx0, hx1⟩ := HDg.out m (by omega)
          obtain ⟨hy0, hy1⟩ := HM.out.prod
          have HDA := fun wx => digitAt_any W F m _ wx hws hfs (by omega) (HDv.out m (by omega)) hx0 hx1
          have HST := HM.out.step
          generalize hx : D (byteAt s) s.size m = x at *
          have HST2 : Hid _ := HST
          clear HST
          rw [show ((m + 1 : Nat) : Int) - 1 = (m : Int) by omega]
          go_wp2_with (go_at_call 12; refine (HDA _).mono ?_; rintro e w1 ⟨rfl, rfl⟩)
          go_round
          case rel => exact ⟨m, A + x * pl, pl * 10, by go_num, by go_num, by go_num, by omega, HST2⟩
          case measure => simp [intOf]
    · have hk2 : k = W.size + F.size := by omega
      have HEQ : Hid _ := hk2
      clear hk hk2
      have h18i : (W.size : Int) + (F.size : Int) ≤ 18 := by omega
      clear h18
      go_wp2
      go_loop [12, 13, 14] (fun cv pv jv => ∃ (m : Nat) (A pl : Int), jv = .int .i64 ((m : Int) - 1) ∧ cv = .int .i64 A ∧ pv = .int .i64 pl ∧ m ≤ k ∧ Hid (MI (D (byteAt s) s.size) k m A pl)) (fun _ _ jv => (intOf jv + 1).toNat)
      case atStart => exact ⟨k, 0, 1, by rw [HEQ.out]; go_num, rfl, rfl, Nat.le_refl _, MI.start hkle (fun j hj => HDg.out j (by omega))⟩
      case round =>
        obtain ⟨m, A, pl, rfl, rfl, rfl, hmk, HM⟩ := hrel
        have hA0 := HM.out.A0
        have hA1 := HM.out.A_bd
        obtain ⟨hp0, hp1⟩ := HM.out.pl_bd
        cases m with
        | zero =>
          rw [show ((0 : Nat) : Int) - 1 = -1 from rfl]
          have HNUM : Hid (A = num (D (byteAt s) s.size) (min (len (byteAt s) s.size) 18)) := by show _ = _; rw [HOK.out.2, ← HK.out]; exact HM.out.done
          cases ng
          · go_wp2
            (try simp only [Exit.inBlock, Exit.then])
            refine bodyPost_ret (results_tmp4 rfl _ _ _) rfl ?_
            exact ⟨ScanR.yes HOK.out.1 (by rw [if_neg (of_decide_eq_false HNG.out)]; exact HNUM.out) (by rw [← HPT.out.fs]) (by rw [HOK.out.2]; omega), HW1.out⟩
          · go_wp2
            (try simp only [Exit.inBlock, Exit.then])
            refine bodyPost_ret (results_tmp4 rfl _ _ _) rfl ?_
            exact ⟨ScanR.yes HOK.out.1 (by rw [if_pos (of_decide_eq_true HNG.out), ← HNUM.out]) (by rw [← HPT.out.fs]) (by rw [HOK.out.2]; omega), HW1.out⟩
        | succ m =>
          have hp17 := HM.out.pl17 (by omega)
          obtain ⟨hx0, hx1⟩ := HDg.out m (by omega)
          obtain ⟨hy0, hy1⟩ := HM.out.prod
          have HDA := fun wx => digitAt_any W F m _ wx hws hfs (by omega) (HDv.out m (by omega)) hx0 hx1
          have HST := HM.out.step
          generalize hx : D (byteAt s) s.size m = x at *
          have HST2 : Hid _ := HST
          clear HST
          rw [show ((m + 1 : Nat) : Int) - 1 = (m : Int) by omega]
          go_wp2_with (go_at_call 12; refine (HDA _).mono ?_; rintro e w1 ⟨rfl, rfl⟩)
          go_round
          case rel => exact ⟨m, A + x * pl, pl * 10, by go_num, by go_num, by go_num, by omega, HST2⟩
          case measure => simp [intOf]
  · by_cases h18 : 18 < W.size + F.size
    · have hk2 : k = 18 := by omega
      have HEQ : Hid _ := hk2
      clear hk hk2
      have h18i : (18 : Int) < (W.size : Int) + (F.size : Int) := by omega
      clear h18
      go_wp2
      go_loop [12, 13, 14] (fun cv pv jv => ∃ (m : Nat) (A pl : Int), jv = .int .i64 ((m : Int) - 1) ∧ cv = .int .i64 A ∧ pv = .int .i64 pl ∧ m ≤ k ∧ Hid (MI (D (byteAt s) s.size) k m A pl)) (fun _ _ jv => (intOf jv + 1).toNat)
      case atStart => exact ⟨k, 0, 1, by rw [HEQ.out]; go_num, rfl, rfl, Nat.le_refl _, MI.start hkle (fun j hj => HDg.out j (by omega))⟩
      case round =>
        obtain ⟨m, A, pl, rfl, rfl, rfl, hmk, HM⟩ := hrel
        have hA0 := HM.out.A0
        have hA1 := HM.out.A_bd
        obtain ⟨hp0, hp1⟩ := HM.out.pl_bd
        cases m with
        | zero =>
          rw [show ((0 : Nat) : Int) - 1 = -1 from rfl]
          have HNUM : Hid (A = num (D (byteAt s) s.size) (min (len (byteAt s) s.size) 18)) := by show _ = _; rw [HOK.out.2, ← HK.out]; exact HM.out.done
          cases ng
          · go_wp2
            (try simp only [Exit.inBlock, Exit.then])
            refine bodyPost_ret (results_tmp4 rfl _ _ _) rfl ?_
            exact ⟨ScanR.yes HOK.out.1 (by rw [if_neg (of_decide_eq_false HNG.out)]; exact HNUM.out) (by rw [← HPT.out.fs]) (by rw [HOK.out.2]; omega), HW1.out⟩
          · go_wp2
            (try simp only [Exit.inBlock, Exit.then])
            refine bodyPost_ret (results_tmp4 rfl _ _ _) rfl ?_
            exact ⟨ScanR.yes HOK.out.1 (by rw [if_pos (of_decide_eq_true HNG.out), ← HNUM.out]) (by rw [← HPT.out.fs]) (by rw [HOK.out.2]; omega), HW1.out⟩
        | succ m =>
          have hp17 := HM.out.pl17 (by omega)
          obtain ⟨hx0, hx1⟩ := HDg.out m (by omega)
          obtain ⟨hy0, hy1⟩ := HM.out.prod
          have HDA := fun wx => digitAt_any W F m _ wx hws hfs (by omega) (HDv.out m (by omega)) hx0 hx1
          have HST := HM.out.step
          generalize hx : D (byteAt s) s.size m = x at *
          have HST2 : Hid _ := HST
          clear HST
          rw [show ((m + 1 : Nat) : Int) - 1 = (m : Int) by omega]
          go_wp2_with (go_at_call 12; refine (HDA _).mono ?_; rintro e w1 ⟨rfl, rfl⟩)
          go_round
          case rel => exact ⟨m, A + x * pl, pl * 10, by go_num, by go_num, by go_num, by omega, HST2⟩
          case measure => simp [intOf]
    · have hk2 : k = W.size + F.size := by omega
      have HEQ : Hid _ := hk2
      clear hk hk2
      have h18i : (W.size : Int) + (F.size : Int) ≤ 18 := by omega
      clear h18
      go_wp2
      go_loop [12, 13, 14] (fun cv pv jv => ∃ (m : Nat) (A pl : Int), jv = .int .i64 ((m : Int) - 1) ∧ cv = .int .i64 A ∧ pv = .int .i64 pl ∧ m ≤ k ∧ Hid (MI (D (byteAt s) s.size) k m A pl)) (fun _ _ jv => (intOf jv + 1).toNat)
      case atStart => exact ⟨k, 0, 1, by rw [HEQ.out]; go_num, rfl, rfl, Nat.le_refl _, MI.start hkle (fun j hj => HDg.out j (by omega))⟩
      case round =>
        obtain ⟨m, A, pl, rfl, rfl, rfl, hmk, HM⟩ := hrel
        have hA0 := HM.out.A0
        have hA1 := HM.out.A_bd
        obtain ⟨hp0, hp1⟩ := HM.out.pl_bd
        cases m with
        | zero =>
          rw [show ((0 : Nat) : Int) - 1 = -1 from rfl]
          have HNUM : Hid (A = num (D (byteAt s) s.size) (min (len (byteAt s) s.size) 18)) := by show _ = _; rw [HOK.out.2, ← HK.out]; exact HM.out.done
          cases ng
          · go_wp2
            (try simp only [Exit.inBlock, Exit.then])
            refine bodyPost_ret (results_tmp4 rfl _ _ _) rfl ?_
            exact ⟨ScanR.yes HOK.out.1 (by rw [if_neg (of_decide_eq_false HNG.out)]; exact HNUM.out) (by rw [← HPT.out.fs]) (by rw [HOK.out.2]; omega), HW1.out⟩
          · go_wp2
            (try simp only [Exit.inBlock, Exit.then])
            refine bodyPost_ret (results_tmp4 rfl _ _ _) rfl ?_
            exact ⟨ScanR.yes HOK.out.1 (by rw [if_pos (of_decide_eq_true HNG.out), ← HNUM.out]) (by rw [← HPT.out.fs]) (by rw [HOK.out.2]; omega), HW1.out⟩
        | succ m =>
          have hp17 := HM.out.pl17 (by omega)
          obtain ⟨hx0, hx1⟩ := HDg.out m (by omega)
          obtain ⟨hy0, hy1⟩ := HM.out.prod
          have HDA := fun wx => digitAt_any W F m _ wx hws hfs (by omega) (HDv.out m (by omega)) hx0 hx1
          have HST := HM.out.step
          generalize hx : D (byteAt s) s.size m = x at *
          have HST2 : Hid _ := HST
          clear HST
          rw [show ((m + 1 : Nat) : Int) - 1 = (m : Int) by omega]
          go_wp2_with (go_at_call 12; refine (HDA _).mono ?_; rintro e w1 ⟨rfl, rfl⟩)
          go_round
          case rel => exact ⟨m, A + x * pl, pl * 10, by go_num, by go_num, by go_num, by omega, HST2⟩
          case measure => simp [intOf]

theorem scan_any (s : ByteArray) (w : World) (hs : s.size ≤ 1048576) : Calls Try.prog 9 #[.string s] w fun e w' => ScanR e s ∧ w = w' := by
  have h1 := st_one (byteAt s) s.size
  by_cases h : st (byteAt s) s.size = 1
  · exact scan_1 s w hs h
  · exact scan_0 s w hs (by omega)

set_option maxHeartbeats 2000000 in
theorem zzscan_any (s : ByteArray) (w : World) (hs : s.size ≤ 1048576) : Calls Try.prog 6 #[.string s] w fun e w' => ScanR e s ∧ w = w' := by
  go_enter Try.func6, Try.ntmps6
  go_wp2_with (go_at_call 9; refine (scan_any s _ hs).mono ?_)
  rintro e w1 ⟨⟨A, E, G, b, rfl, hr⟩, rfl⟩
  have HR : Hid _ := hr
  clear hr
  go_wp2
  (try simp only [Exit.inBlock, Exit.then])
  refine bodyPost_ret (results_tmp4 rfl _ _ _) rfl ?_
  exact ⟨⟨A, E, G, b, rfl, HR.out⟩, rfl⟩

theorem ret_tt {e : Ending} {W : World} {w : World} {N : Nat} (he : e = .returned (.bool true)) (hw : W = w.drewN N) : e = .returned (.bool true) ∧ Below w.heap.size w W := by
  subst hw
  exact ⟨he, rfl, rfl, rfl, Nat.le_refl _, fun _ _ => rfl⟩

set_option maxHeartbeats 2000000 in
theorem main3 (s : ByteArray) (w : World) (hs : s.size ≤ 1048576) : Calls Try.prog 3 #[.string s] w fun e w' => e = .returned (.bool true) ∧ Below w.heap.size w w' := by
  go_enter Try.func3, Try.ntmps3
  go_wp2_with (first | (go_at_call 6; refine (zzscan_any s _ hs).mono ?_) | go_in)
  rintro e w1 ⟨⟨A, E, G, b, rfl, hr⟩, rfl⟩
  have HR : Hid _ := hr
  clear hr
  go_wp2_with (go_at_call 7; refine (model_any s _ hs).mono ?_)
  rintro e w1 ⟨⟨A', E', G', b', rfl, hr'⟩, hw⟩
  obtain ⟨rfl, rfl, rfl, rfl⟩ := Rel.same (c := byteAt s) (n := s.size) (A := A) (E := E) (G := G) (A' := A') (E' := E') (G' := G') (b := b) (b' := b') HR.out hr'
  have HW : Hid _ := hw
  clear hw hr' HR
  go_wp2
  go_ret
  obtain ⟨N, hN⟩ := HW.out
  exact ret_tt (ret_b (by simp)) hN
end Go.Proofs.Qxb6601746a
