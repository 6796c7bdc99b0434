/- 'scan': its walk. -/
import Derived.Test.Qxb6601746aSplit
namespace Go.Proofs.Qxb6601746a
open Go.RowKit
set_option linter.unusedVariables false
set_option linter.unusedSimpArgs false

def ScanR (e : Ending) (s : ByteArray) : Prop := ∃ A E G b, e = .returned (.tuple #[.int .i64 A, .int .i32 E, .int .i64 G, .bool b]) ∧ Rel (byteAt s) s.size A E G b
theorem ScanR.no {s : ByteArray} (h : ¬ Ok (byteAt s) s.size) : ScanR (.returned (.tuple #[.int .i64 0, .int .i32 0, .int .i64 0, .bool false])) s := ⟨0, 0, 0, false, rfl, .inr ⟨rfl, h, rfl, rfl, rfl⟩⟩
theorem ScanR.yes {s : ByteArray} {A E G : Int} (h : Ok (byteAt s) s.size) (hA : A = (if st (byteAt s) s.size = 1 then - num (D (byteAt s) s.size) (min (len (byteAt s) s.size) 18) else num (D (byteAt s) s.size) (min (len (byteAt s) s.size) 18))) (hE : E = -((s.size - (P (byteAt s) s.size + 1) : Nat) : Int)) (hG : G = (len (byteAt s) s.size : Int)) :
    ScanR (.returned (.tuple #[.int .i64 A, .int .i32 E, .int .i64 G, .bool true])) s := ⟨A, E, G, true, rfl, .inl ⟨rfl, h, hA, hE, hG⟩⟩
theorem Inv.dg_le {c : Nat → Int} {n p : Nat} {point A : Int} {dg : Nat} (h : Inv c n p point dg A) : dg ≤ p ∧ -1 ≤ point ∧ point < n ∧ p ≤ n := by
  obtain ⟨h1, h2, h3, h4, h5⟩ := h
  have := P_le c n
  omega

set_option maxHeartbeats 4000000 in
set_option maxRecDepth 100000 in
theorem scan_1 (s : ByteArray) (w : World) (hs : s.size ≤ 1048576) (hst : st (byteAt s) s.size = 1) :
    Calls Try.prog 9 #[.string s] w fun e w' => ScanR e s ∧ w = w' := by
  have hpm := pfx_minus s
  rw [decide_eq_true hst] at hpm
  have HHP := fun wx => Try.strings_HasPrefix s ⟨#[45]⟩ wx
  rw [show (⟨#[45]⟩ : ByteArray).data.toList = [45] from rfl, hpm] at HHP
  have HST : Hid _ := hst
  clear hpm hst
  go_enter Try.func9, Try.ntmps9
  go_wp2_with (go_at_call 13; refine (HHP _).mono ?_; rintro e w1 ⟨rfl, rfl⟩)
  go_loop [2, 3, 4, 7, 8] (fun cv ev dv pv iv => ∃ (p dg : Nat) (A point : Int), iv = .int .i64 p ∧ ev = .int .i32 0 ∧ dv = .int .i64 dg ∧ pv = .int .i64 point ∧ cv = .int .i64 A ∧ Hid (Inv (byteAt s) s.size p point dg A)) (fun _ _ _ _ iv => s.size - (intOf iv).toNat)
  case atStart => exact ⟨1, 0, 0, -1, rfl, rfl, rfl, rfl, rfl, by have := Inv.start (byteAt s) s.size; rw [HST.out] at this; exact this⟩
  case round =>
    obtain ⟨p, dg, A, point, rfl, rfl, rfl, rfl, rfl, HI⟩ := hrel
    obtain ⟨hd1, hd2, hd3, hpn⟩ := HI.out.dg_le
    obtain ⟨hA1, hA2⟩ := HI.out.bd
    have hsp : 1 ≤ p := by have := HI.out.1; rw [HST.out] at this; exact this
    by_cases hlt : p < s.size
    · have hbe := byteAt_eq s p hlt
      obtain ⟨x, hx⟩ : ∃ x, byteAt s p = x := ⟨_, rfl⟩
      rw [hx] at hbe
      have HX : Hid _ := hx
      clear hx
      have hlt' : (p : Int) < (s.size : Int) := by omega
      by_cases hdig : 48 ≤ x ∧ x ≤ 57
      · obtain ⟨hx1, hx2⟩ := hdig
        by_cases h18 : dg < 18
        · obtain ⟨hB1, hB2⟩ := HI.out.bd17 h18
          go_wp2
          go_round
          case rel => exact ⟨p + 1, dg + 1, A * 10 + (x - 48), point, by go_num, rfl, by go_num, rfl, by go_num, by
            have := HI.out.digit hlt (by rw [HX.out]; exact ⟨hx1, hx2⟩)
            rw [if_pos h18, HX.out] at this; exact this⟩
          case measure => simp [intOf]; omega
        · go_wp2
          go_round
          case rel => exact ⟨p + 1, dg + 1, A, point, by go_num, rfl, by go_num, rfl, rfl, by
            have := HI.out.digit hlt (by rw [HX.out]; exact ⟨hx1, hx2⟩)
            rw [if_neg h18] at this; exact this⟩
          case measure => simp [intOf]; omega
      · by_cases h46 : x = 46
        · subst h46
          rcases HI.out.pt_cases with hp | hp
          · subst hp
            by_cases hps : 1 < p
            · have hps' : (1 : Int) < (p : Int) := by omega
              go_wp2
              go_round
              case rel => exact ⟨p + 1, dg, A, p, by go_num, rfl, rfl, rfl, rfl, HI.out.point hlt HX.out (by rw [HST.out]; exact hps)⟩
              case measure => simp [intOf]; omega
            · have hps' : (p : Int) ≤ (1 : Int) := by omega
              go_wp2
              (try simp only [Exit.inBlock, Exit.then])
              refine bodyPost_ret (results_tmp4 rfl _ _ _) rfl ?_
              exact ⟨ScanR.no (HI.out.bad hlt (by rw [HX.out]; unfold dig; omega) (fun _ => .inr (by rw [HST.out]; omega))), rfl⟩
          · have hp' : ¬ point < 0 := by omega
            go_wp2
            (try simp only [Exit.inBlock, Exit.then])
            refine bodyPost_ret (results_tmp4 rfl _ _ _) rfl ?_
            exact ⟨ScanR.no (HI.out.bad hlt (by rw [HX.out]; unfold dig; omega) (fun _ => .inl hp)), rfl⟩
        · have hn46 : (x == 46) = false := beq_false_of_ne h46
          by_cases hlo : x < 48
          · have hlo' : ¬ 48 ≤ x := by omega
            go_wp2
            (try simp only [Exit.inBlock, Exit.then])
            refine bodyPost_ret (results_tmp4 rfl _ _ _) rfl ?_
            exact ⟨ScanR.no (HI.out.bad hlt (by rw [HX.out]; unfold dig; omega) (fun h => absurd (HX.out.symm.trans h) h46)), rfl⟩
          · have hhi : 57 < x := by omega
            have hhi' : ¬ x ≤ 57 := by omega
            go_wp2
            (try simp only [Exit.inBlock, Exit.then])
            refine bodyPost_ret (results_tmp4 rfl _ _ _) rfl ?_
            exact ⟨ScanR.no (HI.out.bad hlt (by rw [HX.out]; unfold dig; omega) (fun h => absurd (HX.out.symm.trans h) h46)), rfl⟩
    · have hpe : p = s.size := by omega
      have HPE : Hid _ := hpe
      have hge : (s.size : Int) ≤ (p : Int) := by omega
      have HI2 : Hid (Inv (byteAt s) s.size s.size point dg A) := by have := HI.out; rw [hpe] at this; exact this
      clear hpe HI
      by_cases hdz : dg = 0
      · have HDZ : Hid _ := hdz
        have hdz' : ((dg : Int) == 0) = true := by simp [hdz]
        clear hdz
        go_wp2
        (try simp only [Exit.inBlock, Exit.then])
        refine bodyPost_ret (results_tmp4 rfl _ _ _) rfl ?_
        exact ⟨ScanR.no (HI2.out.endBad (.inl HDZ.out)), rfl⟩
      · have hdz' : ((dg : Int) == 0) = false := beq_false_of_ne (by omega)
        by_cases hpl : point = (s.size : Int) - 1
        · have HPL : Hid _ := hpl
          have hpl' : (point == (s.size : Int) - 1) = true := by rw [hpl]; simp
          clear hpl
          go_wp2
          (try simp only [Exit.inBlock, Exit.then])
          refine bodyPost_ret (results_tmp4 rfl _ _ _) rfl ?_
          exact ⟨ScanR.no (HI2.out.endBad (.inr HPL.out)), rfl⟩
        · have hpl' : (point == (s.size : Int) - 1) = false := beq_false_of_ne hpl
          obtain ⟨hok, hlen, hnum, hpt⟩ := HI2.out.endOk hdz hpl
          have HF : Hid _ := And.intro hok (And.intro hlen hnum)
          have HPT : Hid _ := hpt
          clear hok hlen hnum hpt
          rcases HI2.out.pt_cases with hp | hp
          · subst hp
            go_wp2
            (try simp only [Exit.inBlock, Exit.then])
            refine bodyPost_ret (results_tmp4 rfl _ _ _) rfl ?_
            exact ⟨ScanR.yes HF.out.1 (by rw [HST.out]; rw [if_pos rfl, HF.out.2.2]) (by have := HPT.out; omega) (by rw [HF.out.2.1]), rfl⟩
          · have hp' : ¬ point < 0 := by omega
            go_wp2
            (try simp only [Exit.inBlock, Exit.then])
            refine bodyPost_ret (results_tmp4 rfl _ _ _) rfl ?_
            exact ⟨ScanR.yes HF.out.1 (by rw [HST.out]; rw [if_pos rfl, HF.out.2.2]) (by have := HPT.out; omega) (by rw [HF.out.2.1]), rfl⟩

set_option maxHeartbeats 4000000 in
set_option maxRecDepth 100000 in
theorem scan_0 (s : ByteArray) (w : World) (hs : s.size ≤ 1048576) (hst : st (byteAt s) s.size = 0) :
    Calls Try.prog 9 #[.string s] w fun e w' => ScanR e s ∧ w = w' := by
  have hpm := pfx_minus s
  rw [decide_eq_false (by omega)] at hpm
  have HHP := fun wx => Try.strings_HasPrefix s ⟨#[45]⟩ wx
  rw [show (⟨#[45]⟩ : ByteArray).data.toList = [45] from rfl, hpm] at HHP
  have HST : Hid _ := hst
  clear hpm hst
  go_enter Try.func9, Try.ntmps9
  go_wp2_with (go_at_call 13; refine (HHP _).mono ?_; rintro e w1 ⟨rfl, rfl⟩)
  go_loop [2, 3, 4, 7, 8] (fun cv ev dv pv iv => ∃ (p dg : Nat) (A point : Int), iv = .int .i64 p ∧ ev = .int .i32 0 ∧ dv = .int .i64 dg ∧ pv = .int .i64 point ∧ cv = .int .i64 A ∧ Hid (Inv (byteAt s) s.size p point dg A)) (fun _ _ _ _ iv => s.size - (intOf iv).toNat)
  case atStart => exact ⟨0, 0, 0, -1, rfl, rfl, rfl, rfl, rfl, by have := Inv.start (byteAt s) s.size; rw [HST.out] at this; exact this⟩
  case round =>
    obtain ⟨p, dg, A, point, rfl, rfl, rfl, rfl, rfl, HI⟩ := hrel
    obtain ⟨hd1, hd2, hd3, hpn⟩ := HI.out.dg_le
    obtain ⟨hA1, hA2⟩ := HI.out.bd
    have hsp : 0 ≤ p := by have := HI.out.1; rw [HST.out] at this; exact this
    by_cases hlt : p < s.size
    · have hbe := byteAt_eq s p hlt
      obtain ⟨x, hx⟩ : ∃ x, byteAt s p = x := ⟨_, rfl⟩
      rw [hx] at hbe
      have HX : Hid _ := hx
      clear hx
      have hlt' : (p : Int) < (s.size : Int) := by omega
      by_cases hdig : 48 ≤ x ∧ x ≤ 57
      · obtain ⟨hx1, hx2⟩ := hdig
        by_cases h18 : dg < 18
        · obtain ⟨hB1, hB2⟩ := HI.out.bd17 h18
          go_wp2
          go_round
          case rel => exact ⟨p + 1, dg + 1, A * 10 + (x - 48), point, by go_num, rfl, by go_num, rfl, by go_num, by
            have := HI.out.digit hlt (by rw [HX.out]; exact ⟨hx1, hx2⟩)
            rw [if_pos h18, HX.out] at this; exact this⟩
          case measure => simp [intOf]; omega
        · go_wp2
          go_round
          case rel => exact ⟨p + 1, dg + 1, A, point, by go_num, rfl, by go_num, rfl, rfl, by
            have := HI.out.digit hlt (by rw [HX.out]; exact ⟨hx1, hx2⟩)
            rw [if_neg h18] at this; exact this⟩
          case measure => simp [intOf]; omega
      · by_cases h46 : x = 46
        · subst h46
          rcases HI.out.pt_cases with hp | hp
          · subst hp
            by_cases hps : 0 < p
            · have hps' : (0 : Int) < (p : Int) := by omega
              go_wp2
              go_round
              case rel => exact ⟨p + 1, dg, A, p, by go_num, rfl, rfl, rfl, rfl, HI.out.point hlt HX.out (by rw [HST.out]; exact hps)⟩
              case measure => simp [intOf]; omega
            · have hps' : (p : Int) ≤ (0 : Int) := by omega
              go_wp2
              (try simp only [Exit.inBlock, Exit.then])
              refine bodyPost_ret (results_tmp4 rfl _ _ _) rfl ?_
              exact ⟨ScanR.no (HI.out.bad hlt (by rw [HX.out]; unfold dig; omega) (fun _ => .inr (by rw [HST.out]; omega))), rfl⟩
          · have hp' : ¬ point < 0 := by omega
            go_wp2
            (try simp only [Exit.inBlock, Exit.then])
            refine bodyPost_ret (results_tmp4 rfl _ _ _) rfl ?_
            exact ⟨ScanR.no (HI.out.bad hlt (by rw [HX.out]; unfold dig; omega) (fun _ => .inl hp)), rfl⟩
        · have hn46 : (x == 46) = false := beq_false_of_ne h46
          by_cases hlo : x < 48
          · have hlo' : ¬ 48 ≤ x := by omega
            go_wp2
            (try simp only [Exit.inBlock, Exit.then])
            refine bodyPost_ret (results_tmp4 rfl _ _ _) rfl ?_
            exact ⟨ScanR.no (HI.out.bad hlt (by rw [HX.out]; unfold dig; omega) (fun h => absurd (HX.out.symm.trans h) h46)), rfl⟩
          · have hhi : 57 < x := by omega
            have hhi' : ¬ x ≤ 57 := by omega
            go_wp2
            (try simp only [Exit.inBlock, Exit.then])
            refine bodyPost_ret (results_tmp4 rfl _ _ _) rfl ?_
            exact ⟨ScanR.no (HI.out.bad hlt (by rw [HX.out]; unfold dig; omega) (fun h => absurd (HX.out.symm.trans h) h46)), rfl⟩
    · have hpe : p = s.size := by omega
      have HPE : Hid _ := hpe
      have hge : (s.size : Int) ≤ (p : Int) := by omega
      have HI2 : Hid (Inv (byteAt s) s.size s.size point dg A) := by have := HI.out; rw [hpe] at this; exact this
      clear hpe HI
      by_cases hdz : dg = 0
      · have HDZ : Hid _ := hdz
        have hdz' : ((dg : Int) == 0) = true := by simp [hdz]
        clear hdz
        go_wp2
        (try simp only [Exit.inBlock, Exit.then])
        refine bodyPost_ret (results_tmp4 rfl _ _ _) rfl ?_
        exact ⟨ScanR.no (HI2.out.endBad (.inl HDZ.out)), rfl⟩
      · have hdz' : ((dg : Int) == 0) = false := beq_false_of_ne (by omega)
        by_cases hpl : point = (s.size : Int) - 1
        · have HPL : Hid _ := hpl
          have hpl' : (point == (s.size : Int) - 1) = true := by rw [hpl]; simp
          clear hpl
          go_wp2
          (try simp only [Exit.inBlock, Exit.then])
          refine bodyPost_ret (results_tmp4 rfl _ _ _) rfl ?_
          exact ⟨ScanR.no (HI2.out.endBad (.inr HPL.out)), rfl⟩
        · have hpl' : (point == (s.size : Int) - 1) = false := beq_false_of_ne hpl
          obtain ⟨hok, hlen, hnum, hpt⟩ := HI2.out.endOk hdz hpl
          have HF : Hid _ := And.intro hok (And.intro hlen hnum)
          have HPT : Hid _ := hpt
          clear hok hlen hnum hpt
          rcases HI2.out.pt_cases with hp | hp
          · subst hp
            go_wp2
            (try simp only [Exit.inBlock, Exit.then])
            refine bodyPost_ret (results_tmp4 rfl _ _ _) rfl ?_
            exact ⟨ScanR.yes HF.out.1 (by rw [HST.out]; rw [if_neg (by decide)]; exact HF.out.2.2) (by have := HPT.out; omega) (by rw [HF.out.2.1]), rfl⟩
          · have hp' : ¬ point < 0 := by omega
            go_wp2
            (try simp only [Exit.inBlock, Exit.then])
            refine bodyPost_ret (results_tmp4 rfl _ _ _) rfl ?_
            exact ⟨ScanR.yes HF.out.1 (by rw [HST.out]; rw [if_neg (by decide)]; exact HF.out.2.2) (by have := HPT.out; omega) (by rw [HF.out.2.1]), rfl⟩

end Go.Proofs.Qxb6601746a
