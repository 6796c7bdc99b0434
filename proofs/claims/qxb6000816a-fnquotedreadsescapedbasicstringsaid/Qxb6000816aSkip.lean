/- 'skipSpace', 'zzSkipModel', 'ZZSkipSpace': their walks. -/
import Derived.Test.Qxb6000816aScan
import Derived.Deep.LoopGhost
namespace Go.Proofs.Qxb6000816a
open Go.RowKit
set_option linter.unusedVariables false
set_option linter.unusedSimpArgs false

theorem byte_cases (x : Int) : x = 10 ∨ x = 32 ∨ x = 9 ∨ x = 13 ∨ x = 35 ∨ (x ≠ 10 ∧ x ≠ 32 ∧ x ≠ 9 ∧ x ≠ 13 ∧ x ≠ 35) := by omega

theorem sc_nl {wr : World} {B p i0 : Nat} {s : ByteArray} {line : Int} {cn : Nat} (h : Sc wr B s p (line + cn)) (hc : cnt (byteAt s) i0 p = cn) (hp : i0 ≤ p) (hx : byteAt s p = 10) :
    Sc ((wr.setCell ⟨B, 2, none⟩ (.int .i64 (line + cn + 1))).setCell ⟨B, 1, none⟩ (.int .i64 ((p : Int) + 1))) B s (p + 1) (line + cnt (byteAt s) i0 (p + 1)) := by
  rw [cnt_nl hp hx, hc]
  have := (h.setL (line + cn + 1)).setI (p + 1)
  rw [show line + ((cn + 1 : Nat) : Int) = line + cn + 1 by omega]
  exact this
theorem sc_no {wr : World} {B p i0 : Nat} {s : ByteArray} {line : Int} {cn : Nat} (h : Sc wr B s p (line + cn)) (hc : cnt (byteAt s) i0 p = cn) (hx : byteAt s p ≠ 10) :
    Sc (wr.setCell ⟨B, 1, none⟩ (.int .i64 ((p : Int) + 1))) B s (p + 1) (line + cnt (byteAt s) i0 (p + 1)) := by
  rw [cnt_no hx, hc]
  exact h.setI (p + 1)

set_option maxHeartbeats 4000000 in
set_option maxRecDepth 100000 in
theorem skip_any (B i0 : Nat) (s : ByteArray) (line : Int) (w : World) (h : Sc w B s i0 line) (hs : s.size ≤ 1048576) (hi : i0 ≤ s.size) (hl1 : -1073741824 ≤ line) (hl2 : line ≤ 1073741824) :
    Calls Try.prog 27 #[.pointer (some ⟨B, 0, none⟩)] w fun e w' => e = .returned (.tuple #[]) ∧ ∃ j, j = skip (byteAt s) s.size i0 false ∧ Sc w' B s j (line + cnt (byteAt s) i0 j) ∧ i0 ≤ j ∧ j ≤ s.size ∧ FrS B w w' := by
  have HS0 : Hid (Sc w B s i0 line) := h
  clear h
  go_enter Try.func27, Try.ntmps27
  go_wp2
  go_loopg [] (s.size - i0) (fun g wr => ∃ p : Nat, Hid (g = s.size - p) ∧ i0 ≤ p ∧ p ≤ s.size ∧ Hid (Sc wr B s p (line + cnt (byteAt s) i0 p)) ∧ Hid (FrS B w wr) ∧ Hid (skip (byteAt s) s.size p false = skip (byteAt s) s.size i0 false))
  case atStart => exact ⟨i0, rfl, Nat.le_refl _, hi, by rw [cnt_self _ _ _ (Nat.le_refl _)]; show Sc _ _ _ _ _; rw [Int.natCast_zero, Int.add_zero]; exact HS0.out, FrS.refl _ _, rfl⟩
  case round =>
    clear HS0
    obtain ⟨p, HG, hp1, hp2, HSC, HF, HK⟩ := hrel
    have hcl := cnt_le (byteAt s) i0 p
    by_cases hlt : p < s.size
    · have hd : decide (s.size ≤ p) = false := decide_eq_false (by omega)
      obtain ⟨x, hx⟩ : ∃ x, byteAt s p = x := ⟨_, rfl⟩
      have HD := done_any B p s _ wr HSC.out (by omega)
      rw [hd] at HD
      have HPK := fun N => peek_in B p s _ (wr.drewN N) (Sc.drewN HSC.out N) (by omega) hlt
      rw [hx] at HPK
      obtain ⟨c0, c1, c2, cf⟩ := Sc.cells HSC.out
      have HX : Hid _ := hx
      clear hx hd
      generalize hcn : cnt (byteAt s) i0 p = cn at *
      have HCN : Hid _ := hcn
      clear hcn
      rcases byte_cases x with rfl | rfl | rfl | rfl | rfl | ⟨h1, h2, h3, h4, h5⟩
      · go_wp2_with (first | (go_at_call 31; refine HD.mono ?_; rintro e w' ⟨rfl, ⟨N1, rfl⟩⟩) | (go_at_call 32; refine (HPK _).mono ?_; rintro e w' ⟨rfl, ⟨N2, rfl⟩⟩))
        go_roundg (s.size - (p + 1))
        case measure => have := HG.out; omega
        case rel => exact ⟨p + 1, rfl, by omega, by omega, sc_nl HSC.out HCN.out hp1 HX.out, ((HF.out.set 2 _).set 1 _).drewN _, (skip_blank hlt (.inr (.inr (.inr HX.out)))).symm.trans HK.out⟩
      · go_wp2_with (first | (go_at_call 31; refine HD.mono ?_; rintro e w' ⟨rfl, ⟨N1, rfl⟩⟩) | (go_at_call 32; refine (HPK _).mono ?_; rintro e w' ⟨rfl, ⟨N2, rfl⟩⟩))
        go_roundg (s.size - (p + 1))
        case measure => have := HG.out; omega
        case rel => exact ⟨p + 1, rfl, by omega, by omega, sc_no HSC.out HCN.out (by rw [HX.out]; decide), (HF.out.set 1 _).drewN _, (skip_blank hlt (by rw [HX.out]; decide)).symm.trans HK.out⟩
      · go_wp2_with (first | (go_at_call 31; refine HD.mono ?_; rintro e w' ⟨rfl, ⟨N1, rfl⟩⟩) | (go_at_call 32; refine (HPK _).mono ?_; rintro e w' ⟨rfl, ⟨N2, rfl⟩⟩))
        go_roundg (s.size - (p + 1))
        case measure => have := HG.out; omega
        case rel => exact ⟨p + 1, rfl, by omega, by omega, sc_no HSC.out HCN.out (by rw [HX.out]; decide), (HF.out.set 1 _).drewN _, (skip_blank hlt (by rw [HX.out]; decide)).symm.trans HK.out⟩
      · go_wp2_with (first | (go_at_call 31; refine HD.mono ?_; rintro e w' ⟨rfl, ⟨N1, rfl⟩⟩) | (go_at_call 32; refine (HPK _).mono ?_; rintro e w' ⟨rfl, ⟨N2, rfl⟩⟩))
        go_roundg (s.size - (p + 1))
        case measure => have := HG.out; omega
        case rel => exact ⟨p + 1, rfl, by omega, by omega, sc_no HSC.out HCN.out (by rw [HX.out]; decide), (HF.out.set 1 _).drewN _, (skip_blank hlt (by rw [HX.out]; decide)).symm.trans HK.out⟩
      · go_wp2_with (first | (go_at_call 31; refine HD.mono ?_; rintro e w' ⟨rfl, ⟨N, rfl⟩⟩) | (go_at_call 32; refine (HPK _).mono ?_; rintro e w' ⟨rfl, ⟨N', rfl⟩⟩))
        go_loopg [] (s.size - p) (fun g wq => ∃ q : Nat, Hid (g = s.size - q) ∧ p ≤ q ∧ q ≤ s.size ∧ Hid (Sc wq B s q (line + cnt (byteAt s) i0 q)) ∧ Hid (FrS B w wq) ∧ Hid (skip (byteAt s) s.size q true = skip (byteAt s) s.size i0 false))
        case atStart => exact ⟨p, rfl, Nat.le_refl _, hp2, by rw [HCN.out]; exact HSC.out, HF.out.drewN _, by show _ = _; rw [skip_com hlt (by rw [HX.out]; decide), ← skip_hash hlt HX.out]; exact HK.out⟩
        case round =>
          clear c0 c1 c2 cf HD HPK HSC HK HF hcl
          obtain ⟨q, HG2, hq1, hq2, HSC, HF, HK⟩ := hrel
          have hcl := cnt_le (byteAt s) i0 q
          by_cases hlt2 : q < s.size
          · have hd : decide (s.size ≤ q) = false := decide_eq_false (by omega)
            obtain ⟨y, hy⟩ : ∃ y, byteAt s q = y := ⟨_, rfl⟩
            have HD := done_any B q s _ wr HSC.out (by omega)
            rw [hd] at HD
            have HPK := fun N => peek_in B q s _ (wr.drewN N) (Sc.drewN HSC.out N) (by omega) hlt2
            rw [hy] at HPK
            obtain ⟨c0, c1, c2, cf⟩ := Sc.cells HSC.out
            have HY : Hid _ := hy
            clear hy hd
            generalize hcn2 : cnt (byteAt s) i0 q = cn2 at *
            have HCN2 : Hid _ := hcn2
            clear hcn2
            by_cases hy10 : y = 10
            · subst hy10
              go_wp2_with (first | (go_at_call 31; refine HD.mono ?_; rintro e w' ⟨rfl, ⟨N1, rfl⟩⟩) | (go_at_call 32; refine (HPK _).mono ?_; rintro e w' ⟨rfl, ⟨N2, rfl⟩⟩))
              go_roundg (s.size - q)
              case measure => have h1 := HG.out; have h2 : q ≠ p := (fun e => by have h3 := HY.out; rw [e, HX.out] at h3; omega); omega
              case rel => exact ⟨q, rfl, by omega, by omega, by rw [HCN2.out]; exact HSC.out, HF.out.drewN _, (skip_com_at_nl hlt2 HY.out).symm.trans HK.out⟩
            · have hy10' : (y != 10) = true := by simpa using hy10
              go_wp2_with (first | (go_at_call 31; refine HD.mono ?_; rintro e w' ⟨rfl, ⟨N1, rfl⟩⟩) | (go_at_call 32; refine (HPK _).mono ?_; rintro e w' ⟨rfl, ⟨N2, rfl⟩⟩))
              go_roundg (s.size - (q + 1))
              case measure => have := HG2.out; omega
              case rel => exact ⟨q + 1, rfl, by omega, by omega, sc_no HSC.out HCN2.out (by rw [HY.out]; exact hy10), (HF.out.set 1 _).drewN _, (skip_com hlt2 (by rw [HY.out]; exact hy10)).symm.trans HK.out⟩
          · have hd : decide (s.size ≤ q) = true := decide_eq_true (by omega)
            have HD := done_any B q s _ wr HSC.out (by omega)
            rw [hd] at HD
            clear hd
            go_wp2_with (first | (go_at_call 31; refine HD.mono ?_; rintro e w' ⟨rfl, ⟨N2, rfl⟩⟩))
            go_roundg (s.size - q)
            case measure => have h1 := HG.out; omega
            case rel => exact ⟨q, rfl, by omega, by omega, HSC, HF.out.drewN _, by have h1 := HK.out; rw [skip_end _ _ _ _ (by omega)] at h1; show _ = _; rw [skip_end _ _ _ _ (by omega)]; exact h1⟩
      · have g1 : (x == 10) = false := by simp [h1]
        have g2 : (x == 32) = false := by simp [h2]
        have g3 : (x == 9) = false := by simp [h3]
        have g4 : (x == 13) = false := by simp [h4]
        have g5 : (x == 35) = false := by simp [h5]
        go_wp2_with (first | (go_at_call 31; refine HD.mono ?_; rintro e w' ⟨rfl, ⟨N1, rfl⟩⟩) | (go_at_call 32; refine (HPK _).mono ?_; rintro e w' ⟨rfl, ⟨N2, rfl⟩⟩))
        refine bodyPost_ret (v := .tuple #[]) (by simp [results, Try.results27, go_sem]) rfl ?_
        exact ⟨rfl, p, ((skip_stop hlt (by rw [HX.out]; exact h5) (by rw [HX.out]; omega)).symm.trans HK.out), by rw [HCN.out]; exact HSC.out, hp1, hp2, HF.out.drewN _⟩
    · have hd : decide (s.size ≤ p) = true := decide_eq_true (by omega)
      have HD := done_any B p s _ wr HSC.out (by omega)
      rw [hd] at HD
      clear hd
      go_wp2_with (first | (go_at_call 31; refine HD.mono ?_; rintro e w' ⟨rfl, ⟨N, rfl⟩⟩))
      go_end0
      exact ⟨rfl, p, by have h1 := HK.out; rw [skip_end _ _ _ _ (by omega)] at h1; exact h1, HSC.out, hp1, hp2, HF.out.drewN _⟩
end Go.Proofs.Qxb6000816a
