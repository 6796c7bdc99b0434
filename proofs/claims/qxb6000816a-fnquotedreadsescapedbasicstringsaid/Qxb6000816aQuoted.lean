/- 'quoted': its walk. -/
import Derived.Test.Qxb6000816aQuoteKit
namespace Go.Proofs.Qxb6000816a
open Go.RowKit
set_option linter.unusedVariables false
set_option linter.unusedSimpArgs false

set_option maxHeartbeats 4000000 in
set_option maxRecDepth 100000 in
theorem quoted_any (B i : Nat) (s : ByteArray) (line q : Int) (w : World) (h : Sc w B s i line) (hs : s.size ≤ 1048576) (hi : i < s.size) (hq : q = 34 ∨ q = 39) (hqi : byteAt s i = q) (hl1 : -1073741824 ≤ line) (hl2 : line ≤ 1073741824) :
    Calls Try.prog 30 #[.pointer (some ⟨B, 0, none⟩)] w fun e w' => e = .returned (.tuple #[]) ∧ ∃ j, j = qend (byteAt s) s.size q i ∧ Sc w' B s j (line + cnt (byteAt s) i (min j s.size)) ∧ i + 2 ≤ j ∧ j ≤ s.size + 6 ∧ FrS B w w' := by
  have HPK := peek_in B i s _ w h (by omega) hi
  rw [hqi] at HPK
  obtain ⟨D1, hD1⟩ : ∃ D1, one q = D1 := ⟨_, rfl⟩
  obtain ⟨D3, hD3⟩ : ∃ D3, three q = D3 := ⟨_, rfl⟩
  have s1 := one_size q
  have s3 := three_size q
  have HCV := fun wx => conv_one hq wx
  have HRP := fun wx => rep_three hq wx
  rw [hD1] at s1 HCV HRP
  rw [hD3] at s3 HRP
  have HSF : SF w B s i line w := ⟨h, FrS.refl _ _⟩
  have HD1 : Hid _ := hD1
  have HD3 : Hid _ := hD3
  have HQI : Hid _ := hqi
  clear h hD1 hD3 hqi
  have hi' : (i : Int) ≤ (s.size : Int) := by omega
  go_enter Try.func30, Try.ntmps30
  go_wp2_with (go_at_call 32; refine HPK.mono ?_; rintro e w' ⟨rfl, ⟨N, rfl⟩⟩)
  have HSF' : SF w B s i line (w.drewN N) := ⟨HSF.1.drewN N, HSF.2.drewN N⟩
  have hcc := HSF'.cells
  have hc0 := hcc.1
  have hc1 := hcc.2
  obtain ⟨pre, hpre⟩ : ∃ b, Lib.hasPrefix (s.extract i s.size).data.toList D3.data.toList = b := ⟨_, rfl⟩
  have HHP := fun wx => Try.strings_HasPrefix (s.extract i s.size) D3 wx
  rw [hpre] at HHP
  have HPRE : Hid _ := hpre
  clear HSF hpre HPK hcc
  go_region_held3 (fun w' => SF w B s i line w' ∧ w'.cell? ⟨B, 0, none⟩ = some (.string s) ∧ w'.cell? ⟨B, 1, none⟩ = some (.int .i64 i))
    (first | (go_split_ands; refine ⟨?_, ?_, ?_⟩ <;> assumption) | (go_split_ands; refine ⟨?_, ?_, ?_⟩ <;> first | (apply SF.drew; assumption) | (simp only [World.cell?_drew]; assumption)) | (go_split_ands; exact ⟨SF.below ‹_› ‹_›, (SF.below ‹_› ‹_›).cells.1, (SF.below ‹_› ‹_›).cells.2⟩))
    (first | (go_at_call 35; refine (HRP _).mono ?_; rintro r w' ⟨rfl, hb⟩) | (go_at_call 34; refine (HHP _).mono ?_; rintro r w' ⟨rfl, rfl⟩))
  rename_i hHeld
  obtain ⟨hsf, hz1, hz2⟩ := hHeld
  have HA : Hid (AtQ w B s i line w' i) := AtQ.ofSF hsf
  clear hz1 hz2 hsf HSF' hc0 hc1 hb HHP hi'
  have s1' : (D1.size : Int) = 1 := by omega
  have s3' : (D3.size : Int) = 3 := by omega
  obtain ⟨c0, c1, c2, cf⟩ := HA.out.1.cells
  cases pre
  · have HP1 : Hid (hp (byteAt s) s.size i q 3 = false) := by have := HPRE.out; rw [← HD3.out, pfx_three hq] at this; exact this
    have HP0 : Hid (i + 1 ≤ s.size ∧ ∀ t, t < 1 → byteAt s (i + t) = q) := ⟨hi, fun t ht => by rw [show i + t = i by omega]; exact HQI.out⟩
    have HPF : ∀ p, Lib.hasPrefix (s.extract p s.size).data.toList D1.data.toList = hp (byteAt s) s.size p q 1 := fun p => by rw [← HD1.out]; exact pfx_one hq s p
    have HPFH : Hid _ := HPF
    clear HPF
    go_wp2_with fail
    have HS : Hid (AtQ w B s i line (w'.setCell ⟨B, 1, none⟩ (.int .i64 ((i : Int) + 1))) (i + 1)) := HA.out.on (i + 1) (cnt_end hq (.inr (hp_iff.mpr HP0.out)))
    clear c0 c1 c2 cf HA HRP HCV HPRE
    go_loopg [] (s.size + 2 - (i + 1)) (fun g wr => ∃ p : Nat, Hid (g = s.size + 2 - p) ∧ i + 1 ≤ p ∧ p ≤ s.size + 1 ∧ Hid (AtQ w B s i line wr p) ∧ Hid (body (byteAt s) s.size q 1 p = body (byteAt s) s.size q 1 (i + 1)))
    case atStart => exact ⟨i + 1, rfl, Nat.le_refl _, by have := HP0.out.1; omega, HS, rfl⟩
    case round =>
      clear HS
      obtain ⟨p, HG, hp1, hp2, HQ, HK⟩ := hrel
      have hcl := cnt_le (byteAt s) i (min p s.size)
      have HD := fun N => done_any B p s _ (wr.drewN N) (HQ.out.1.drewN N) (by omega)
      obtain ⟨c0, c1, c2, cf⟩ := HQ.out.1.cells
      by_cases hlt : p < s.size
      · have hd : decide (s.size ≤ p) = false := decide_eq_false (by omega)
        rw [hd] at HD
        clear hd
        have HH := fun wx => Try.strings_HasPrefix (s.extract p s.size) D1 wx
        rw [HPFH.out p] at HH
        have hp' : (p : Int) ≤ (s.size : Int) := by omega
        obtain ⟨b, hb⟩ : ∃ b, hp (byteAt s) s.size p q 1 = b := ⟨_, rfl⟩
        rw [hb] at HH
        have HB : Hid _ := hb
        clear hb
        generalize hcn : cnt (byteAt s) i (min p s.size) = cn at *
        have HCN : Hid _ := hcn
        clear hcn
        cases b
        · obtain ⟨x, hx⟩ : ∃ x, byteAt s p = x := ⟨_, rfl⟩
          have HPK := fun N => peek_in B p s _ (wr.drewN N) (HQ.out.1.drewN N) (by omega) hlt
          rw [hx] at HPK
          have HX : Hid _ := hx
          clear hx
          go_wp2_with fail
          go_quiet (first | (go_at_call 31; exact Calls.quiet_of (HD _)) | (go_at_call 34; exact Calls.quiet_of_same (HH _)))
          rcases hq with rfl | rfl
          · by_cases hx92 : x = 92
            · subst hx92
              have HBD : Hid (body (byteAt s) s.size 34 1 p = body (byteAt s) s.size 34 1 (p + 2)) := body_esc hlt HB.out ⟨rfl, HX.out⟩
              have HCC : Hid (cnt (byteAt s) i (min (p + 1) s.size) = cn) := (cnt_one hlt (by rw [HX.out]; decide)).trans HCN.out
              have HE1 : Hid (AtQ w B s i line (wr.setCell ⟨B, 1, none⟩ (.int .i64 ((p : Int) + 1))) (p + 1)) := HQ.out.on (p + 1) (cnt_one hlt (by rw [HX.out]; decide))
              have HD2 := fun N => done_any B (p + 1) s _ ((wr.setCell ⟨B, 1, none⟩ (.int .i64 ((p : Int) + 1))).drewN N) (HE1.out.1.drewN N) (by omega)
              by_cases hlt2 : p + 1 < s.size
              · have hd : decide (s.size ≤ p + 1) = false := decide_eq_false (by omega)
                rw [hd] at HD2
                clear hd
                obtain ⟨y, hy⟩ : ∃ y, byteAt s (p + 1) = y := ⟨_, rfl⟩
                have HPK2 := fun N => peek_in B (p + 1) s _ ((wr.setCell ⟨B, 1, none⟩ (.int .i64 ((p : Int) + 1))).drewN N) (HE1.out.1.drewN N) (by omega) hlt2
                rw [hy] at HPK2
                have HY : Hid _ := hy
                clear hy
                by_cases hy10 : y = 10
                · subst hy10
                  go_wp2_with (first | (go_at_call 31; refine (HD2 _).mono ?_; rintro e wA ⟨rfl, ⟨NA, rfl⟩⟩) | (go_at_call 32; refine (HPK _).mono ?_; rintro e wA ⟨rfl, ⟨NA, rfl⟩⟩) | (go_at_call 32; refine (HPK2 _).mono ?_; rintro e wA ⟨rfl, ⟨NA, rfl⟩⟩))
                  go_roundg (s.size + 2 - (p + 2))
                  case measure => have := HG.out; omega
                  case rel => exact ⟨p + 2, rfl, by omega, by omega, (HE1.out.drewN _).onL (p + 2) (line + cn + 1) (by rw [HCC.out]) (cnt_oneL (by omega) hlt2 HY.out), HBD.out.symm.trans HK.out⟩
                · have gy : (y == 10) = false := by simp [hy10]
                  go_wp2_with (first | (go_at_call 31; refine (HD2 _).mono ?_; rintro e wA ⟨rfl, ⟨NA, rfl⟩⟩) | (go_at_call 32; refine (HPK _).mono ?_; rintro e wA ⟨rfl, ⟨NA, rfl⟩⟩) | (go_at_call 32; refine (HPK2 _).mono ?_; rintro e wA ⟨rfl, ⟨NA, rfl⟩⟩))
                  go_roundg (s.size + 2 - (p + 2))
                  case measure => have := HG.out; omega
                  case rel => exact ⟨p + 2, rfl, by omega, by omega, (HE1.out.drewN _).on (p + 2) (cnt_one hlt2 (by rw [HY.out]; exact hy10)), HBD.out.symm.trans HK.out⟩
              · have hd : decide (s.size ≤ p + 1) = true := decide_eq_true (by omega)
                rw [hd] at HD2
                clear hd
                go_wp2_with (first | (go_at_call 31; refine (HD2 _).mono ?_; rintro e wA ⟨rfl, ⟨NA, rfl⟩⟩) | (go_at_call 32; refine (HPK _).mono ?_; rintro e wA ⟨rfl, ⟨NB, rfl⟩⟩))
                go_roundg (s.size + 2 - (p + 2))
                case measure => have := HG.out; omega
                case rel => exact ⟨p + 2, rfl, by omega, by omega, (HE1.out.drewN _).on (p + 2) (cnt_end (d := 1) (q := 34) (.inl rfl) (.inl (by omega))), HBD.out.symm.trans HK.out⟩

            · have gx92 : (x == 92) = false := by simp [hx92]
              have HBD : Hid (body (byteAt s) s.size 34 1 p = body (byteAt s) s.size 34 1 (p + 1)) := body_one hlt HB.out (fun h => hx92 (HX.out.symm.trans h.2))
              by_cases hx10 : x = 10
              · subst hx10
                go_wp2_with (first | (go_at_call 31; refine (HD _).mono ?_; rintro e wA ⟨rfl, ⟨NA, rfl⟩⟩) | (go_at_call 32; refine (HPK _).mono ?_; rintro e wA ⟨rfl, ⟨NB, rfl⟩⟩))
                go_roundg (s.size + 2 - (p + 1))
                case measure => have := HG.out; omega
                case rel => exact ⟨p + 1, rfl, by omega, by omega, ((HQ.out.onL (p + 1) (line + cn + 1) (by rw [HCN.out]) (cnt_oneL (by omega) hlt HX.out)).drewN _), HBD.out.symm.trans HK.out⟩
              · have gx : (x == 10) = false := by simp [hx10]
                go_wp2_with (first | (go_at_call 31; refine (HD _).mono ?_; rintro e wA ⟨rfl, ⟨NA, rfl⟩⟩) | (go_at_call 32; refine (HPK _).mono ?_; rintro e wA ⟨rfl, ⟨NB, rfl⟩⟩))
                go_roundg (s.size + 2 - (p + 1))
                case measure => have := HG.out; omega
                case rel => exact ⟨p + 1, rfl, by omega, by omega, ((HQ.out.on (p + 1) (cnt_one hlt (by rw [HX.out]; exact hx10))).drewN _), HBD.out.symm.trans HK.out⟩

          · have HBD : Hid (body (byteAt s) s.size 39 1 p = body (byteAt s) s.size 39 1 (p + 1)) := body_one hlt HB.out (fun h => absurd h.1 (by decide))
            by_cases hx10 : x = 10
            · subst hx10
              go_wp2_with (first | (go_at_call 31; refine (HD _).mono ?_; rintro e wA ⟨rfl, ⟨NA, rfl⟩⟩) | (go_at_call 32; refine (HPK _).mono ?_; rintro e wA ⟨rfl, ⟨NB, rfl⟩⟩))
              go_roundg (s.size + 2 - (p + 1))
              case measure => have := HG.out; omega
              case rel => exact ⟨p + 1, rfl, by omega, by omega, ((HQ.out.onL (p + 1) (line + cn + 1) (by rw [HCN.out]) (cnt_oneL (by omega) hlt HX.out)).drewN _), HBD.out.symm.trans HK.out⟩
            · have gx : (x == 10) = false := by simp [hx10]
              go_wp2_with (first | (go_at_call 31; refine (HD _).mono ?_; rintro e wA ⟨rfl, ⟨NA, rfl⟩⟩) | (go_at_call 32; refine (HPK _).mono ?_; rintro e wA ⟨rfl, ⟨NB, rfl⟩⟩))
              go_roundg (s.size + 2 - (p + 1))
              case measure => have := HG.out; omega
              case rel => exact ⟨p + 1, rfl, by omega, by omega, ((HQ.out.on (p + 1) (cnt_one hlt (by rw [HX.out]; exact hx10))).drewN _), HBD.out.symm.trans HK.out⟩

        · go_wp2_with fail
          go_quiet (first | (go_at_call 31; exact Calls.quiet_of (HD _)) | (go_at_call 34; exact Calls.quiet_of_same (HH _)))
          have HE : Hid (AtQ w B s i line ((wr.drewN nq).setCell ⟨B, 1, none⟩ (.int .i64 ((p : Int) + 1))) (p + 1)) := (HQ.out.drewN nq).on (p + 1) (cnt_end hq (.inr HB.out))
          have HBO : Hid (body (byteAt s) s.size q 1 p = p) := body_hit hlt HB.out
          clear HD HQ
          have s13 : ((D1.size : Int) == 3) = false := by rw [s1']; rfl
          go_wp2
          refine wp_loop_rounds 1 ?_
          rw [rounds_succ]
          go_wp2
          go_end0
          exact ⟨rfl, p + 1, by unfold qend; rw [if_neg (by rw [HP1.out]; simp), ← HK.out, HBO.out], HE.out.1, by omega, by omega, HE.out.2⟩
      · have hd : decide (s.size ≤ p) = true := decide_eq_true (by omega)
        rw [hd] at HD
        clear hd
        go_wp2_with fail
        go_quiet (first | (go_at_call 31; exact Calls.quiet_of (HD _)) | (go_at_call 34; exact Calls.quiet_of_same (HH _)))
        have HE : Hid (AtQ w B s i line ((wr.drewN nq).setCell ⟨B, 1, none⟩ (.int .i64 ((p : Int) + 1))) (p + 1)) := (HQ.out.drewN nq).on (p + 1) (cnt_end hq (.inl (by omega)))
        have HBO : Hid (body (byteAt s) s.size q 1 p = p) := body_out (by omega)
        clear HD HQ
        have s13 : ((D1.size : Int) == 3) = false := by rw [s1']; rfl
        go_wp2
        refine wp_loop_rounds 1 ?_
        rw [rounds_succ]
        go_wp2
        go_end0
        exact ⟨rfl, p + 1, by unfold qend; rw [if_neg (by rw [HP1.out]; simp), ← HK.out, HBO.out], HE.out.1, by omega, by omega, HE.out.2⟩
  · have HP1 : Hid (hp (byteAt s) s.size i q 3 = true) := by have := HPRE.out; rw [← HD3.out, pfx_three hq] at this; exact this
    have HP0 : Hid (i + 3 ≤ s.size ∧ ∀ t, t < 3 → byteAt s (i + t) = q) := hp_iff.mp HP1.out
    have HPF : ∀ p, Lib.hasPrefix (s.extract p s.size).data.toList D3.data.toList = hp (byteAt s) s.size p q 3 := fun p => by rw [← HD3.out]; exact pfx_three hq s p
    have HPFH : Hid _ := HPF
    clear HPF
    go_wp2_with (go_at_call 35; refine (HRP _).mono ?_; rintro e w2 ⟨rfl, hb⟩; have HA2 : Hid (AtQ w B s i line w2 i) := AtQ.keep HA.out hb; obtain ⟨e0, e1, e2, ef⟩ := HA2.out.1.cells)
    have HS : Hid (AtQ w B s i line (w2.setCell ⟨B, 1, none⟩ (.int .i64 ((i : Int) + 3))) (i + 3)) := HA2.out.on (i + 3) (cnt_end hq (.inr HP1.out))
    clear e0 e1 e2 ef hb HA2
    clear c0 c1 c2 cf HA HRP HCV HPRE
    go_loopg [] (s.size + 2 - (i + 3)) (fun g wr => ∃ p : Nat, Hid (g = s.size + 2 - p) ∧ i + 3 ≤ p ∧ p ≤ s.size + 1 ∧ Hid (AtQ w B s i line wr p) ∧ Hid (body (byteAt s) s.size q 3 p = body (byteAt s) s.size q 3 (i + 3)))
    case atStart => exact ⟨i + 3, rfl, Nat.le_refl _, by have := HP0.out.1; omega, HS, rfl⟩
    case round =>
      clear HS
      obtain ⟨p, HG, hp1, hp2, HQ, HK⟩ := hrel
      have hcl := cnt_le (byteAt s) i (min p s.size)
      have HD := fun N => done_any B p s _ (wr.drewN N) (HQ.out.1.drewN N) (by omega)
      obtain ⟨c0, c1, c2, cf⟩ := HQ.out.1.cells
      by_cases hlt : p < s.size
      · have hd : decide (s.size ≤ p) = false := decide_eq_false (by omega)
        rw [hd] at HD
        clear hd
        have HH := fun wx => Try.strings_HasPrefix (s.extract p s.size) D3 wx
        rw [HPFH.out p] at HH
        have hp' : (p : Int) ≤ (s.size : Int) := by omega
        obtain ⟨b, hb⟩ : ∃ b, hp (byteAt s) s.size p q 3 = b := ⟨_, rfl⟩
        rw [hb] at HH
        have HB : Hid _ := hb
        clear hb
        generalize hcn : cnt (byteAt s) i (min p s.size) = cn at *
        have HCN : Hid _ := hcn
        clear hcn
        cases b
        · obtain ⟨x, hx⟩ : ∃ x, byteAt s p = x := ⟨_, rfl⟩
          have HPK := fun N => peek_in B p s _ (wr.drewN N) (HQ.out.1.drewN N) (by omega) hlt
          rw [hx] at HPK
          have HX : Hid _ := hx
          clear hx
          go_wp2_with fail
          go_quiet (first | (go_at_call 31; exact Calls.quiet_of (HD _)) | (go_at_call 34; exact Calls.quiet_of_same (HH _)))
          rcases hq with rfl | rfl
          · by_cases hx92 : x = 92
            · subst hx92
              have HBD : Hid (body (byteAt s) s.size 34 3 p = body (byteAt s) s.size 34 3 (p + 2)) := body_esc hlt HB.out ⟨rfl, HX.out⟩
              have HCC : Hid (cnt (byteAt s) i (min (p + 1) s.size) = cn) := (cnt_one hlt (by rw [HX.out]; decide)).trans HCN.out
              have HE1 : Hid (AtQ w B s i line (wr.setCell ⟨B, 1, none⟩ (.int .i64 ((p : Int) + 1))) (p + 1)) := HQ.out.on (p + 1) (cnt_one hlt (by rw [HX.out]; decide))
              have HD2 := fun N => done_any B (p + 1) s _ ((wr.setCell ⟨B, 1, none⟩ (.int .i64 ((p : Int) + 1))).drewN N) (HE1.out.1.drewN N) (by omega)
              by_cases hlt2 : p + 1 < s.size
              · have hd : decide (s.size ≤ p + 1) = false := decide_eq_false (by omega)
                rw [hd] at HD2
                clear hd
                obtain ⟨y, hy⟩ : ∃ y, byteAt s (p + 1) = y := ⟨_, rfl⟩
                have HPK2 := fun N => peek_in B (p + 1) s _ ((wr.setCell ⟨B, 1, none⟩ (.int .i64 ((p : Int) + 1))).drewN N) (HE1.out.1.drewN N) (by omega) hlt2
                rw [hy] at HPK2
                have HY : Hid _ := hy
                clear hy
                by_cases hy10 : y = 10
                · subst hy10
                  go_wp2_with (first | (go_at_call 31; refine (HD2 _).mono ?_; rintro e wA ⟨rfl, ⟨NA, rfl⟩⟩) | (go_at_call 32; refine (HPK _).mono ?_; rintro e wA ⟨rfl, ⟨NA, rfl⟩⟩) | (go_at_call 32; refine (HPK2 _).mono ?_; rintro e wA ⟨rfl, ⟨NA, rfl⟩⟩))
                  go_roundg (s.size + 2 - (p + 2))
                  case measure => have := HG.out; omega
                  case rel => exact ⟨p + 2, rfl, by omega, by omega, (HE1.out.drewN _).onL (p + 2) (line + cn + 1) (by rw [HCC.out]) (cnt_oneL (by omega) hlt2 HY.out), HBD.out.symm.trans HK.out⟩
                · have gy : (y == 10) = false := by simp [hy10]
                  go_wp2_with (first | (go_at_call 31; refine (HD2 _).mono ?_; rintro e wA ⟨rfl, ⟨NA, rfl⟩⟩) | (go_at_call 32; refine (HPK _).mono ?_; rintro e wA ⟨rfl, ⟨NA, rfl⟩⟩) | (go_at_call 32; refine (HPK2 _).mono ?_; rintro e wA ⟨rfl, ⟨NA, rfl⟩⟩))
                  go_roundg (s.size + 2 - (p + 2))
                  case measure => have := HG.out; omega
                  case rel => exact ⟨p + 2, rfl, by omega, by omega, (HE1.out.drewN _).on (p + 2) (cnt_one hlt2 (by rw [HY.out]; exact hy10)), HBD.out.symm.trans HK.out⟩
              · have hd : decide (s.size ≤ p + 1) = true := decide_eq_true (by omega)
                rw [hd] at HD2
                clear hd
                go_wp2_with (first | (go_at_call 31; refine (HD2 _).mono ?_; rintro e wA ⟨rfl, ⟨NA, rfl⟩⟩) | (go_at_call 32; refine (HPK _).mono ?_; rintro e wA ⟨rfl, ⟨NB, rfl⟩⟩))
                go_roundg (s.size + 2 - (p + 2))
                case measure => have := HG.out; omega
                case rel => exact ⟨p + 2, rfl, by omega, by omega, (HE1.out.drewN _).on (p + 2) (cnt_end (d := 1) (q := 34) (.inl rfl) (.inl (by omega))), HBD.out.symm.trans HK.out⟩

            · have gx92 : (x == 92) = false := by simp [hx92]
              have HBD : Hid (body (byteAt s) s.size 34 3 p = body (byteAt s) s.size 34 3 (p + 1)) := body_one hlt HB.out (fun h => hx92 (HX.out.symm.trans h.2))
              by_cases hx10 : x = 10
              · subst hx10
                go_wp2_with (first | (go_at_call 31; refine (HD _).mono ?_; rintro e wA ⟨rfl, ⟨NA, rfl⟩⟩) | (go_at_call 32; refine (HPK _).mono ?_; rintro e wA ⟨rfl, ⟨NB, rfl⟩⟩))
                go_roundg (s.size + 2 - (p + 1))
                case measure => have := HG.out; omega
                case rel => exact ⟨p + 1, rfl, by omega, by omega, ((HQ.out.onL (p + 1) (line + cn + 1) (by rw [HCN.out]) (cnt_oneL (by omega) hlt HX.out)).drewN _), HBD.out.symm.trans HK.out⟩
              · have gx : (x == 10) = false := by simp [hx10]
                go_wp2_with (first | (go_at_call 31; refine (HD _).mono ?_; rintro e wA ⟨rfl, ⟨NA, rfl⟩⟩) | (go_at_call 32; refine (HPK _).mono ?_; rintro e wA ⟨rfl, ⟨NB, rfl⟩⟩))
                go_roundg (s.size + 2 - (p + 1))
                case measure => have := HG.out; omega
                case rel => exact ⟨p + 1, rfl, by omega, by omega, ((HQ.out.on (p + 1) (cnt_one hlt (by rw [HX.out]; exact hx10))).drewN _), HBD.out.symm.trans HK.out⟩

          · have HBD : Hid (body (byteAt s) s.size 39 3 p = body (byteAt s) s.size 39 3 (p + 1)) := body_one hlt HB.out (fun h => absurd h.1 (by decide))
            by_cases hx10 : x = 10
            · subst hx10
              go_wp2_with (first | (go_at_call 31; refine (HD _).mono ?_; rintro e wA ⟨rfl, ⟨NA, rfl⟩⟩) | (go_at_call 32; refine (HPK _).mono ?_; rintro e wA ⟨rfl, ⟨NB, rfl⟩⟩))
              go_roundg (s.size + 2 - (p + 1))
              case measure => have := HG.out; omega
              case rel => exact ⟨p + 1, rfl, by omega, by omega, ((HQ.out.onL (p + 1) (line + cn + 1) (by rw [HCN.out]) (cnt_oneL (by omega) hlt HX.out)).drewN _), HBD.out.symm.trans HK.out⟩
            · have gx : (x == 10) = false := by simp [hx10]
              go_wp2_with (first | (go_at_call 31; refine (HD _).mono ?_; rintro e wA ⟨rfl, ⟨NA, rfl⟩⟩) | (go_at_call 32; refine (HPK _).mono ?_; rintro e wA ⟨rfl, ⟨NB, rfl⟩⟩))
              go_roundg (s.size + 2 - (p + 1))
              case measure => have := HG.out; omega
              case rel => exact ⟨p + 1, rfl, by omega, by omega, ((HQ.out.on (p + 1) (cnt_one hlt (by rw [HX.out]; exact hx10))).drewN _), HBD.out.symm.trans HK.out⟩

        · go_wp2_with fail
          go_quiet (first | (go_at_call 31; exact Calls.quiet_of (HD _)) | (go_at_call 34; exact Calls.quiet_of_same (HH _)))
          have HE : Hid (AtQ w B s i line ((wr.drewN nq).setCell ⟨B, 1, none⟩ (.int .i64 ((p : Int) + 3))) (p + 3)) := (HQ.out.drewN nq).on (p + 3) (cnt_end hq (.inr HB.out))
          have HBO : Hid (body (byteAt s) s.size q 3 p = p) := body_hit hlt HB.out
          clear HD HQ
          go_wp2
          have HTL : Hid (tl (byteAt s) s.size q (p + 3) = qend (byteAt s) s.size q i) := by show _ = _; unfold qend; rw [if_pos HP1.out, ← HK.out, HBO.out]
          clear HBO HK c0 c1 c2 cf
          go_loopg [] (s.size + 6 - (p + 3)) (fun g wq => ∃ r : Nat, Hid (g = s.size + 6 - r) ∧ i + 2 ≤ r ∧ r ≤ s.size + 4 ∧ Hid (AtQ w B s i line wq r) ∧ Hid (tl (byteAt s) s.size q r = qend (byteAt s) s.size q i))
          case atStart => exact ⟨p + 3, rfl, by omega, by omega, HE, HTL⟩
          case round =>
            clear HE HTL HG
            obtain ⟨r, HG, hr1, hr2, HQ, HTL⟩ := hrel
            have HD := done_any B r s _ wr HQ.out.1 (by omega)
            obtain ⟨c0, c1, c2, cf⟩ := HQ.out.1.cells
            by_cases hlt2 : r < s.size
            · have hd : decide (s.size ≤ r) = false := decide_eq_false (by omega)
              rw [hd] at HD
              clear hd
              obtain ⟨y, hy⟩ : ∃ y, byteAt s r = y := ⟨_, rfl⟩
              have HPK := fun N => peek_in B r s _ (wr.drewN N) (HQ.out.1.drewN N) (by omega) hlt2
              rw [hy] at HPK
              have HY : Hid _ := hy
              clear hy
              by_cases hyq : y = q
              · have HYQ : Hid _ := hyq
                have hyq' : (y == q) = true := by simp [hyq]
                clear hyq
                go_wp2_with (first | (go_at_call 31; refine HD.mono ?_; rintro e wA ⟨rfl, ⟨NA, rfl⟩⟩) | (go_at_call 32; refine (HPK _).mono ?_; rintro e wA ⟨rfl, ⟨NB, rfl⟩⟩))
                go_roundg (s.size + 6 - (r + 1))
                case measure => have := HG.out; omega
                case rel => exact ⟨r + 1, rfl, by omega, by omega, ((HQ.out.on (r + 1) (cnt_one hlt2 (by rw [HY.out, HYQ.out]; omega))).drewN _), (tl_go hlt2 (HY.out.trans HYQ.out)).symm.trans HTL.out⟩
              · have hyq' : (y == q) = false := by simp [hyq]
                go_wp2_with (first | (go_at_call 31; refine HD.mono ?_; rintro e wA ⟨rfl, ⟨NA, rfl⟩⟩) | (go_at_call 32; refine (HPK _).mono ?_; rintro e wA ⟨rfl, ⟨NB, rfl⟩⟩))
                go_end0
                exact ⟨rfl, r, (tl_stop hlt2 (by rw [HY.out]; exact hyq)).symm.trans HTL.out, HQ.out.1, by omega, by omega, HQ.out.2.drewN _⟩
            · have hd : decide (s.size ≤ r) = true := decide_eq_true (by omega)
              rw [hd] at HD
              clear hd
              go_wp2_with (first | (go_at_call 31; refine HD.mono ?_; rintro e wA ⟨rfl, ⟨NA, rfl⟩⟩))
              go_end0
              exact ⟨rfl, r, (tl_out (by omega)).symm.trans HTL.out, HQ.out.1, by omega, by omega, HQ.out.2.drewN _⟩
      · have hd : decide (s.size ≤ p) = true := decide_eq_true (by omega)
        rw [hd] at HD
        clear hd
        go_wp2_with fail
        go_quiet (first | (go_at_call 31; exact Calls.quiet_of (HD _)) | (go_at_call 34; exact Calls.quiet_of_same (HH _)))
        have HE : Hid (AtQ w B s i line ((wr.drewN nq).setCell ⟨B, 1, none⟩ (.int .i64 ((p : Int) + 3))) (p + 3)) := (HQ.out.drewN nq).on (p + 3) (cnt_end hq (.inl (by omega)))
        have HBO : Hid (body (byteAt s) s.size q 3 p = p) := body_out (by omega)
        clear HD HQ
        go_wp2
        have HTL : Hid (tl (byteAt s) s.size q (p + 3) = qend (byteAt s) s.size q i) := by show _ = _; unfold qend; rw [if_pos HP1.out, ← HK.out, HBO.out]
        clear HBO HK c0 c1 c2 cf
        go_loopg [] (s.size + 6 - (p + 3)) (fun g wq => ∃ r : Nat, Hid (g = s.size + 6 - r) ∧ i + 2 ≤ r ∧ r ≤ s.size + 4 ∧ Hid (AtQ w B s i line wq r) ∧ Hid (tl (byteAt s) s.size q r = qend (byteAt s) s.size q i))
        case atStart => exact ⟨p + 3, rfl, by omega, by omega, HE, HTL⟩
        case round =>
          clear HE HTL HG
          obtain ⟨r, HG, hr1, hr2, HQ, HTL⟩ := hrel
          have HD := done_any B r s _ wr HQ.out.1 (by omega)
          obtain ⟨c0, c1, c2, cf⟩ := HQ.out.1.cells
          by_cases hlt2 : r < s.size
          · have hd : decide (s.size ≤ r) = false := decide_eq_false (by omega)
            rw [hd] at HD
            clear hd
            obtain ⟨y, hy⟩ : ∃ y, byteAt s r = y := ⟨_, rfl⟩
            have HPK := fun N => peek_in B r s _ (wr.drewN N) (HQ.out.1.drewN N) (by omega) hlt2
            rw [hy] at HPK
            have HY : Hid _ := hy
            clear hy
            by_cases hyq : y = q
            · have HYQ : Hid _ := hyq
              have hyq' : (y == q) = true := by simp [hyq]
              clear hyq
              go_wp2_with (first | (go_at_call 31; refine HD.mono ?_; rintro e wA ⟨rfl, ⟨NA, rfl⟩⟩) | (go_at_call 32; refine (HPK _).mono ?_; rintro e wA ⟨rfl, ⟨NB, rfl⟩⟩))
              go_roundg (s.size + 6 - (r + 1))
              case measure => have := HG.out; omega
              case rel => exact ⟨r + 1, rfl, by omega, by omega, ((HQ.out.on (r + 1) (cnt_one hlt2 (by rw [HY.out, HYQ.out]; omega))).drewN _), (tl_go hlt2 (HY.out.trans HYQ.out)).symm.trans HTL.out⟩
            · have hyq' : (y == q) = false := by simp [hyq]
              go_wp2_with (first | (go_at_call 31; refine HD.mono ?_; rintro e wA ⟨rfl, ⟨NA, rfl⟩⟩) | (go_at_call 32; refine (HPK _).mono ?_; rintro e wA ⟨rfl, ⟨NB, rfl⟩⟩))
              go_end0
              exact ⟨rfl, r, (tl_stop hlt2 (by rw [HY.out]; exact hyq)).symm.trans HTL.out, HQ.out.1, by omega, by omega, HQ.out.2.drewN _⟩
          · have hd : decide (s.size ≤ r) = true := decide_eq_true (by omega)
            rw [hd] at HD
            clear hd
            go_wp2_with (first | (go_at_call 31; refine HD.mono ?_; rintro e wA ⟨rfl, ⟨NA, rfl⟩⟩))
            go_end0
            exact ⟨rfl, r, (tl_out (by omega)).symm.trans HTL.out, HQ.out.1, by omega, by omega, HQ.out.2.drewN _⟩
end Go.Proofs.Qxb6000816a
