/- 'zzSkipModel', 'ZZSkipSpace', FnSkipSpaceStopsAtFirstTokenOutsideComments: their walks. -/
import Derived.Test.Qxb6000816aSkip
namespace Go.Proofs.Qxb6000816a
open Go.RowKit
set_option linter.unusedVariables false
set_option linter.unusedSimpArgs false

set_option maxHeartbeats 2000000 in
theorem model_any (s : ByteArray) (i0 : Nat) (w : World) (hs : s.size ≤ 1048576) (hi : i0 ≤ s.size) :
    Calls Try.prog 12 #[.string s, .int .i64 i0] w fun e w' => e = .returned (.int .i64 (skip (byteAt s) s.size i0 false)) ∧ w = w' := by
  go_enter Try.func12, Try.ntmps12
  go_wp2
  go_loop [5, 6, 7] (fun hv nv jv => ∃ (p : Nat) (hh nl : Int), jv = .int .i64 p ∧ hv = .int .i64 hh ∧ nv = .int .i64 nl ∧ i0 ≤ p ∧ p ≤ s.size ∧ hh < p ∧ nl < p ∧ -1 ≤ hh ∧ -1 ≤ nl ∧ Hid (skip (byteAt s) s.size p (decide (nl < hh)) = skip (byteAt s) s.size i0 false))
    (fun _ _ jv => s.size - (intOf jv).toNat)
  case atStart => exact ⟨i0, -1, -1, rfl, rfl, rfl, Nat.le_refl _, hi, by omega, by omega, by omega, by omega, rfl⟩
  case round =>
    obtain ⟨p, hh, nl, rfl, rfl, rfl, hp1, hp2, hh1, hn1, hh2, hn2, HK⟩ := hrel
    by_cases hlt : p < s.size
    · have hbe := byteAt_eq s p hlt
      obtain ⟨x, hx⟩ : ∃ x, byteAt s p = x := ⟨_, rfl⟩
      rw [hx] at hbe
      have HX : Hid _ := hx
      clear hx
      by_cases hcom : nl < hh
      · have HK1 : Hid (skip (byteAt s) s.size p true = skip (byteAt s) s.size i0 false) := by have := HK.out; rw [decide_eq_true hcom] at this; exact this
        have hcom' : ¬ hh ≤ nl := by omega
        by_cases h35 : x = 35
        · subst h35
          go_wp2
          go_round
          case rel => exact ⟨p + 1, p, nl, by go_num, rfl, rfl, by omega, by omega, by omega, by omega, by omega, by omega, by rw [decide_eq_true (show nl < (p : Int) by omega)]; exact (skip_com hlt (by rw [HX.out]; decide)).symm.trans HK1.out⟩
          case measure => simp [intOf]; omega
        · by_cases h10 : x = 10
          · subst h10
            go_wp2
            go_round
            case rel => exact ⟨p + 1, hh, p, by go_num, rfl, rfl, by omega, by omega, by omega, by omega, by omega, by omega, by rw [decide_eq_false (show ¬ (p : Int) < hh by omega)]; exact (skip_com_nl hlt HX.out).symm.trans HK1.out⟩
            case measure => simp [intOf]; omega
          · have g1 : (x == 35) = false := by simp [h35]
            have g2 : (x == 10) = false := by simp [h10]
            go_wp2
            go_round
            case rel => exact ⟨p + 1, hh, nl, by go_num, rfl, rfl, by omega, by omega, by omega, by omega, by omega, by omega, by rw [decide_eq_true hcom]; exact (skip_com hlt (by rw [HX.out]; exact h10)).symm.trans HK1.out⟩
            case measure => simp [intOf]; omega
      · have HK1 : Hid (skip (byteAt s) s.size p false = skip (byteAt s) s.size i0 false) := by have := HK.out; rw [decide_eq_false hcom] at this; exact this
        have hcom' : hh ≤ nl := by omega
        rcases byte_cases x with rfl | rfl | rfl | rfl | rfl | ⟨h1, h2, h3, h4, h5⟩
        · go_wp2
          go_round
          case rel => exact ⟨p + 1, hh, p, by go_num, rfl, rfl, by omega, by omega, by omega, by omega, by omega, by omega, by rw [decide_eq_false (show ¬ (p : Int) < hh by omega)]; exact (skip_blank hlt (by rw [HX.out]; decide)).symm.trans HK1.out⟩
          case measure => simp [intOf]; omega
        · go_wp2
          go_round
          case rel => exact ⟨p + 1, hh, nl, by go_num, rfl, rfl, by omega, by omega, by omega, by omega, by omega, by omega, by rw [decide_eq_false (show ¬ nl < hh by omega)]; exact (skip_blank hlt (by rw [HX.out]; decide)).symm.trans HK1.out⟩
          case measure => simp [intOf]; omega
        · go_wp2
          go_round
          case rel => exact ⟨p + 1, hh, nl, by go_num, rfl, rfl, by omega, by omega, by omega, by omega, by omega, by omega, by rw [decide_eq_false (show ¬ nl < hh by omega)]; exact (skip_blank hlt (by rw [HX.out]; decide)).symm.trans HK1.out⟩
          case measure => simp [intOf]; omega
        · go_wp2
          go_round
          case rel => exact ⟨p + 1, hh, nl, by go_num, rfl, rfl, by omega, by omega, by omega, by omega, by omega, by omega, by rw [decide_eq_false (show ¬ nl < hh by omega)]; exact (skip_blank hlt (by rw [HX.out]; decide)).symm.trans HK1.out⟩
          case measure => simp [intOf]; omega
        · go_wp2
          go_round
          case rel => exact ⟨p + 1, p, nl, by go_num, rfl, rfl, by omega, by omega, by omega, by omega, by omega, by omega, by rw [decide_eq_true (show nl < (p : Int) by omega)]; exact (skip_hash hlt HX.out).symm.trans HK1.out⟩
          case measure => simp [intOf]; omega
        · have g1 : (x == 10) = false := by simp [h1]
          have g2 : (x == 32) = false := by simp [h2]
          have g3 : (x == 9) = false := by simp [h3]
          have g4 : (x == 13) = false := by simp [h4]
          have g5 : (x == 35) = false := by simp [h5]
          go_wp2
          go_ret
          exact ⟨ret_int (by rw [← HK1.out, skip_stop hlt (by rw [HX.out]; exact h5) (by rw [HX.out]; omega)]), rfl⟩
    · go_wp2
      go_ret
      exact ⟨ret_int (by rw [← HK.out, skip_end _ _ _ _ (by omega)]; omega), rfl⟩

set_option maxHeartbeats 2000000 in
theorem zzskip_any (s : ByteArray) (i0 : Nat) (line : Int) (w : World) (hs : s.size ≤ 1048576) (hi : i0 ≤ s.size) (hl1 : -1073741824 ≤ line) (hl2 : line ≤ 1073741824) :
    Calls Try.prog 11 #[.string s, .int .i64 i0, .int .i64 line] w fun e w' => ∃ j, j = skip (byteAt s) s.size i0 false ∧ e = .returned (.tuple #[.int .i64 j, .int .i64 (line + cnt (byteAt s) i0 j)]) ∧ i0 ≤ j ∧ j ≤ s.size ∧ Below w.heap.size w w' := by
  have hsc : Sc (w.alloc (.cells #[.string s, .int .i64 i0, .int .i64 line, .slice none 0 0] 37)) w.heap.size s i0 line := ⟨_, heap_alloc_new w _⟩
  have HP := skip_any w.heap.size i0 s line _ hsc hs hi hl1 hl2
  clear hsc
  go_enter Try.func11, Try.ntmps11
  go_wp2_with (go_at_call 27; refine HP.mono ?_; rintro e w1 ⟨rfl, hpost⟩)
  obtain ⟨j, hj, hsc, hij, hjs, hfr⟩ := hpost
  have HJ : Hid _ := hj
  have HF : Hid _ := hfr.below
  obtain ⟨c0, c1, c2, cf⟩ := hsc.cells
  clear HP hj hsc hfr
  go_quiet (fail)
  go_wp2
  go_ret2
  exact ⟨j, HJ.out, rfl, hij, hjs, HF.out.os, HF.out.tape, HF.out.output, HF.out.size, HF.out.block⟩

set_option maxHeartbeats 2000000 in
theorem skip_main (s : ByteArray) (i0 : Nat) (line : Int) (w : World) (hs : s.size ≤ 1048576) (hi : i0 ≤ s.size) (hl1 : -1073741824 ≤ line) (hl2 : line ≤ 1073741824) :
    Calls Try.prog 3 #[.string s, .int .i64 i0, .int .i64 line] w fun e w' => e = .returned (.bool true) ∧ Below w.heap.size w w' := by
  have HZ := zzskip_any s i0 line w hs hi hl1 hl2
  have HMo := fun wx => model_any s i0 wx hs hi
  go_enter Try.func3, Try.ntmps3
  go_wp2_with (first | (go_at_call 11; refine HZ.mono ?_) | go_in)
  rintro e w1 ⟨j, hj, rfl, hij, hjs, hb⟩
  have HB : Hid _ := hb
  have hcl := cnt_le (byteAt s) i0 j
  rw [← hj] at HMo
  have HC := fun wx => count_any s i0 j wx hs hjs
  clear hj hb HZ
  go_wp2_with (first | (go_at_call 12; refine (HMo _).mono ?_; rintro e w2 ⟨rfl, rfl⟩) | (go_at_call 13; refine (HC _).mono ?_; rintro e w3 ⟨rfl, rfl⟩))
  go_ret
  exact ⟨ret_b (by simp), HB.out⟩
end Go.Proofs.Qxb6000816a
