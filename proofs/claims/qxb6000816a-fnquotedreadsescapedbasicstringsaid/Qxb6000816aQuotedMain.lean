/- 'ZZQuoted', FnQuotedAdvancesAndCountsLines: their walks. -/
import Derived.Test.Qxb6000816aQuoted
namespace Go.Proofs.Qxb6000816a
open Go.RowKit
set_option linter.unusedVariables false
set_option linter.unusedSimpArgs false

set_option maxHeartbeats 2000000 in
theorem zzquoted_any (s : ByteArray) (i : Nat) (line q : Int) (w : World) (hs : s.size ≤ 1048576) (hi : i < s.size) (hq : q = 34 ∨ q = 39) (hqi : byteAt s i = q) (hl1 : -1073741824 ≤ line) (hl2 : line ≤ 1073741824) :
    Calls Try.prog 22 #[.string s, .int .i64 i, .int .i64 line] w fun e w' => ∃ j, j = qend (byteAt s) s.size q i ∧ e = .returned (.tuple #[.int .i64 j, .int .i64 (line + cnt (byteAt s) i (min j s.size))]) ∧ i + 2 ≤ j ∧ j ≤ s.size + 6 ∧ Below w.heap.size w w' := by
  have hsc : Sc (w.alloc (.cells #[.string s, .int .i64 i, .int .i64 line, .slice none 0 0] 37)) w.heap.size s i line := ⟨_, heap_alloc_new w _⟩
  have HP := quoted_any w.heap.size i s line q _ hsc hs hi hq hqi hl1 hl2
  clear hsc hq hqi
  go_enter Try.func22, Try.ntmps22
  go_wp2_with (go_at_call 30; refine HP.mono ?_; rintro e w1 ⟨rfl, hpost⟩)
  obtain ⟨j, hj, hsc, hij, hjs, hfr⟩ := hpost
  have HJ : Hid _ := hj
  have HF : Hid _ := hfr.below
  obtain ⟨c0, c1, c2, cf⟩ := hsc.cells
  clear HP hj hsc hfr
  go_quiet (fail)
  go_wp2
  go_ret2
  exact ⟨j, HJ.out, rfl, hij, hjs, HF.out.os, HF.out.tape, HF.out.output, HF.out.size, HF.out.block⟩

set_option maxHeartbeats 2000000 in
theorem advances_main (s : ByteArray) (i : Nat) (line : Int) (w : World) (hs : s.size ≤ 1048576) (hi : i < s.size) (hl1 : -1073741824 ≤ line) (hl2 : line ≤ 1073741824) :
    Calls Try.prog 9 #[.string s, .int .i64 i, .int .i64 line] w fun e w' => e = .returned (.bool true) ∧ Below w.heap.size w w' := by
  have hbe := byteAt_eq s i hi
  obtain ⟨q, hqi⟩ : ∃ q, byteAt s i = q := ⟨_, rfl⟩
  rw [hqi] at hbe
  have hi' : (i : Int) < (s.size : Int) := by omega
  by_cases hq : q = 34 ∨ q = 39
  · have HZ := zzquoted_any s i line q w hs hi hq hqi hl1 hl2
    have hq1 : (q != 34 && q != 39) = false := by rcases hq with rfl | rfl <;> rfl
    rcases hq with rfl | rfl
    all_goals
      clear hq1 hqi
      go_enter Try.func9, Try.ntmps9
      go_wp2_with (first | (go_at_call 22; refine HZ.mono ?_) | go_in)
      rintro e w1 ⟨j, hj, rfl, hij, hjs, hb⟩
      have HB : Hid _ := hb
      have hcl := cnt_le (byteAt s) i (min j s.size)
      have HC := fun wx => count_any s i (min j s.size) wx hs (Nat.min_le_right _ _)
      clear hj hb HZ
      by_cases hjn : j ≤ s.size
      · rw [Nat.min_eq_left hjn] at HC hcl ⊢
        go_wp2_with (go_at_call 13; refine (HC _).mono ?_; rintro e w3 ⟨rfl, rfl⟩)
        go_ret
        exact ⟨ret_b (by simp), HB.out⟩
      · rw [Nat.min_eq_right (by omega)] at HC hcl ⊢
        go_wp2_with (go_at_call 13; refine (HC _).mono ?_; rintro e w3 ⟨rfl, rfl⟩)
        go_ret
        exact ⟨ret_b (by simp), HB.out⟩
  · have h1 : (q == 34) = false := by simp; omega
    have h2 : (q == 39) = false := by simp; omega
    have h3 : (q != 34) = true := by simp; omega
    have h4 : (q != 39) = true := by simp; omega
    clear hqi hq
    go_enter Try.func9, Try.ntmps9
    go_wp2
    go_ret
    exact ⟨rfl, Below.refl _ _⟩
end Go.Proofs.Qxb6000816a
