/- 'splitFigure': its walk. -/
import Derived.Test.Qxb6601746aKit
import Derived.Deep.QuietTactic
import Derived.BigQuiet
namespace Go.Proofs.Qxb6601746a
open Go.RowKit
set_option linter.unusedVariables false
set_option linter.unusedSimpArgs false

theorem results_tmp4 {fn : Func} {t u v x : Tmp} (h : fn.results = #[.tmp t, .tmp u, .tmp v, .tmp x]) (tmps : Array Value) (P : Program) (w : World) :
    (results fn tmps).run P w = .ok (.tuple #[tmps.getD t undef, tmps.getD u undef, tmps.getD v undef, tmps.getD x undef]) w := by
  simp [results, h]

/-- The two parts. -/
structure Parts (s W F : ByteArray) : Prop where
  ws : W.size = P (byteAt s) s.size - st (byteAt s) s.size
  wb : ∀ k, k < W.size → byteAt W k = byteAt s (st (byteAt s) s.size + k)
  fs : F.size = s.size - (P (byteAt s) s.size + 1)
  fb : ∀ k, k < F.size → byteAt F k = byteAt s (P (byteAt s) s.size + 1 + k)
def SplitR (e : Ending) (s : ByteArray) : Prop := ∃ W F, e = .returned (.tuple #[.bool (decide (st (byteAt s) s.size = 1)), .string W, .string F, .bool (decide (P (byteAt s) s.size < s.size))]) ∧ Parts s W F

/-- The text behind the sign. -/
structure Bd (s bd : ByteArray) : Prop where
  sz : bd.size = s.size - st (byteAt s) s.size
  b : ∀ k, k < bd.size → byteAt bd k = byteAt s (st (byteAt s) s.size + k)
theorem ret4 {a b : Bool} {c d : ByteArray} {e f : Bool} (h1 : a = b) (h2 : e = f) : Ending.returned (.tuple #[.bool a, .string c, .string d, .bool e]) = .returned (.tuple #[.bool b, .string c, .string d, .bool f]) := by rw [h1, h2]

theorem split_hit {s bd : ByteArray} {neg : Bool} {p : Nat} (hb : Bd s bd) (hn : neg = decide (st (byteAt s) s.size = 1)) (hp : p < bd.size) (hk : pt (byteAt s) s.size (st (byteAt s) s.size + p) = P (byteAt s) s.size) (hx : byteAt bd p = 46) :
    SplitR (.returned (.tuple #[.bool neg, .string (bd.extract 0 p), .string (bd.extract (p + 1) bd.size), .bool true])) s := by
  have hsz := hb.sz
  have hP : P (byteAt s) s.size = st (byteAt s) s.size + p := by rw [← hk, pt_hit (by omega) ((hb.b p hp).symm.trans hx)]
  refine ⟨_, _, ret4 hn (decide_eq_true (by omega)).symm, ⟨?_, ?_, ?_, ?_⟩⟩
  · rw [ext_size _ _ _ (by omega)]; omega
  · intro k hk
    rw [ext_size _ _ _ (by omega)] at hk
    rw [byteAt_ext _ _ _ _ (by omega) (by omega), Nat.zero_add]; exact hb.b k (by omega)
  · rw [ext_size _ _ _ (by omega)]; omega
  · intro k hk
    rw [ext_size _ _ _ (by omega)] at hk
    rw [byteAt_ext _ _ _ _ (by omega) (by omega), hb.b _ (by omega), hP]
    congr 1; omega
theorem split_go {s bd : ByteArray} {p : Nat} (hb : Bd s bd) (hp : p < bd.size) (hk : pt (byteAt s) s.size (st (byteAt s) s.size + p) = P (byteAt s) s.size) (hx : byteAt bd p ≠ 46) : pt (byteAt s) s.size (st (byteAt s) s.size + (p + 1)) = P (byteAt s) s.size := by
  have hsz := hb.sz
  rw [← hk, pt_go (p := st (byteAt s) s.size + p) (by omega) (by rw [← hb.b p hp]; exact hx)]; rfl
theorem split_end {s bd : ByteArray} {neg : Bool} (hb : Bd s bd) (hn : neg = decide (st (byteAt s) s.size = 1)) {p : Nat} (hp : p = bd.size) (hk : pt (byteAt s) s.size (st (byteAt s) s.size + p) = P (byteAt s) s.size) :
    SplitR (.returned (.tuple #[.bool neg, .string bd, .string ⟨#[]⟩, .bool false])) s := by
  subst hp
  have hsz := hb.sz
  have hle := st_le (byteAt s) s.size
  have hP : P (byteAt s) s.size = s.size := by rw [← hk, pt_out (by omega)]; omega
  refine ⟨_, _, ret4 hn (decide_eq_false (by omega)).symm, ⟨?_, hb.b, ?_, ?_⟩⟩
  · omega
  · rw [hP]; show 0 = _; omega
  · intro k hk; exact absurd hk (Nat.not_lt_zero k)

set_option maxHeartbeats 2000000 in
theorem split_neg (s : ByteArray) (w : World) (hs : s.size ≤ 1048576) (h0 : 0 < s.size) (h45 : byteAt s 0 = 45) :
    Calls Try.prog 10 #[.string s] w fun e w' => SplitR e s ∧ ∃ N, w' = w.drewN N := by
  have hbe := byteAt_eq s 0 h0
  rw [h45] at hbe
  have hst : st (byteAt s) s.size = 1 := by unfold st; rw [if_pos ⟨h0, h45⟩]
  have HBD : Hid (Bd s (s.extract 1 s.size)) := ⟨by rw [ext_size _ _ _ (Nat.le_refl _), hst], fun k hk => by
    rw [ext_size _ _ _ (Nat.le_refl _)] at hk
    rw [byteAt_ext _ _ _ _ (by omega) (Nat.le_refl _), hst]⟩
  have HNEG : Hid (true = decide (st (byteAt s) s.size = 1)) := (decide_eq_true hst).symm
  obtain ⟨bd, hbd⟩ : ∃ bd, s.extract 1 s.size = bd := ⟨_, rfl⟩
  have hbs : bd.size ≤ 1048576 := by rw [← hbd, ext_size _ _ _ (Nat.le_refl _)]; omega
  rw [hbd] at HBD
  clear hst h45
  go_enter Try.func10, Try.ntmps10
  go_wp2
  clear hbd hbe
  go_loop [8] (fun k => ∃ p : Nat, p ≤ bd.size ∧ k = .int .i64 p ∧ Hid (pt (byteAt s) s.size (st (byteAt s) s.size + p) = P (byteAt s) s.size)) (fun k => bd.size - (intOf k).toNat)
  case atStart => exact ⟨0, Nat.zero_le _, rfl, rfl⟩
  case round =>
    obtain ⟨p, hp, rfl, HP⟩ := hrel
    by_cases hlt : p < bd.size
    · have hbe := byteAt_eq bd p hlt
      obtain ⟨x, hx⟩ : ∃ x, byteAt bd p = x := ⟨_, rfl⟩
      rw [hx] at hbe
      have HX : Hid _ := hx
      clear hx
      have hlt' : (p : Int) < (bd.size : Int) := by omega
      by_cases h46 : x = 46
      · subst h46
        go_wp2
        go_quiet (fail)
        go_wp2
        (try simp only [Exit.inBlock, Exit.then])
        refine bodyPost_ret (results_tmp4 rfl _ _ _) rfl ?_
        exact ⟨split_hit HBD.out HNEG.out hlt HP.out HX.out, _, rfl⟩
      · have g : (x == 46) = false := by simp [h46]
        go_wp2
        go_round
        case rel => exact ⟨p + 1, by omega, by go_num, split_go HBD.out hlt HP.out (by rw [HX.out]; exact h46)⟩
        case measure => simp [intOf]; omega
    · have hpe : p = bd.size := by omega
      have HPE : Hid _ := hpe
      have hge : (bd.size : Int) ≤ (p : Int) := by omega
      clear hpe
      go_wp2
      (try simp only [Exit.inBlock, Exit.then])
      refine bodyPost_ret (results_tmp4 rfl _ _ _) rfl ?_
      exact ⟨split_end HBD.out HNEG.out HPE.out HP.out, 0, rfl⟩

set_option maxHeartbeats 2000000 in
theorem split_pos (s : ByteArray) (w : World) (hs : s.size ≤ 1048576) (h0 : ¬ (0 < s.size ∧ byteAt s 0 = 45)) :
    Calls Try.prog 10 #[.string s] w fun e w' => SplitR e s ∧ ∃ N, w' = w.drewN N := by
  have hst : st (byteAt s) s.size = 0 := by unfold st; rw [if_neg h0]
  have HBD : Hid (Bd s s) := ⟨by rw [hst]; rfl, fun k hk => by rw [hst, Nat.zero_add]⟩
  have HNEG : Hid (false = decide (st (byteAt s) s.size = 1)) := (decide_eq_false (by omega)).symm
  clear hst
  by_cases h1 : 0 < s.size
  · have hbe := byteAt_eq s 0 h1
    obtain ⟨y, hy⟩ : ∃ y, byteAt s 0 = y := ⟨_, rfl⟩
    rw [hy] at hbe
    have h45 : (y == 45) = false := beq_false_of_ne (fun e => h0 ⟨h1, by rw [hy, e]⟩)
    clear h0 hy
    go_enter Try.func10, Try.ntmps10
    go_wp2
    clear hbe h45
    go_loop [8] (fun k => ∃ p : Nat, p ≤ s.size ∧ k = .int .i64 p ∧ Hid (pt (byteAt s) s.size (st (byteAt s) s.size + p) = P (byteAt s) s.size)) (fun k => s.size - (intOf k).toNat)
    case atStart => exact ⟨0, Nat.zero_le _, rfl, rfl⟩
    case round =>
      obtain ⟨p, hp, rfl, HP⟩ := hrel
      by_cases hlt : p < s.size
      · have hbe := byteAt_eq s p hlt
        obtain ⟨x, hx⟩ : ∃ x, byteAt s p = x := ⟨_, rfl⟩
        rw [hx] at hbe
        have HX : Hid _ := hx
        clear hx
        have hlt' : (p : Int) < (s.size : Int) := by omega
        by_cases h46 : x = 46
        · subst h46
          go_wp2
          go_quiet (fail)
          go_wp2
          (try simp only [Exit.inBlock, Exit.then])
          refine bodyPost_ret (results_tmp4 rfl _ _ _) rfl ?_
          exact ⟨split_hit HBD.out HNEG.out hlt HP.out HX.out, _, rfl⟩
        · have g : (x == 46) = false := by simp [h46]
          go_wp2
          go_round
          case rel => exact ⟨p + 1, by omega, by go_num, split_go HBD.out hlt HP.out (by rw [HX.out]; exact h46)⟩
          case measure => simp [intOf]; omega
      · have hpe : p = s.size := by omega
        have HPE : Hid _ := hpe
        have hge : (s.size : Int) ≤ (p : Int) := by omega
        clear hpe
        go_wp2
        (try simp only [Exit.inBlock, Exit.then])
        refine bodyPost_ret (results_tmp4 rfl _ _ _) rfl ?_
        exact ⟨split_end HBD.out HNEG.out HPE.out HP.out, 0, rfl⟩
  · have h1' : (s.size : Int) ≤ 0 := by omega
    clear h0
    go_enter Try.func10, Try.ntmps10
    go_wp2
    go_loop [8] (fun k => ∃ p : Nat, p ≤ s.size ∧ k = .int .i64 p ∧ Hid (pt (byteAt s) s.size (st (byteAt s) s.size + p) = P (byteAt s) s.size)) (fun k => s.size - (intOf k).toNat)
    case atStart => exact ⟨0, Nat.zero_le _, rfl, rfl⟩
    case round =>
      obtain ⟨p, hp, rfl, HP⟩ := hrel
      by_cases hlt : p < s.size
      · have hbe := byteAt_eq s p hlt
        obtain ⟨x, hx⟩ : ∃ x, byteAt s p = x := ⟨_, rfl⟩
        rw [hx] at hbe
        have HX : Hid _ := hx
        clear hx
        have hlt' : (p : Int) < (s.size : Int) := by omega
        by_cases h46 : x = 46
        · subst h46
          go_wp2
          go_quiet (fail)
          go_wp2
          (try simp only [Exit.inBlock, Exit.then])
          refine bodyPost_ret (results_tmp4 rfl _ _ _) rfl ?_
          exact ⟨split_hit HBD.out HNEG.out hlt HP.out HX.out, _, rfl⟩
        · have g : (x == 46) = false := by simp [h46]
          go_wp2
          go_round
          case rel => exact ⟨p + 1, by omega, by go_num, split_go HBD.out hlt HP.out (by rw [HX.out]; exact h46)⟩
          case measure => simp [intOf]; omega
      · have hpe : p = s.size := by omega
        have HPE : Hid _ := hpe
        have hge : (s.size : Int) ≤ (p : Int) := by omega
        clear hpe
        go_wp2
        (try simp only [Exit.inBlock, Exit.then])
        refine bodyPost_ret (results_tmp4 rfl _ _ _) rfl ?_
        exact ⟨split_end HBD.out HNEG.out HPE.out HP.out, 0, rfl⟩

theorem split_any (s : ByteArray) (w : World) (hs : s.size ≤ 1048576) : Calls Try.prog 10 #[.string s] w fun e w' => SplitR e s ∧ ∃ N, w' = w.drewN N := by
  by_cases h : 0 < s.size ∧ byteAt s 0 = 45
  · exact split_neg s w hs h.1 h.2
  · exact split_pos s w hs h
end Go.Proofs.Qxb6601746a
