/- FnQuotedReadsLiteralString: its callees, its walk. -/
import Derived.Test.Qxb6000816aQuotedMain
import Derived.Test.Qxb6000816aLitLaw
namespace Go.Proofs.Qxb6000816a
open Go.RowKit
set_option linter.unusedVariables false
set_option linter.unusedSimpArgs false

/-- It returns a bool of which R holds. -/
def RetB (e : Ending) (R : Bool → Prop) : Prop := ∃ b, e = .returned (.bool b) ∧ R b
def NoB (s : ByteArray) (b : Bool) : Prop := b = false → ∀ t, t < s.size → byteAt s t ≠ 39
def NoR (s : ByteArray) (b : Bool) : Prop := b = false → ∀ t, t + 2 < s.size → ¬ (byteAt s t = 39 ∧ byteAt s (t + 1) = 39 ∧ byteAt s (t + 2) = 39)

set_option maxHeartbeats 2000000 in
theorem hasByte_any (s : ByteArray) (w : World) (hs : s.size ≤ 1048576) :
    Calls Try.prog 25 #[.string s, .int .u8 39] w fun e w' => RetB e (NoB s) ∧ w = w' := by
  go_enter Try.func25, Try.ntmps25
  go_wp2
  go_loop [5] (fun k => ∃ p : Nat, p ≤ s.size ∧ k = .int .i64 p ∧ Hid (∀ t, t < p → byteAt s t ≠ 39)) (fun k => s.size - (intOf k).toNat)
  case atStart => exact ⟨0, Nat.zero_le _, rfl, fun t ht => by omega⟩
  case round =>
    obtain ⟨p, hp, rfl, HP⟩ := hrel
    by_cases hlt : p < s.size
    · have hbe := byteAt_eq s p hlt
      obtain ⟨x, hx⟩ : ∃ x, byteAt s p = x := ⟨_, rfl⟩
      rw [hx] at hbe
      have HX : Hid _ := hx
      clear hx
      by_cases h39 : x = 39
      · subst h39
        go_wp2
        go_ret
        exact ⟨⟨true, rfl, fun h => Bool.noConfusion h⟩, rfl⟩
      · have g : (x == 39) = false := by simp [h39]
        go_wp2
        go_round
        case rel => exact ⟨p + 1, by omega, by go_num, fun t ht => by
          by_cases e : t = p
          · rw [e, HX.out]; exact h39
          · exact HP.out t (by omega)⟩
        case measure => simp [intOf]; omega
    · go_wp2
      go_ret
      exact ⟨⟨false, rfl, fun _ t ht => HP.out t (by omega)⟩, rfl⟩

set_option maxHeartbeats 2000000 in
theorem hasRun_any (s : ByteArray) (w : World) (hs : s.size ≤ 1048576) :
    Calls Try.prog 24 #[.string s, .int .u8 39] w fun e w' => RetB e (NoR s) ∧ w = w' := by
  go_enter Try.func24, Try.ntmps24
  go_wp2
  go_loop [5] (fun k => ∃ p : Nat, p ≤ s.size ∧ k = .int .i64 p ∧ Hid (∀ t, t < p → ¬ (byteAt s t = 39 ∧ byteAt s (t + 1) = 39 ∧ byteAt s (t + 2) = 39))) (fun k => s.size - (intOf k).toNat)
  case atStart => exact ⟨0, Nat.zero_le _, rfl, fun t ht => by omega⟩
  case round =>
    obtain ⟨p, hp, rfl, HP⟩ := hrel
    by_cases hlt : p + 2 < s.size
    · have hlt' : (p : Int) + 2 < (s.size : Int) := by omega
      have hlt1 : (p : Int) + 1 < (s.size : Int) := by omega
      have hlt0 : (p : Int) < (s.size : Int) := by omega
      have hbe := byteAt_eq s p (by omega)
      have hbe1 := byteAt_eq s (p + 1) (by omega)
      have hbe2 := byteAt_eq s (p + 2) (by omega)
      obtain ⟨x, hx⟩ : ∃ x, byteAt s p = x := ⟨_, rfl⟩
      obtain ⟨y, hy⟩ : ∃ y, byteAt s (p + 1) = y := ⟨_, rfl⟩
      obtain ⟨z, hz⟩ : ∃ z, byteAt s (p + 2) = z := ⟨_, rfl⟩
      rw [hx] at hbe
      rw [hy] at hbe1
      rw [hz] at hbe2
      have HX : Hid _ := hx
      have HY : Hid _ := hy
      have HZ : Hid _ := hz
      clear hx hy hz
      by_cases h39 : x = 39
      · subst h39
        by_cases h39 : y = 39
        · subst h39
          by_cases h39 : z = 39
          · subst h39
            go_wp2
            go_ret
            exact ⟨⟨true, rfl, fun h => Bool.noConfusion h⟩, rfl⟩
          · have g : (z == 39) = false := by simp [h39]
            go_wp2
            go_round
            case rel => exact ⟨p + 1, by omega, by go_num, fun t ht => by
              by_cases e : t = p
              · rw [e]; rintro ⟨_, _, h⟩; exact h39 (HZ.out.symm.trans h)
              · exact HP.out t (by omega)⟩
            case measure => simp [intOf]; omega
        · have g : (y == 39) = false := by simp [h39]
          go_wp2
          go_round
          case rel => exact ⟨p + 1, by omega, by go_num, fun t ht => by
            by_cases e : t = p
            · rw [e]; rintro ⟨_, h, _⟩; exact h39 (HY.out.symm.trans h)
            · exact HP.out t (by omega)⟩
          case measure => simp [intOf]; omega
      · have g : (x == 39) = false := by simp [h39]
        go_wp2
        go_round
        case rel => exact ⟨p + 1, by omega, by go_num, fun t ht => by
          by_cases e : t = p
          · rw [e]; rintro ⟨h, _, _⟩; exact h39 (HX.out.symm.trans h)
          · exact HP.out t (by omega)⟩
        case measure => simp [intOf]; omega
    · have hlt' : ¬ (p : Int) + 2 < (s.size : Int) := by omega
      go_wp2
      go_ret
      exact ⟨⟨false, rfl, fun _ t ht => HP.out t (by omega)⟩, rfl⟩
theorem byteAt_app (x y : ByteArray) (k : Nat) : byteAt (x ++ y) k = if k < x.size then byteAt x k else byteAt y (k - x.size) := by
  unfold byteAt
  rw [ByteArray.data_append, Array.toList_append, List.getD_eq_getElem?_getD, List.getD_eq_getElem?_getD, List.getD_eq_getElem?_getD, List.getElem?_append]
  have : x.data.toList.length = x.size := by simp
  rw [this]
  split <;> rfl
theorem byteAt_l {x y : ByteArray} {k : Nat} (h : k < x.size) : byteAt (x ++ y) k = byteAt x k := by rw [byteAt_app, if_pos h]
theorem byteAt_r {x y : ByteArray} {k j : Nat} (h : k = x.size + j) : byteAt (x ++ y) k = byteAt y j := by rw [byteAt_app, if_neg (by omega), show k - x.size = j by omega]

theorem litAt (q a b : ByteArray) (d : Nat) (hd : q.size = d) (hq : ∀ t, t < d → byteAt q t = 39) : LitAt (byteAt (q ++ a ++ q ++ b)) (byteAt a) (byteAt b) (q ++ a ++ q ++ b).size a.size b.size d := by
  have h1 : (q ++ a).size = d + a.size := by rw [ByteArray.size_append, hd]
  have h2 : (q ++ a ++ q).size = 2 * d + a.size := by rw [ByteArray.size_append, h1, hd]; omega
  refine ⟨by rw [ByteArray.size_append, h2], fun t ht => ?_, fun t ht => ?_, fun t ht => ?_, fun t ht => ?_⟩
  · rw [byteAt_l (by omega), byteAt_l (by omega), byteAt_l (by omega)]; exact hq t ht
  · rw [byteAt_l (by omega), byteAt_l (by omega), byteAt_r (j := t) (by omega)]
  · rw [byteAt_l (by omega), byteAt_r (j := t) (by omega)]; exact hq t ht
  · rw [byteAt_r (j := t) (by omega)]

/-- ZZQuoted on a literal string. -/
theorem zzlit (q a b : ByteArray) (d : Nat) (line : Int) (w : World) (ha : a.size ≤ 262144) (hb : b.size ≤ 262144) (hl1 : -1073741824 ≤ line) (hl2 : line ≤ 1073741824) (hd : q.size = d) (hd0 : 1 ≤ d) (hd3 : d ≤ 3) (hq : ∀ t, t < d → byteAt q t = 39)
    (he : qend (byteAt (q ++ a ++ q ++ b)) (q ++ a ++ q ++ b).size 39 0 = 2 * d + a.size) :
    Calls Try.prog 22 #[.string (q ++ a ++ q ++ b), .int .i64 0, .int .i64 line] w fun e w' => e = .returned (.tuple #[.int .i64 ((2 * d + a.size : Nat) : Int), .int .i64 (line + cnt (byteAt a) 0 a.size)]) ∧ Below w.heap.size w w' := by
  have hL := litAt q a b d hd hq
  have hn := hL.n
  have h := zzquoted_any (q ++ a ++ q ++ b) 0 line 39 w (by omega) (by omega) (.inr rfl) (hL.op 0 (by omega)) hl1 hl2
  refine h.mono ?_
  rintro e w' ⟨j, hj, rfl, _, _, hb⟩
  rw [he] at hj
  subst hj
  rw [hL.lines]
  exact ⟨rfl, hb⟩

theorem zzlit_one (a b : ByteArray) (line : Int) (w : World) (ha : a.size ≤ 262144) (hb : b.size ≤ 262144) (hl1 : -1073741824 ≤ line) (hl2 : line ≤ 1073741824) (hB : ∀ t, t < a.size → byteAt a t ≠ 39) (hr : a.size = 0 → 0 < b.size → byteAt b 0 ≠ 39) :
    Calls Try.prog 22 #[.string ({ data := #[39] } ++ a ++ { data := #[39] } ++ b), .int .i64 0, .int .i64 line] w fun e w' => e = .returned (.tuple #[.int .i64 ((a.size : Int) + 2), .int .i64 (line + cnt (byteAt a) 0 a.size)]) ∧ Below w.heap.size w w' := by
  have hq : ∀ t, t < 1 → byteAt ⟨#[39]⟩ t = 39 := fun t ht => by rw [show t = 0 by omega]; rfl
  refine (zzlit ⟨#[39]⟩ a b 1 line w ha hb hl1 hl2 rfl (by omega) (by omega) hq ((litAt ⟨#[39]⟩ a b 1 rfl hq).one hB hr)).mono ?_
  rintro e w' ⟨rfl, hb⟩
  rw [show ((2 * 1 + a.size : Nat) : Int) = (a.size : Int) + 2 by omega]
  exact ⟨rfl, hb⟩
theorem zzlit_three (a b : ByteArray) (line : Int) (w : World) (ha : a.size ≤ 262144) (hb : b.size ≤ 262144) (hl1 : -1073741824 ≤ line) (hl2 : line ≤ 1073741824) (hB : ∀ t, t + 2 < a.size → ¬ (byteAt a t = 39 ∧ byteAt a (t + 1) = 39 ∧ byteAt a (t + 2) = 39)) (hr : 0 < b.size → byteAt b 0 ≠ 39) :
    Calls Try.prog 22 #[.string ({ data := #[39, 39, 39] } ++ a ++ { data := #[39, 39, 39] } ++ b), .int .i64 0, .int .i64 line] w fun e w' => e = .returned (.tuple #[.int .i64 ((a.size : Int) + 6), .int .i64 (line + cnt (byteAt a) 0 a.size)]) ∧ Below w.heap.size w w' := by
  have hq : ∀ t, t < 3 → byteAt ⟨#[39, 39, 39]⟩ t = 39 := fun t ht => by
    rcases (by omega : t = 0 ∨ t = 1 ∨ t = 2) with rfl | rfl | rfl <;> rfl
  refine (zzlit ⟨#[39, 39, 39]⟩ a b 3 line w ha hb hl1 hl2 rfl (by omega) (by omega) hq ((litAt ⟨#[39, 39, 39]⟩ a b 3 rfl hq).three hB hr)).mono ?_
  rintro e w' ⟨rfl, hb⟩
  rw [show ((2 * 3 + a.size : Nat) : Int) = (a.size : Int) + 6 by omega]
  exact ⟨rfl, hb⟩

set_option maxHeartbeats 2000000 in
theorem main8 (a b : ByteArray) (tr : Bool) (line : Int) (w : World) (ha : a.size ≤ 262144) (hb : b.size ≤ 262144) (hl1 : -1073741824 ≤ line) (hl2 : line ≤ 1073741824) :
    Calls Try.prog 8 #[.string a, .string b, .bool tr, .int .i64 line] w fun e w' => e = .returned (.bool true) ∧ Below w.heap.size w w' := by
  have hcl := cnt_le (byteAt a) 0 a.size
  have HC := fun wx => count_any a 0 a.size wx (by omega) (Nat.le_refl _)
  cases tr
  · go_enter Try.func8, Try.ntmps8
    go_wp2_with (first | (go_at_call 25; refine Calls.mono (hasByte_any a _ (by omega)) ?_) | go_in)
    rintro e w' ⟨⟨r, rfl, hr⟩, rfl⟩
    cases r
    · have HR : Hid _ := hr rfl
      clear hr
      by_cases ha0 : a.size = 0
      · have ha0' : (a.size : Int) == 0 := by simp [ha0]
        by_cases hb0 : b.size = 0
        · have HZ := zzlit_one a b line w ha hb hl1 hl2 HR.out (fun _ h => by omega)
          have hb0' : (b.size : Int) ≤ 0 := by omega
          have HA0 : Hid _ := ha0
          clear ha0 hb0
          go_wp2_with (first | (go_at_call 22; refine HZ.mono ?_; rintro e w1 ⟨rfl, hbel⟩; have HB : Hid _ := hbel; clear hbel) | (go_at_call 13; refine (HC _).mono ?_; rintro e w3 ⟨rfl, rfl⟩))
          go_ret
          exact ⟨ret_b (by simp), HB.out⟩
        · have hb1 : (0 : Int) < (b.size : Int) := by omega
          have hbe := byteAt_eq b 0 (by omega)
          obtain ⟨x, hx⟩ : ∃ x, byteAt b 0 = x := ⟨_, rfl⟩
          rw [hx] at hbe
          by_cases h39 : x = 39
          · subst h39
            clear hx ha0
            go_wp2
            go_ret
            exact ⟨rfl, Below.refl _ _⟩
          · have HZ := zzlit_one a b line w ha hb hl1 hl2 HR.out (fun _ _ => by rw [hx]; exact h39)
            have g : (x == 39) = false := by simp [h39]
            clear hx hb0 ha0
            go_wp2_with (first | (go_at_call 22; refine HZ.mono ?_; rintro e w1 ⟨rfl, hbel⟩; have HB : Hid _ := hbel; clear hbel) | (go_at_call 13; refine (HC _).mono ?_; rintro e w3 ⟨rfl, rfl⟩))
            go_ret
            exact ⟨ret_b (by simp), HB.out⟩
      · have ha0' : ((a.size : Int) == 0) = false := beq_false_of_ne (by omega)
        have HZ := zzlit_one a b line w ha hb hl1 hl2 HR.out (fun h => absurd h ha0)
        clear ha0
        go_wp2_with (first | (go_at_call 22; refine HZ.mono ?_; rintro e w1 ⟨rfl, hbel⟩; have HB : Hid _ := hbel; clear hbel) | (go_at_call 13; refine (HC _).mono ?_; rintro e w3 ⟨rfl, rfl⟩))
        go_ret
        exact ⟨ret_b (by simp), HB.out⟩
    · go_wp2
      go_ret
      exact ⟨rfl, Below.refl _ _⟩
  · go_enter Try.func8, Try.ntmps8
    go_wp2_with (first | (go_at_call 24; refine Calls.mono (hasRun_any a _ (by omega)) ?_) | go_in)
    rintro e w' ⟨⟨r, rfl, hr⟩, rfl⟩
    cases r
    · have HR : Hid _ := hr rfl
      clear hr
      by_cases hb0 : b.size = 0
      · have HZ := zzlit_three a b line w ha hb hl1 hl2 HR.out (fun h => by omega)
        have hb0' : (b.size : Int) ≤ 0 := by omega
        clear hb0
        go_wp2_with (first | (go_at_call 22; refine HZ.mono ?_; rintro e w1 ⟨rfl, hbel⟩; have HB : Hid _ := hbel; clear hbel) | (go_at_call 13; refine (HC _).mono ?_; rintro e w3 ⟨rfl, rfl⟩))
        go_ret
        exact ⟨ret_b (by simp), HB.out⟩
      · have hb1 : (0 : Int) < (b.size : Int) := by omega
        have hbe := byteAt_eq b 0 (by omega)
        obtain ⟨x, hx⟩ : ∃ x, byteAt b 0 = x := ⟨_, rfl⟩
        rw [hx] at hbe
        by_cases h39 : x = 39
        · subst h39
          clear hx
          go_wp2
          go_ret
          exact ⟨rfl, Below.refl _ _⟩
        · have HZ := zzlit_three a b line w ha hb hl1 hl2 HR.out (fun _ => by rw [hx]; exact h39)
          have g : (x == 39) = false := by simp [h39]
          clear hx hb0
          go_wp2_with (first | (go_at_call 22; refine HZ.mono ?_; rintro e w1 ⟨rfl, hbel⟩; have HB : Hid _ := hbel; clear hbel) | (go_at_call 13; refine (HC _).mono ?_; rintro e w3 ⟨rfl, rfl⟩))
          go_ret
          exact ⟨ret_b (by simp), HB.out⟩
    · go_wp2
      go_ret
      exact ⟨rfl, Below.refl _ _⟩
end Go.Proofs.Qxb6000816a
