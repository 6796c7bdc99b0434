/- Bytes of a text; the small callees: 'allDigits', 'digitAt'. -/
import Derived.Test.Qxb6601746aLaw
import Derived.Test.Qxb6601746aShelf
import Derived.WalkKit
import Derived.WalkSpells
import Derived.WalkLawsBesides
import Derived.KernelRfl
namespace Go.Proofs.Qxb6601746a
open Go.RowKit
set_option linter.unusedVariables false
set_option linter.unusedSimpArgs false

/-- The byte at a place. -/
def byteAt (s : ByteArray) (i : Nat) : Int := ((s.data.toList.getD i 0).toNat : Int)
theorem byteAt_eq (s : ByteArray) (i : Nat) (h : i < s.size) : ((s[i]'h).toNat : Int) = byteAt s i := by
  unfold byteAt
  have : s.data.toList.getD i 0 = s[i]'h := by
    rw [List.getD_eq_getElem?_getD, Array.getElem?_toList]
    have h' : i < s.data.size := h
    rw [Array.getElem?_eq_getElem h']
    rfl
  rw [this]
theorem byteAt_bd (s : ByteArray) (i : Nat) : 0 ≤ byteAt s i ∧ byteAt s i ≤ 255 := by
  unfold byteAt
  have := (s.data.toList.getD i 0).toNat_lt
  omega
theorem byteAt_ext (s : ByteArray) (a b k : Nat) (hk : a + k < b) (hb : b ≤ s.size) : byteAt (s.extract a b) k = byteAt s (a + k) := by
  unfold byteAt
  rw [ByteArray.data_extract, Array.toList_extract, List.extract_eq_take_drop, List.getD_eq_getElem?_getD, List.getD_eq_getElem?_getD, List.getElem?_take, if_pos (by omega), List.getElem?_drop]
theorem ext_size (s : ByteArray) (a b : Nat) (hb : b ≤ s.size) : (s.extract a b).size = b - a := by
  rw [ByteArray.size_extract, Nat.min_eq_left hb]

theorem ret_b {a b : Bool} (h : a = b) : Ending.returned (.bool a) = .returned (.bool b) := by rw [h]
theorem ret_int {k : IntKind} {a b : Int} (h : a = b) : Ending.returned (.int k a) = .returned (.int k b) := by rw [h]
/-- It returns a bool of which R holds. -/
def RetB (e : Ending) (R : Bool → Prop) : Prop := ∃ b, e = .returned (.bool b) ∧ R b
def AllD (s : ByteArray) (b : Bool) : Prop := b = true ↔ ∀ t, t < s.size → dig (byteAt s t)

set_option maxHeartbeats 2000000 in
theorem allDigits_any (s : ByteArray) (w : World) (hs : s.size ≤ 1048576) :
    Calls Try.prog 11 #[.string s] w fun e w' => RetB e (AllD s) ∧ w = w' := by
  go_enter Try.func11, Try.ntmps11
  go_wp2
  go_loop [3] (fun k => ∃ p : Nat, p ≤ s.size ∧ k = .int .i64 p ∧ Hid (∀ t, t < p → dig (byteAt s t))) (fun k => s.size - (intOf k).toNat)
  case atStart => exact ⟨0, Nat.zero_le _, rfl, fun t ht => by omega⟩
  case round =>
    obtain ⟨p, hp, rfl, HP⟩ := hrel
    by_cases hlt : p < s.size
    · have hbe := byteAt_eq s p hlt
      obtain ⟨x, hx⟩ : ∃ x, byteAt s p = x := ⟨_, rfl⟩
      rw [hx] at hbe
      have HX : Hid _ := hx
      clear hx
      by_cases h1 : x < 48
      · go_wp2
        go_ret
        exact ⟨⟨false, rfl, ⟨fun h => Bool.noConfusion h, fun h => by have := h p hlt; rw [HX.out] at this; unfold dig at this; omega⟩⟩, rfl⟩
      · by_cases h2 : 57 < x
        · go_wp2
          go_ret
          exact ⟨⟨false, rfl, ⟨fun h => Bool.noConfusion h, fun h => by have := h p hlt; rw [HX.out] at this; unfold dig at this; omega⟩⟩, rfl⟩
        · go_wp2
          go_round
          case rel => exact ⟨p + 1, by omega, by go_num, fun t ht => by
            by_cases e : t = p
            · rw [e, HX.out]; unfold dig; omega
            · exact HP.out t (by omega)⟩
          case measure => simp [intOf]; omega
    · go_wp2
      go_ret
      exact ⟨⟨true, rfl, ⟨fun _ t ht => HP.out t (by omega), fun _ => rfl⟩⟩, rfl⟩

set_option maxHeartbeats 2000000 in
theorem digitAt_any (a b : ByteArray) (j : Nat) (x : Int) (w : World) (ha : a.size ≤ 1048576) (hb : b.size ≤ 1048576) (hj : j < a.size + b.size)
    (hx : x = if j < a.size then byteAt a j - 48 else byteAt b (j - a.size) - 48) (h0 : 0 ≤ x) (h9 : x ≤ 9) :
    Calls Try.prog 12 #[.string a, .string b, .int .i64 j] w fun e w' => e = .returned (.int .u8 x) ∧ w = w' := by
  by_cases hlt : j < a.size
  · rw [if_pos hlt] at hx
    have hbe := byteAt_eq a j hlt
    have hlt' : (j : Int) < (a.size : Int) := by omega
    obtain ⟨y, hy⟩ : ∃ y, byteAt a j = y := ⟨_, rfl⟩
    rw [hy] at hbe hx
    have hy1 : 48 ≤ y := by omega
    have hy2 : y ≤ 57 := by omega
    have HX : Hid _ := hx
    clear hx hy
    go_enter Try.func12, Try.ntmps12
    go_wp2
    go_ret
    exact ⟨ret_int (by have := HX.out; go_num), rfl⟩
  · rw [if_neg hlt] at hx
    have hbe := byteAt_eq b (j - a.size) (by omega)
    have hlt' : (a.size : Int) ≤ (j : Int) := by omega
    obtain ⟨i, hi⟩ : ∃ i, j - a.size = i := ⟨_, rfl⟩
    have hij : j = a.size + i := by omega
    obtain ⟨y, hy⟩ : ∃ y, byteAt b i = y := ⟨_, rfl⟩
    have hib : i < b.size := by omega
    have hbe' := byteAt_eq b i hib
    rw [hi, hy] at hx
    rw [hy] at hbe'
    have hy1 : 48 ≤ y := by omega
    have hy2 : y ≤ 57 := by omega
    have HX : Hid _ := hx
    clear hx hy hbe hi hlt'
    subst hij
    go_enter Try.func12, Try.ntmps12
    go_wp2
    go_ret
    exact ⟨ret_int (by have := HX.out; go_num), rfl⟩

theorem pfx_minus (s : ByteArray) : Lib.hasPrefix s.data.toList [45] = decide (st (byteAt s) s.size = 1) := by
  rw [Bool.eq_iff_iff, decide_eq_true_iff]
  unfold Lib.hasPrefix st
  have hl : s.data.toList.length = s.size := by simp
  cases h : s.data.toList with
  | nil =>
    rw [h] at hl
    rw [if_neg (by simp at hl; omega)]
    simp
  | cons x xs =>
    rw [h] at hl
    have hb : byteAt s 0 = (x.toNat : Int) := by unfold byteAt; rw [h]; rfl
    simp only [List.length_cons] at hl
    have hx : (x = 45) ↔ (x.toNat : Int) = 45 := ⟨fun e => by rw [e]; rfl, fun e => UInt8.toNat_inj.mp (Int.ofNat.inj e)⟩
    rw [hb]
    by_cases e : (x.toNat : Int) = 45
    · rw [if_pos ⟨by omega, e⟩]
      have := hx.mpr e
      simp [List.isPrefixOf, this]
    · rw [if_neg (fun h => e h.2)]
      have : ¬ x = 45 := fun h => e (hx.mp h)
      simp [List.isPrefixOf, Ne.symm this]
      try exact fun h => this h.symm
end Go.Proofs.Qxb6601746a
