/- What 'quoted' holds of the scanner, round for round; the delimiters. -/
import Derived.Test.Qxb6000816aQuoteLaw
import Derived.Test.Qxb6000816aSkip
import Derived.Test.Qxb6000816aShelf
import Derived.Deep.RegionHeld3
namespace Go.Proofs.Qxb6000816a
open Go.RowKit
set_option linter.unusedVariables false
set_option linter.unusedSimpArgs false

theorem Sc.lt {w : World} {B i : Nat} {s : ByteArray} {l : Int} (h : Sc w B s i l) : B < w.heap.size := by
  obtain ⟨k, hk⟩ := h
  exact (Array.getElem?_eq_some_iff.mp hk).1
theorem Sc.keep {w w' : World} {B i : Nat} {s : ByteArray} {l : Int} (h : Sc w B s i l) (hb : Below w.heap.size w w') : Sc w' B s i l := by
  have h1 := h.lt
  obtain ⟨k, hk⟩ := h
  exact ⟨k, by rw [hb.block _ h1]; exact hk⟩
theorem FrS.keep {a b c : World} {B : Nat} (h : FrS B a b) (hb : Below b.heap.size b c) : FrS B a c :=
  h.trans ⟨hb.os, hb.tape, hb.output, hb.size, fun k hk _ => hb.block k hk⟩

/-- What the first region holds of the world. -/
def SF (w0 : World) (B : Nat) (s : ByteArray) (i : Nat) (l : Int) (w : World) : Prop := Sc w B s i l ∧ FrS B w0 w
theorem SF.drew {w0 w : World} {B i : Nat} {s : ByteArray} {l : Int} (h : SF w0 B s i l w) : SF w0 B s i l w.drew := ⟨h.1, h.2.drewN 1⟩
theorem SF.below {w0 w w' : World} {B i : Nat} {s : ByteArray} {l : Int} (h : SF w0 B s i l w) (hb : Below w.heap.size w w') : SF w0 B s i l w' := ⟨h.1.keep hb, h.2.keep hb⟩
theorem SF.cells {w0 w : World} {B i : Nat} {s : ByteArray} {l : Int} (h : SF w0 B s i l w) : w.cell? ⟨B, 0, none⟩ = some (.string s) ∧ w.cell? ⟨B, 1, none⟩ = some (.int .i64 i) := ⟨h.1.cells.1, h.1.cells.2.1⟩

def one (q : Int) : ByteArray := if q = 34 then ⟨#[34]⟩ else ⟨#[39]⟩
def three (q : Int) : ByteArray := if q = 34 then ⟨#[34, 34, 34]⟩ else ⟨#[39, 39, 39]⟩
theorem one_size (q : Int) : (one q).size = 1 := by unfold one; split <;> rfl
theorem three_size (q : Int) : (three q).size = 3 := by unfold three; split <;> rfl
theorem conv_one {q : Int} (hq : q = 34 ∨ q = 39) (w : World) : (convert 5 9 (.int .u8 q)).run Try.prog w = .ok (.string (one q)) w := by
  rcases hq with rfl | rfl <;> kernel_rfl
theorem rep_three {q : Int} (hq : q = 34 ∨ q = 39) (w : World) : Calls Try.prog 35 #[.string (one q), .int .i64 3] w fun e w' => e = .returned (.string (three q)) ∧ Below w.heap.size w w' := by
  have h := Try.strings_Repeat (one q) 3 w (by omega) (by rw [one_size]; omega)
  refine h.mono ?_
  rintro e w' ⟨rfl, hb⟩
  refine ⟨?_, hb⟩
  rcases hq with rfl | rfl <;> rfl

theorem byteAt_some {s : ByteArray} {k : Nat} {u : UInt8} (h : s.data.toList[k]? = some u) : k < s.size ∧ byteAt s k = (u.toNat : Int) := by
  refine ⟨?_, ?_⟩
  · have := (List.getElem?_eq_some_iff.mp h).1
    simpa using this
  · unfold byteAt
    rw [List.getD_eq_getElem?_getD, h]
    rfl
theorem some_byteAt {s : ByteArray} {k : Nat} {u : UInt8} (hk : k < s.size) (h : byteAt s k = (u.toNat : Int)) : s.data.toList[k]? = some u := by
  have hk' : k < s.data.toList.length := by simpa using hk
  rw [List.getElem?_eq_getElem hk']
  unfold byteAt at h
  rw [List.getD_eq_getElem?_getD, List.getElem?_eq_getElem hk'] at h
  have : (s.data.toList[k]'hk').toNat = u.toNat := Int.ofNat.inj h
  exact congrArg some (UInt8.toNat_inj.mp this)
theorem ext_list (s : ByteArray) (p : Nat) : (s.extract p s.size).data.toList = s.data.toList.drop p := by
  rw [ByteArray.data_extract, Array.toList_extract, List.extract_eq_take_drop]
  refine List.take_of_length_le ?_
  rw [List.length_drop]
  exact Nat.le_refl _
theorem pfx (s : ByteArray) (p d : Nat) (u : UInt8) (hd : 1 ≤ d) : Lib.hasPrefix (s.extract p s.size).data.toList (List.replicate d u) = hp (byteAt s) s.size p (u.toNat : Int) d := by
  rw [Bool.eq_iff_iff, hp_iff]
  unfold Lib.hasPrefix
  rw [List.isPrefixOf_iff_prefix, List.prefix_iff_getElem?, ext_list]
  constructor
  · intro h
    have h' : ∀ t, t < d → p + t < s.size ∧ byteAt s (p + t) = (u.toNat : Int) := by
      intro t ht
      have := h t (by simpa using ht)
      rw [List.getElem?_drop] at this
      rw [List.getElem_replicate] at this
      exact byteAt_some this
    refine ⟨?_, fun t ht => (h' t ht).2⟩
    have := (h' (d - 1) (by omega)).1
    omega
  · rintro ⟨h1, h2⟩ t ht
    have ht' : t < d := by simpa using ht
    rw [List.getElem?_drop, List.getElem_replicate]
    exact some_byteAt (by omega) (h2 t ht')
theorem pfx_one {q : Int} (hq : q = 34 ∨ q = 39) (s : ByteArray) (p : Nat) : Lib.hasPrefix (s.extract p s.size).data.toList (one q).data.toList = hp (byteAt s) s.size p q 1 := by
  rcases hq with rfl | rfl
  · exact pfx s p 1 34 (by omega)
  · exact pfx s p 1 39 (by omega)
theorem pfx_three {q : Int} (hq : q = 34 ∨ q = 39) (s : ByteArray) (p : Nat) : Lib.hasPrefix (s.extract p s.size).data.toList (three q).data.toList = hp (byteAt s) s.size p q 3 := by
  rcases hq with rfl | rfl
  · exact pfx s p 3 34 (by omega)
  · exact pfx s p 3 39 (by omega)

/-- The scanner stands at p, the lines counted from i on. -/
def AtQ (w0 : World) (B : Nat) (s : ByteArray) (i : Nat) (line : Int) (w : World) (p : Nat) : Prop := Sc w B s p (line + cnt (byteAt s) i (min p s.size)) ∧ FrS B w0 w
theorem AtQ.drewN {w0 w : World} {B i p : Nat} {s : ByteArray} {line : Int} (h : AtQ w0 B s i line w p) (N : Nat) : AtQ w0 B s i line (w.drewN N) p := ⟨h.1, h.2.drewN N⟩
theorem AtQ.ofSF {w0 w : World} {B i : Nat} {s : ByteArray} {line : Int} (h : SF w0 B s i line w) : AtQ w0 B s i line w i := by
  refine ⟨?_, h.2⟩
  rw [cnt_self _ _ _ (Nat.min_le_left _ _), Int.natCast_zero, Int.add_zero]
  exact h.1
theorem AtQ.keep {w0 w w' : World} {B i p : Nat} {s : ByteArray} {line : Int} (h : AtQ w0 B s i line w p) (hb : Below w.heap.size w w') : AtQ w0 B s i line w' p := ⟨h.1.keep hb, h.2.keep hb⟩
/-- On to p', no line end between. -/
theorem AtQ.on {w0 w : World} {B i p : Nat} {s : ByteArray} {line : Int} (h : AtQ w0 B s i line w p) (p' : Nat) (hc : cnt (byteAt s) i (min p' s.size) = cnt (byteAt s) i (min p s.size)) : AtQ w0 B s i line (w.setCell ⟨B, 1, none⟩ (.int .i64 (p' : Int))) p' := by
  refine ⟨?_, h.2.set 1 _⟩
  rw [hc]
  exact h.1.setI p'
/-- On to p', one line end between. -/
theorem AtQ.onL {w0 w : World} {B i p : Nat} {s : ByteArray} {line : Int} (h : AtQ w0 B s i line w p) (p' : Nat) (l' : Int) (hl : l' = line + cnt (byteAt s) i (min p s.size) + 1) (hc : cnt (byteAt s) i (min p' s.size) = cnt (byteAt s) i (min p s.size) + 1) : AtQ w0 B s i line ((w.setCell ⟨B, 2, none⟩ (.int .i64 l')).setCell ⟨B, 1, none⟩ (.int .i64 (p' : Int))) p' := by
  refine ⟨?_, (h.2.set 2 _).set 1 _⟩
  rw [hc, show line + ((cnt (byteAt s) i (min p s.size) + 1 : Nat) : Int) = l' by omega]
  exact (h.1.setL l').setI p'
theorem cnt_end {c : Nat → Int} {n i p d : Nat} {q : Int} (hq : q = 34 ∨ q = 39) (h : n ≤ p ∨ hp c n p q d = true) : cnt c i (min (p + d) n) = cnt c i (min p n) := by
  rcases h with h | h
  · rw [Nat.min_eq_right (by omega), Nat.min_eq_right h]
  · have := hp_iff.mp h
    rw [Nat.min_eq_left this.1, Nat.min_eq_left (by omega)]
    exact cnt_skip d (fun t ht => by rw [this.2 t ht]; omega)
theorem cnt_one {c : Nat → Int} {n i p : Nat} (h : p < n) (hc : c p ≠ 10) : cnt c i (min (p + 1) n) = cnt c i (min p n) := by
  rw [Nat.min_eq_left (by omega), Nat.min_eq_left (by omega)]
  exact cnt_no hc
theorem cnt_oneL {c : Nat → Int} {n i p : Nat} (hi : i ≤ p) (h : p < n) (hc : c p = 10) : cnt c i (min (p + 1) n) = cnt c i (min p n) + 1 := by
  rw [Nat.min_eq_left (by omega), Nat.min_eq_left (by omega)]
  exact cnt_nl hi hc
end Go.Proofs.Qxb6000816a
