/- The scanner in memory; 'done', 'peek', 'skipSpace', 'zzSkipModel', 'zzCountNL': their walks. -/
import Derived.Test.Qxb6000816aProg
import Derived.Test.Qxb6000816aLaw
import Derived.WalkKit
import Derived.WalkSpells
import Derived.WalkLawsBesides
import Derived.Deep.QuietTactic
import Derived.BigQuiet
import Derived.KernelRfl
namespace Go.Proofs.Qxb6000816a
open Go.RowKit
set_option linter.unusedVariables false
set_option linter.unusedSimpArgs false

/-- The byte at a place. -/
def byteAt (s : ByteArray) (i : Nat) : Int := ((s.data.toList.getD i 0).toNat : Int)
theorem byteAt_eq (s : ByteArray) (i : Nat) (h : i < s.size) : ((s[i]'h).toNat : Int) = byteAt s i := by
  unfold byteAt
  have : s.data.toList.getD i 0 = s[i]'h := by
    rw [List.getD_eq_getElem?_getD, Array.getElem?_toList]
    have h' : i < s.data.size := h
    rw [Array.getElem?_eq_getElem h']
    rfl
  rw [this]
theorem byteAt_bd (s : ByteArray) (i : Nat) : 0 ≤ byteAt s i ∧ byteAt s i ≤ 255 := by
  unfold byteAt
  have := (s.data.toList.getD i 0).toNat_lt
  omega

/-- The scanner lies in block B. -/
def Sc (w : World) (B : Nat) (s : ByteArray) (i : Nat) (l : Int) : Prop := ∃ k, w.heap[B]? = some (.cells #[.string s, .int .i64 i, .int .i64 l, k] 37 (0, 0))

theorem Sc.cells {w : World} {B : Nat} {s : ByteArray} {i : Nat} {l : Int} (h : Sc w B s i l) : w.cell? ⟨B, 0, none⟩ = some (.string s) ∧ w.cell? ⟨B, 1, none⟩ = some (.int .i64 i) ∧ w.cell? ⟨B, 2, none⟩ = some (.int .i64 l) ∧ ∀ j, w.frozen? ⟨B, j, none⟩ = false := by
  obtain ⟨k, hk⟩ := h
  exact ⟨by rw [cell_of_row w B 0 _ 37 (0, 0) hk]; rfl, by rw [cell_of_row w B 1 _ 37 (0, 0) hk]; rfl, by rw [cell_of_row w B 2 _ 37 (0, 0) hk]; rfl, fun j => frozen_of_row w B j _ 37 hk⟩
theorem Sc.drewN {w : World} {B : Nat} {s : ByteArray} {i : Nat} {l : Int} (h : Sc w B s i l) (n : Nat) : Sc (w.drewN n) B s i l := h
theorem Sc.setI {w : World} {B : Nat} {s : ByteArray} {i : Nat} {l : Int} (h : Sc w B s i l) (i' : Nat) : Sc (w.setCell ⟨B, 1, none⟩ (.int .i64 i')) B s i' l := by
  obtain ⟨k, hk⟩ := h
  exact ⟨k, heap_setCell_same w B 1 _ 37 _ hk⟩
theorem Sc.setL {w : World} {B : Nat} {s : ByteArray} {i : Nat} {l : Int} (h : Sc w B s i l) (l' : Int) : Sc (w.setCell ⟨B, 2, none⟩ (.int .i64 l')) B s i l' := by
  obtain ⟨k, hk⟩ := h
  exact ⟨k, heap_setCell_same w B 2 _ 37 _ hk⟩

/-- Block B alone may have turned; there may be new blocks. -/
structure FrS (B : Nat) (w w' : World) : Prop where
  os : w'.os = w.os
  tape : w'.tape = w.tape
  output : w'.output = w.output
  size : w.heap.size ≤ w'.heap.size
  block : ∀ k, k < w.heap.size → k ≠ B → w'.heap[k]? = w.heap[k]?
theorem FrS.refl (B : Nat) (w : World) : FrS B w w := ⟨rfl, rfl, rfl, Nat.le_refl _, fun _ _ _ => rfl⟩
theorem FrS.trans {B : Nat} {a b c : World} (h : FrS B a b) (k : FrS B b c) : FrS B a c :=
  ⟨k.os.trans h.os, k.tape.trans h.tape, k.output.trans h.output, Nat.le_trans h.size k.size, fun i hi h1 => by rw [k.block i (Nat.lt_of_lt_of_le hi h.size) h1, h.block i hi h1]⟩
theorem FrS.drewN {B : Nat} {a b : World} (h : FrS B a b) (n : Nat) : FrS B a (b.drewN n) := ⟨h.os, h.tape, h.output, h.size, h.block⟩
theorem FrS.set {B : Nat} {a b : World} (h : FrS B a b) (o : Nat) (v : Value) : FrS B a (b.setCell ⟨B, o, none⟩ v) :=
  ⟨h.os, h.tape, h.output, by simpa [World.setCell] using h.size, fun i hi h1 => by rw [Below.heap_setCell _ _ _ _ h1, h.block i hi h1]⟩
theorem FrS.below {a b : World} {o : Obj} (h : FrS a.heap.size (a.alloc o) b) : Below a.heap.size a b :=
  ⟨h.os, h.tape, h.output, Nat.le_trans (by simp) h.size, fun k hk => by rw [h.block k (by simp; omega) (by omega), Below.heap_alloc _ _ _ hk]⟩

theorem ret_b {a b : Bool} (h : a = b) : Ending.returned (.bool a) = .returned (.bool b) := by rw [h]
theorem ret_int {k : IntKind} {a b : Int} (h : a = b) : Ending.returned (.int k a) = .returned (.int k b) := by rw [h]

theorem done_any (B i : Nat) (s : ByteArray) (l : Int) (w : World) (h : Sc w B s i l) (hs : s.size ≤ 9223372036854775807) :
    Calls Try.prog 31 #[.pointer (some ⟨B, 0, none⟩)] w fun e w' => e = .returned (.bool (decide (s.size ≤ i))) ∧ ∃ N, w' = w.drewN N := by
  obtain ⟨c0, c1, c2, _⟩ := h.cells
  clear h
  go_enter Try.func31, Try.ntmps31
  go_wp2
  go_quiet (fail)
  go_wp2
  go_ret
  exact ⟨ret_b (by simp), _, rfl⟩

theorem peek_in (B i : Nat) (s : ByteArray) (l : Int) (w : World) (h : Sc w B s i l) (hs : s.size ≤ 9223372036854775807) (hi : i < s.size) :
    Calls Try.prog 32 #[.pointer (some ⟨B, 0, none⟩)] w fun e w' => e = .returned (.int .u8 (byteAt s i)) ∧ ∃ N, w' = w.drewN N := by
  have HD := done_any B i s l w h hs
  obtain ⟨c0, c1, c2, _⟩ := h.cells
  have hd : decide (s.size ≤ i) = false := decide_eq_false (by omega)
  rw [hd] at HD
  have hi' : (i : Int) < (s.size : Int) := by omega
  have hi0 : (0 : Int) ≤ (i : Int) := by omega
  clear h hd
  go_enter Try.func32, Try.ntmps32
  go_wp2_with (go_at_call 31; refine HD.mono ?_; rintro e w' ⟨rfl, ⟨N, rfl⟩⟩)
  go_quiet (fail)
  go_wp2
  go_ret
  exact ⟨ret_int (byteAt_eq s i hi), by first | exact ⟨_, rfl⟩ | (simp only [World.drewN_drewN]; exact ⟨_, rfl⟩)⟩

theorem peek_out (B i : Nat) (s : ByteArray) (l : Int) (w : World) (h : Sc w B s i l) (hs : s.size ≤ 9223372036854775807) (hi : s.size ≤ i) :
    Calls Try.prog 32 #[.pointer (some ⟨B, 0, none⟩)] w fun e w' => e = .returned (.int .u8 0) ∧ ∃ N, w' = w.drewN N := by
  have HD := done_any B i s l w h hs
  have hd : decide (s.size ≤ i) = true := decide_eq_true (by omega)
  rw [hd] at HD
  clear h hd
  go_enter Try.func32, Try.ntmps32
  go_wp2_with (go_at_call 31; refine HD.mono ?_; rintro e w' ⟨rfl, ⟨N, rfl⟩⟩)
  go_ret
  exact ⟨rfl, _, rfl⟩

theorem count_any (s : ByteArray) (a b : Nat) (w : World) (hs : s.size ≤ 1048576) (hb : b ≤ s.size) :
    Calls Try.prog 13 #[.string s, .int .i64 a, .int .i64 b] w fun e w' => e = .returned (.int .i64 (cnt (byteAt s) a b)) ∧ w = w' := by
  by_cases hab : a ≤ b
  · go_enter Try.func13, Try.ntmps13
    go_wp2
    go_loop [7, 8] (fun n k => ∃ q : Nat, a ≤ q ∧ q ≤ b ∧ k = .int .i64 q ∧ n = .int .i64 (cnt (byteAt s) a q)) (fun _ k => b - (intOf k).toNat)
    case atStart => exact ⟨a, Nat.le_refl _, hab, rfl, by rw [cnt_self _ _ _ (Nat.le_refl _)]; rfl⟩
    case round =>
      obtain ⟨q, hq1, hq2, rfl, rfl⟩ := hrel
      have hcl := cnt_le (byteAt s) a q
      by_cases hlt : q < b
      · have hqs : q < s.size := by omega
        have hbe := byteAt_eq s q hqs
        by_cases hnl : byteAt s q = 10
        · have HC : Hid _ := cnt_nl (c := byteAt s) hq1 hnl
          have hnl' : ((byteAt s q) == 10) = true := by simp [hnl]
          clear hnl
          go_wp2
          go_round
          case rel => exact ⟨q + 1, by omega, by omega, by go_num, by rw [HC.out]; go_num⟩
          case measure => simp [intOf]; omega
        · have HC : Hid _ := cnt_no (c := byteAt s) (a := a) hnl
          have hnl' : ((byteAt s q) == 10) = false := by simp [hnl]
          clear hnl
          go_wp2
          go_round
          case rel => exact ⟨q + 1, by omega, by omega, by go_num, by rw [HC.out]⟩
          case measure => simp [intOf]; omega
      · have hqe : q = b := by omega
        go_wp2
        go_ret
        exact ⟨ret_int (by simp only [hqe]), rfl⟩
  · have h0 := cnt_self (byteAt s) a b (by omega)
    rw [h0]
    go_enter Try.func13, Try.ntmps13
    go_wp2
    refine wp_loop_rounds 1 ?_
    rw [rounds_succ]
    go_wp2
    go_ret
    exact ⟨rfl, rfl⟩
end Go.Proofs.Qxb6000816a
