/- The walks of the functions on FnCapacityKCopies's road, callees first. -/
import Derived.Test.Qxb6000059aProg
import Derived.WalkKit
import Derived.WalkSpells
import Derived.WalkLawsBesides
import Derived.Deep.OwnRows
import Derived.KernelRfl
namespace Go.Proofs.Qxb6000059a
set_option linter.unusedVariables false
set_option linter.unusedSimpArgs false
open Go.RowKit

theorem info2 : (Try.prog.info? 2).map (fun i => (i.zero, i.size, i.bytes)) = some (some (.int .i64 0), 1, 8) := by kernel_rfl

/-- cloneI64 at a slice that is not nil. -/
theorem clone_any (b off len cap : Nat) (zs : List Int) (w : World) (hlen : len ≤ 1048576) (hb : 0 < len → b < w.heap.size)
    (hc : ∀ i, i < len → w.cell? ⟨b, off + i, none⟩ = some (.int .i64 (zs.getD i 0))) :
    Calls Try.prog 9 #[.slice (some ⟨b, off, none⟩) len cap] w fun e w' => e = .returned (.slice (some ⟨w.heap.size, 0, none⟩) len len) ∧
      w'.rowIs w.heap.size 2 len (fun i => .int .i64 (zs.getD i 0)) ∧ Below w.heap.size w w' ∧ w'.heap.size = w.heap.size + 1 := by
  have hmk := run_make_row' (P := Try.prog) 22 2 (.int .i64 0) 8 Try.underlying22 info2 rfl .i64 .i64 len (by omega) (by omega)
  have hnil := fun wx a l c => Lib.run_eql_slice_nil (P := Try.prog) wx 22 2 a l c 0 0 Try.underlying22
  go_enter Try.func9, Try.ntmps9
  go_wp2
  go_loopw [4] (fun i wr => ∃ k : Nat, k ≤ len ∧ i = .int .i64 k ∧ wr.rowIs w.heap.size 2 len (fun j => .int .i64 (if j < k then zs.getD j 0 else 0)) ∧ Below w.heap.size w wr ∧ wr.heap.size = w.heap.size + 1)
    (fun i _ => len - (intOf i).toNat)
  case atStart => exact ⟨0, Nat.zero_le _, rfl, (World.rowIs_made w (.int .i64 0) len 2).congr (fun i hi => by simp), (Below.refl _ _).alloc (Nat.le_refl _) _, by simp⟩
  case round =>
    obtain ⟨k, hk, rfl, hrow, hbel, hsz⟩ := hrel
    by_cases hlt : k < len
    · have hb1 := hb (by omega)
      have hcell : wr.cell? ⟨b, off + k, none⟩ = some (.int .i64 (zs.getD k 0)) := (hbel.cell (by exact hb1)).trans (hc k hlt)
      have hcw := hrow.cell hlt
      have hfw := hrow.frozen k
      have R := (hrow.set k (.int .i64 (zs.getD k 0))).congr (g := fun j => .int .i64 (if j < k + 1 then zs.getD j 0 else 0)) (fun j hj => by
        by_cases e : j = k
        · subst e; simp
        · by_cases e2 : j < k
          · simp [e, e2, show j < k + 1 by omega]
          · simp [e, e2, show ¬ j < k + 1 by omega])
      have HR : Hid _ := R
      have HB : Hid _ := hbel.setCell (p := ⟨w.heap.size, k, none⟩) (Nat.le_refl _) (.int .i64 (zs.getD k 0))
      clear R hbel hrow
      go_wp2
      go_roundw
      case rel => exact ⟨k + 1, by omega, by go_num, HR.out, HB.out, by simp [hsz]⟩
      case measure => simp [intOf]; omega
    · have hkl : k = len := by omega
      have HR : Hid _ := hrow
      have HB : Hid _ := hbel
      clear hrow hbel
      go_wp2
      go_ret
      exact ⟨rfl, World.rowIs.congr HR.out (fun j hj => by simp [hkl, hj]), HB.out, hsz⟩

theorem ret_bool {a b : Bool} (h : a = b) : Ending.returned (.bool a) = .returned (.bool b) := by rw [h]

theorem val_int {k : IntKind} {a b : Int} (h : a = b) : Value.int k a = .int k b := by rw [h]

/-- Every value lies in 1 .. 2^32. -/
def domB (zs : List Int) : Bool := zs.all fun z => decide (1 ≤ z ∧ z ≤ 4294967296)

theorem dom_snoc (zs : List Int) (k : Nat) (h : k < zs.length) : domB (zs.take (k + 1)) = (domB (zs.take k) && decide (1 ≤ zs[k]?.getD 0 ∧ zs[k]?.getD 0 ≤ 4294967296)) := by
  unfold domB
  rw [List.take_succ_eq_append_getElem h, List.all_append]
  simp [h]

theorem dom_take (zs : List Int) (k n : Nat) (h : k ≤ n) (hd : domB (zs.take k) = false) : domB (zs.take n) = false := by
  unfold domB at *
  rw [List.all_eq_false] at *
  obtain ⟨x, hx, hp⟩ := hd
  exact ⟨x, (List.take_prefix_take_left h).subset hx, hp⟩

theorem indom_any (b off len cap : Nat) (zs : List Int) (w : World) (hlen : len ≤ 1048576) (hz : len ≤ zs.length)
    (hc : ∀ i, i < len → w.cell? ⟨b, off + i, none⟩ = some (.int .i64 (zs.getD i 0))) :
    Calls Try.prog 23 #[.slice (some ⟨b, off, none⟩) len cap] w fun e w' => e = .returned (.bool (domB (zs.take len))) ∧ w = w' := by
  go_enter Try.func23, Try.ntmps23
  go_wp2
  go_loop [3] (fun i => ∃ k : Nat, k ≤ len ∧ i = .int .i64 k ∧ domB (zs.take k) = true) (fun i => len - (intOf i).toNat)
  case atStart => exact ⟨0, Nat.zero_le _, rfl, rfl⟩
  case round =>
    obtain ⟨k, hk, rfl, hd⟩ := hrel
    have HD : Hid _ := hd
    clear hd
    by_cases hlt : k < len
    · have hcell := hc k hlt
      rw [List.getD_eq_getElem?_getD] at hcell
      have HS := dom_snoc zs k (by omega)
      have HS' : Hid _ := HS
      clear HS
      by_cases h1 : zs[k]?.getD 0 < 1
      · go_wp2
        go_ret
        exact ⟨ret_bool (dom_take zs (k + 1) len (by omega) (by rw [HS'.out]; simp; omega)).symm, rfl⟩
      · by_cases h2 : 4294967296 < zs[k]?.getD 0
        · go_wp2
          go_ret
          exact ⟨ret_bool (dom_take zs (k + 1) len (by omega) (by rw [HS'.out]; simp; omega)).symm, rfl⟩
        · go_wp2
          go_round
          case rel => exact ⟨k + 1, by omega, by go_num, by rw [HS'.out, HD.out]; simp; omega⟩
          case measure => simp [intOf]; omega
    · have hkl : k = len := by omega
      go_wp2
      go_ret
      exact ⟨ret_bool (by rw [← hkl, HD.out]), rfl⟩

/-- What the row of contractors holds. -/
def conAt (zs : List Int) (k : Nat) (j : Nat) : Value := if j % 4 = 0 then .string ByteArray.empty else if j % 4 = 3 then .int .i64 (if j / 4 < k then zs.getD (j / 4) 0 else 0) else .int .i64 0

theorem info67 : (Try.prog.info? 67).map (fun i => (i.zero, i.size, i.bytes)) = some (some (.agg #[.string ByteArray.empty, .int .i64 0, .int .i64 0, .int .i64 0]), 4, 40) := by kernel_rfl

theorem made67 (n : Nat) (w : World) (hn : n ≤ 1048576) : (Instr.makeSlice 54 (.int .i64 (n : Int)) (.int .i64 (n : Int))).run Try.prog w = .ok (.slice (some ⟨w.heap.size, 0, none⟩) n n) (w.alloc (.cells (madeCells #[.string ByteArray.empty, .int .i64 0, .int .i64 0, .int .i64 0] (n * 4)) 67)) := by
  obtain ⟨i, hi, hz, hs, hb⟩ := info_parts info67
  have h := run_make (P := Try.prog) w 54 67 i _ Try.underlying54 hi hz .i64 .i64 (n : Int) (n : Int) (by omega) (Int.le_refl _) (by rw [hb]; omega) (by omega)
  rw [hs] at h
  simpa [Value.cells] using h

theorem made_con (n : Nat) (w : World) (zs : List Int) : (w.alloc (.cells (madeCells #[.string ByteArray.empty, .int .i64 0, .int .i64 0, .int .i64 0] (n * 4)) 67)).rowIs w.heap.size 67 (n * 4) (conAt zs 0) := by
  refine ⟨_, Go.Deep.blk_alloc_new _ _, size_madeCells _ _, fun i hi => ?_⟩
  simp only [madeCells, Array.getElem?_map, Array.getElem?_range, hi, if_true, Option.map_some]
  congr 1
  have : i % 4 = 0 ∨ i % 4 = 1 ∨ i % 4 = 2 ∨ i % 4 = 3 := by omega
  unfold conAt
  rcases this with h | h | h | h <;> simp [h]

set_option maxHeartbeats 400000 in
theorem contr_any (b off len cap : Nat) (zs : List Int) (w : World) (hlen : len ≤ 1048576) (hb : 0 < len → b < w.heap.size)
    (hc : ∀ i, i < len → w.cell? ⟨b, off + i, none⟩ = some (.int .i64 (zs.getD i 0))) :
    Calls Try.prog 26 #[.slice (some ⟨b, off, none⟩) len cap] w fun e w' => e = .returned (.slice (some ⟨w.heap.size, 0, none⟩) len len) ∧
      w'.rowIs w.heap.size 67 (len * 4) (conAt zs len) ∧ Below w.heap.size w w' ∧ w'.heap.size = w.heap.size + 1 := by
  have hmk := fun wx => made67 len wx hlen
  go_enter Try.func26, Try.ntmps26
  go_wp2
  go_loopw [4] (fun i wr => ∃ k : Nat, k ≤ len ∧ i = .int .i64 k ∧ wr.rowIs w.heap.size 67 (len * 4) (conAt zs k) ∧ Below w.heap.size w wr ∧ wr.heap.size = w.heap.size + 1)
    (fun i _ => len - (intOf i).toNat)
  case atStart => exact ⟨0, Nat.zero_le _, rfl, made_con len w zs, (Below.refl _ _).alloc (Nat.le_refl _) _, by simp⟩
  case round =>
    obtain ⟨k, hk, rfl, hrow, hbel, hsz⟩ := hrel
    by_cases hlt : k < len
    · have hb1 := hb (by omega)
      have hcell : wr.cell? ⟨b, off + k, none⟩ = some (.int .i64 (zs.getD k 0)) := (hbel.cell (by exact hb1)).trans (hc k hlt)
      have hcw : wr.cell? ⟨w.heap.size, k * 4 + 3, none⟩ = some (conAt zs k (k * 4 + 3)) := hrow.cell (by omega)
      have hfw := hrow.frozen (k * 4 + 3)
      have R := (hrow.set (k * 4 + 3) (.int .i64 (zs.getD k 0))).congr (g := conAt zs (k + 1)) (fun j hj => by
        by_cases e : j = k * 4 + 3
        · subst e; simp [conAt, show (k * 4 + 3) % 4 = 3 by omega, show (k * 4 + 3) / 4 = k by omega]
        · have : j % 4 = 3 → j / 4 ≠ k := by omega
          simp only [e, if_false]
          unfold conAt
          split
          · rfl
          · split
            · rename_i h3
              have := this h3
              have e2 : (j / 4 < k) ↔ (j / 4 < k + 1) := by omega
              simp only [e2]
            · rfl)
      have HR : Hid _ := R
      have HB : Hid _ := hbel.setCell (p := ⟨w.heap.size, k * 4 + 3, none⟩) (Nat.le_refl _) (.int .i64 (zs.getD k 0))
      clear R hbel hrow
      go_wp2
      go_roundw
      case rel => exact ⟨k + 1, by omega, by go_num, HR.out, HB.out, by simp [hsz]⟩
      case measure => simp [intOf]; omega
    · have hkl : k = len := by omega
      have HR : Hid _ := hrow
      have HB : Hid _ := hbel
      clear hrow hbel
      go_wp2
      go_ret
      exact ⟨rfl, World.rowIs.congr HR.out (fun j hj => by rw [hkl]), HB.out, hsz⟩

theorem sum_take (zs : List Int) (k : Nat) (h : k < zs.length) : (zs.take (k + 1)).sum = (zs.take k).sum + zs[k]?.getD 0 := by
  rw [List.take_succ_eq_append_getElem h, List.sum_append]
  simp [h]

theorem sum_bd (zs : List Int) (hz : ∀ z ∈ zs, 0 ≤ z ∧ z ≤ 4294967296) : ∀ k, k ≤ zs.length → 0 ≤ (zs.take k).sum ∧ (zs.take k).sum ≤ k * 4294967296 := by
  intro k
  induction k with
  | zero => intro _; simp
  | succ k ih =>
    intro hk
    have h1 := ih (by omega)
    rw [sum_take zs k (by omega)]
    have h2 := hz zs[k] (List.getElem_mem _)
    have h3 : zs[k]?.getD 0 = zs[k] := by simp [show k < zs.length by omega]
    omega

set_option maxHeartbeats 800000 in
theorem capacity_any (p g n c m : Nat) (xs cs : List Int) (w : World) (r : Nat) (hn : xs.length = n) (hn2 : n ≤ 131072) (hm : cs.length = m) (hm2 : m ≤ 131072)
    (ha : ∀ z ∈ xs, 0 ≤ z ∧ z ≤ 4294967296) (hcs : ∀ z ∈ cs, 0 ≤ z ∧ z ≤ 4294967296)
    (hrow : w.rowIs g 67 (n * 4) (conAt xs n)) (hrc : w.rowIs c 2 m (fun i => .int .i64 (cs.getD i 0)))
    (hp2 : w.cell? ⟨p, 2, none⟩ = some (.slice (some ⟨c, 0, none⟩) m m)) (hpl : p < w.heap.size)
    (hq : floatBits .quo .f64 (floatOfInt .f64 xs.sum) (floatOfInt .f64 cs.sum) = some r) :
    Calls Try.prog 34 #[.pointer (some ⟨p, 0, none⟩), .slice (some ⟨g, 0, none⟩) n n] w fun e w' => e = .returned (.float .f64 r) ∧ Below w.heap.size w w' := by
  have HQ : Hid _ := hq
  clear hq
  go_enter Try.func34, Try.ntmps34
  go_wp2
  go_loopw [5, 13] (fun s i wr => ∃ k : Nat, k ≤ n ∧ i = .int .i64 k ∧ s = .int .i64 (xs.take k).sum ∧ Below w.heap.size w wr)
    (fun _ i _ => n - (intOf i).toNat)
  case atStart => exact ⟨0, Nat.zero_le _, rfl, rfl, Below.refl _ _⟩
  case round =>
    obtain ⟨k, hk, rfl, rfl, hbel⟩ := hrel
    have hs1 := sum_bd xs ha k (by omega)
    by_cases hlt : k < n
    · obtain ⟨x, hx⟩ : ∃ x, xs[k]?.getD 0 = x := ⟨_, rfl⟩
      have HS : Hid _ := sum_take xs k (by omega)
      rw [hx] at HS
      have hrw := hrow.of_block (hbel.block g hrow.lt)
      have c0 : wr.cell? ⟨g, k * 4, none⟩ = some (.string ByteArray.empty) := by rw [hrw.cell (by omega)]; simp [conAt]
      have c1 : wr.cell? ⟨g, k * 4 + 1, none⟩ = some (.int .i64 0) := by rw [hrw.cell (by omega)]; simp [conAt, show (k * 4 + 1) % 4 = 1 by omega]
      have c2 : wr.cell? ⟨g, k * 4 + 2, none⟩ = some (.int .i64 0) := by rw [hrw.cell (by omega)]; simp [conAt, show (k * 4 + 2) % 4 = 2 by omega]
      have c3 : wr.cell? ⟨g, k * 4 + 3, none⟩ = some (.int .i64 x) := by rw [hrw.cell (by omega)]; simp [conAt, show (k * 4 + 3) % 4 = 3 by omega, show (k * 4 + 3) / 4 = k by omega, hlt, hx]
      have hb1 := ha xs[k] (List.getElem_mem _)
      have hb2 : xs[k] = x := by rw [← hx]; simp [show k < xs.length by omega]
      rw [hb2] at hb1
      have HB : Hid _ := hbel
      clear hrw hbel hb2 hx hrow hrc
      go_wp2
      go_roundw
      case rel => exact ⟨k + 1, by omega, by go_num, val_int HS.out.symm, HB.out.alloc HB.out.size _⟩
      case measure => simp [intOf]; omega
    · have hkn : k = n := by omega
      have HA : Hid ((xs.take k).sum = xs.sum) := by rw [hkn, ← hn, List.take_length]; exact rfl
      have hp2' : wr.cell? ⟨p, 2, none⟩ = some (.slice (some ⟨c, 0, none⟩) m m) := (hbel.cell (by exact hpl)).trans hp2
      have hcl := hrc.lt
      have HB : Hid _ := hbel
      have hrc' := hrc.of_block (hbel.block c hrc.lt)
      clear hbel hrow hrc hp2 hkn
      go_wp2
      go_loop [6, 27] (fun s i => ∃ k : Nat, k ≤ m ∧ i = .int .i64 k ∧ s = .int .i64 (cs.take k).sum)
        (fun _ i => m - (intOf i).toNat)
      case atStart => exact ⟨0, Nat.zero_le _, rfl, rfl⟩
      case round =>
        obtain ⟨l, hl, rfl, rfl⟩ := hrel
        have hs2 := sum_bd cs hcs l (by omega)
        by_cases hlt2 : l < m
        · obtain ⟨x, hx⟩ : ∃ x, cs[l]?.getD 0 = x := ⟨_, rfl⟩
          have HS : Hid _ := sum_take cs l (by omega)
          rw [hx] at HS
          have c0 : wr.cell? ⟨c, l, none⟩ = some (.int .i64 x) := by rw [hrc'.cell hlt2]; simp [hx]
          have hb1 := hcs cs[l] (List.getElem_mem _)
          have hb2 : cs[l] = x := by rw [← hx]; simp [show l < cs.length by omega]
          rw [hb2] at hb1
          clear hrc' hb2 hx
          go_wp2
          go_round
          case rel => exact ⟨l + 1, by omega, by go_num, val_int HS.out.symm⟩
          case measure => simp [intOf]; omega
        · have hlm : l = m := by omega
          have HC : Hid ((cs.take l).sum = cs.sum) := by rw [hlm, ← hm, List.take_length]; exact rfl
          have hrq := fun wx => run_float_arith (P := Try.prog) wx .quo 50 .f64 _ _ _ HQ.out
          rw [← HA.out, ← HC.out] at hrq
          clear hrc' hlm
          go_wp2
          go_ret
          exact ⟨rfl, HB.out⟩
end Go.Proofs.Qxb6000059a
