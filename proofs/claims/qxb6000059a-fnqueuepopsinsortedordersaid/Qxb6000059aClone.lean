/- cloneI64, cloneU8: at every slice. -/
import Derived.Test.Qxb6000059aProg
import Derived.WalkKit
import Derived.WalkSpells
import Derived.WalkLawsBesides
import Derived.Deep.OwnRows
import Derived.KernelRfl
namespace Go.Proofs.Qxb6000059a
open Go.RowKit
set_option linter.unusedVariables false
set_option linter.unusedSimpArgs false

/-- A slice of integers that came in. -/
def InRow (k : IntKind) (w : World) (a : Option Addr) (len cap : Nat) (zs : List Int) : Prop :=
  (a = none ∧ len = 0 ∧ cap = 0 ∧ zs = []) ∨
  ∃ x, a = some x ∧ len ≤ cap ∧ cap ≤ maxLen ∧ zs.length = cap ∧ (∀ i, i < zs.length → w.cell? (x.add i) = some (.int k (zs.getD i 0))) ∧ ∀ n ∈ zs, (Lit.int k n).wf = true

/-- What is read of a slice of the call's own: its elements. -/
def Rd (k : IntKind) (w : World) (lo : Nat) (a : Option Addr) (len : Nat) (zs : List Int) : Prop :=
  0 < len → ∃ b, a = some ⟨b, 0, none⟩ ∧ lo ≤ b ∧ b < w.heap.size ∧ ∀ i, i < len → w.cell? ⟨b, i, none⟩ = some (.int k (zs.getD i 0))

theorem Rd.below {k : IntKind} {w w' : World} {lo : Nat} {a : Option Addr} {len : Nat} {zs : List Int} (h : Rd k w lo a len zs) (hb : Below w.heap.size w w') : Rd k w' lo a len zs := by
  intro h0
  obtain ⟨b, h1, h2, h3, h4⟩ := h h0
  exact ⟨b, h1, h2, Nat.lt_of_lt_of_le h3 hb.size, fun i hi => (hb.cell (by exact h3)).trans (h4 i hi)⟩

theorem rd_row {k : IntKind} {w : World} {b t len : Nat} {zs : List Int} (h : w.rowIs b t len (fun i => .int k (zs.getD i 0))) : Rd k w b (some ⟨b, 0, none⟩) len zs :=
  fun _ => ⟨b, rfl, Nat.le_refl _, h.lt, fun i hi => h.cell hi⟩

theorem info2' : (Try.prog.info? 2).map (fun i => (i.zero, i.size, i.bytes)) = some (some (.int .i64 0), 1, 8) := by kernel_rfl
theorem info5 : (Try.prog.info? 5).map (fun i => (i.zero, i.size, i.bytes)) = some (some (.int .u8 0), 1, 1) := by kernel_rfl


theorem clone64_some (b off len cap : Nat) (zs : List Int) (w : World) (hlen : len ≤ 1048576) (hb : b < w.heap.size)
    (hc : ∀ i, i < len → w.cell? ⟨b, off + i, none⟩ = some (.int .i64 (zs.getD i 0))) :
    Calls Try.prog 9 #[.slice (some ⟨b, off, none⟩) len cap] w fun e w' => e = .returned (.slice (some ⟨w.heap.size, 0, none⟩) len len) ∧
      w'.rowIs w.heap.size 2 len (fun i => .int .i64 (zs.getD i 0)) ∧ Below w.heap.size w w' := by
  have hmk := run_make_row' (P := Try.prog) 22 2 (.int .i64 0) 8 Try.underlying22 info2' rfl .i64 .i64 len (by omega) (by omega)
  have hnil := fun wx a l c => Lib.run_eql_slice_nil (P := Try.prog) wx 22 2 a l c 0 0 Try.underlying22
  go_enter Try.func9, Try.ntmps9
  go_wp2
  go_loopw [4] (fun i wr => ∃ k : Nat, k ≤ len ∧ i = .int .i64 k ∧ wr.rowIs w.heap.size 2 len (fun j => .int .i64 (if j < k then zs.getD j 0 else 0)) ∧ Below w.heap.size w wr)
    (fun i _ => len - (intOf i).toNat)
  case atStart => exact ⟨0, Nat.zero_le _, rfl, (World.rowIs_made w (.int .i64 0) len 2).congr (fun i hi => by simp), (Below.refl _ _).alloc (Nat.le_refl _) _⟩
  case round =>
    obtain ⟨k, hk, rfl, hrow, hbel⟩ := hrel
    by_cases hlt : k < len
    · have hcell : wr.cell? ⟨b, off + k, none⟩ = some (.int .i64 (zs.getD k 0)) := (hbel.cell (by exact hb)).trans (hc k hlt)
      have hcw := hrow.cell hlt
      have hfw := hrow.frozen k
      have R := (hrow.set k (.int .i64 (zs.getD k 0))).congr (g := fun j => .int .i64 (if j < k + 1 then zs.getD j 0 else 0)) (fun j hj => by
        by_cases e : j = k
        · subst e; simp
        · by_cases e2 : j < k
          · simp [e, e2, show j < k + 1 by omega]
          · simp [e, e2, show ¬ j < k + 1 by omega])
      have HR : Hid _ := R
      have HB : Hid _ := hbel.setCell (p := ⟨w.heap.size, k, none⟩) (Nat.le_refl _) (.int .i64 (zs.getD k 0))
      clear R hbel hrow
      go_wp2
      go_roundw
      case rel => exact ⟨k + 1, by omega, by go_num, HR.out, HB.out⟩
      case measure => simp [intOf]; omega
    · have hkl : k = len := by omega
      have HR : Hid _ := hrow
      have HB : Hid _ := hbel
      clear hrow hbel
      go_wp2
      go_ret
      exact ⟨rfl, World.rowIs.congr HR.out (fun j hj => by simp [hkl, hj]), HB.out⟩

theorem clone64_empty (x : Addr) (cap : Nat) (w : World) :
    Calls Try.prog 9 #[.slice (some x) 0 cap] w fun e w' => e = .returned (.slice (some ⟨w.heap.size, 0, none⟩) 0 0) ∧ Below w.heap.size w w' := by
  have hmk := run_make_row' (P := Try.prog) 22 2 (.int .i64 0) 8 Try.underlying22 info2' rfl .i64 .i64 0 (by omega) (by omega)
  have hnil := fun wx a l c => Lib.run_eql_slice_nil (P := Try.prog) wx 22 2 a l c 0 0 Try.underlying22
  have e0 : ((0 : Nat) : Int) = 0 := rfl
  simp only [e0] at hmk
  clear e0
  go_enter Try.func9, Try.ntmps9
  go_wp2
  refine wp_loop_rounds 1 ?_
  rw [rounds_succ]
  go_wp2
  go_ret
  exact ⟨rfl, (Below.refl _ _).alloc (Nat.le_refl _) _⟩

theorem clone64_nil (w : World) : Calls Try.prog 9 #[.slice none 0 0] w fun e w' => e = .returned (.slice none 0 0) ∧ w = w' := by
  have hnil := fun wx a l c => Lib.run_eql_slice_nil (P := Try.prog) wx 22 2 a l c 0 0 Try.underlying22
  go_enter Try.func9, Try.ntmps9
  go_wp2
  go_ret
  exact ⟨rfl, rfl⟩

theorem clone64_gen (a : Option Addr) (len cap : Nat) (zs : List Int) (w : World) (hlen : len ≤ 1048576) (h : InRow .i64 w a len cap zs) :
    Calls Try.prog 9 #[.slice a len cap] w fun e w' => ∃ a' cap', e = .returned (.slice a' len cap') ∧ Rd .i64 w' w.heap.size a' len zs ∧ Below w.heap.size w w' := by
  rcases h with ⟨rfl, rfl, rfl, rfl⟩ | ⟨x, rfl, hlc, hcm, hzl, hcell, hwf⟩
  · refine (clone64_nil w).mono ?_
    rintro e w' ⟨rfl, rfl⟩
    exact ⟨none, 0, rfl, fun h => absurd h (by omega), Below.refl _ _⟩
  · by_cases h0 : len = 0
    · subst h0
      refine (clone64_empty x cap w).mono ?_
      rintro e w' ⟨rfl, hb⟩
      exact ⟨_, 0, rfl, fun h => absurd h (by omega), hb⟩
    · obtain ⟨b, off, rfl⟩ : ∃ b off, x = ⟨b, off, none⟩ := by
        obtain ⟨b, off, spot⟩ := x
        have hspot : spot = none := by simpa [Addr.add] using World.cell?_spot (hcell 0 (by omega))
        subst hspot
        exact ⟨b, off, rfl⟩
      have hc : ∀ i, i < len → w.cell? ⟨b, off + i, none⟩ = some (.int .i64 (zs.getD i 0)) := fun i hi => by
        have := hcell i (by omega)
        rwa [Addr.add_lit] at this
      refine (clone64_some b off len cap zs w hlen (World.block_lt_of_cell? w ⟨b, off + 0, none⟩ (hc 0 (by omega))) hc).mono ?_
      rintro e w' ⟨rfl, hrow, hb⟩
      exact ⟨_, len, rfl, rd_row hrow, hb⟩

theorem clone8_some (b off len cap : Nat) (zs : List Int) (w : World) (hlen : len ≤ 1048576) (hb : b < w.heap.size)
    (hc : ∀ i, i < len → w.cell? ⟨b, off + i, none⟩ = some (.int .u8 (zs.getD i 0))) :
    Calls Try.prog 10 #[.slice (some ⟨b, off, none⟩) len cap] w fun e w' => e = .returned (.slice (some ⟨w.heap.size, 0, none⟩) len len) ∧
      w'.rowIs w.heap.size 5 len (fun i => .int .u8 (zs.getD i 0)) ∧ Below w.heap.size w w' := by
  have hmk := run_make_row' (P := Try.prog) 23 5 (.int .u8 0) 1 Try.underlying23 info5 rfl .i64 .i64 len (by omega) (by omega)
  have hnil := fun wx a l c => Lib.run_eql_slice_nil (P := Try.prog) wx 23 5 a l c 0 0 Try.underlying23
  go_enter Try.func10, Try.ntmps10
  go_wp2
  go_loopw [4] (fun i wr => ∃ k : Nat, k ≤ len ∧ i = .int .i64 k ∧ wr.rowIs w.heap.size 5 len (fun j => .int .u8 (if j < k then zs.getD j 0 else 0)) ∧ Below w.heap.size w wr)
    (fun i _ => len - (intOf i).toNat)
  case atStart => exact ⟨0, Nat.zero_le _, rfl, (World.rowIs_made w (.int .u8 0) len 5).congr (fun i hi => by simp), (Below.refl _ _).alloc (Nat.le_refl _) _⟩
  case round =>
    obtain ⟨k, hk, rfl, hrow, hbel⟩ := hrel
    by_cases hlt : k < len
    · have hcell : wr.cell? ⟨b, off + k, none⟩ = some (.int .u8 (zs.getD k 0)) := (hbel.cell (by exact hb)).trans (hc k hlt)
      have hcw := hrow.cell hlt
      have hfw := hrow.frozen k
      have R := (hrow.set k (.int .u8 (zs.getD k 0))).congr (g := fun j => .int .u8 (if j < k + 1 then zs.getD j 0 else 0)) (fun j hj => by
        by_cases e : j = k
        · subst e; simp
        · by_cases e2 : j < k
          · simp [e, e2, show j < k + 1 by omega]
          · simp [e, e2, show ¬ j < k + 1 by omega])
      have HR : Hid _ := R
      have HB : Hid _ := hbel.setCell (p := ⟨w.heap.size, k, none⟩) (Nat.le_refl _) (.int .u8 (zs.getD k 0))
      clear R hbel hrow
      go_wp2
      go_roundw
      case rel => exact ⟨k + 1, by omega, by go_num, HR.out, HB.out⟩
      case measure => simp [intOf]; omega
    · have hkl : k = len := by omega
      have HR : Hid _ := hrow
      have HB : Hid _ := hbel
      clear hrow hbel
      go_wp2
      go_ret
      exact ⟨rfl, World.rowIs.congr HR.out (fun j hj => by simp [hkl, hj]), HB.out⟩

theorem clone8_empty (x : Addr) (cap : Nat) (w : World) :
    Calls Try.prog 10 #[.slice (some x) 0 cap] w fun e w' => e = .returned (.slice (some ⟨w.heap.size, 0, none⟩) 0 0) ∧ Below w.heap.size w w' := by
  have hmk := run_make_row' (P := Try.prog) 23 5 (.int .u8 0) 1 Try.underlying23 info5 rfl .i64 .i64 0 (by omega) (by omega)
  have hnil := fun wx a l c => Lib.run_eql_slice_nil (P := Try.prog) wx 23 5 a l c 0 0 Try.underlying23
  have e0 : ((0 : Nat) : Int) = 0 := rfl
  simp only [e0] at hmk
  clear e0
  go_enter Try.func10, Try.ntmps10
  go_wp2
  refine wp_loop_rounds 1 ?_
  rw [rounds_succ]
  go_wp2
  go_ret
  exact ⟨rfl, (Below.refl _ _).alloc (Nat.le_refl _) _⟩

theorem clone8_nil (w : World) : Calls Try.prog 10 #[.slice none 0 0] w fun e w' => e = .returned (.slice none 0 0) ∧ w = w' := by
  have hnil := fun wx a l c => Lib.run_eql_slice_nil (P := Try.prog) wx 23 5 a l c 0 0 Try.underlying23
  go_enter Try.func10, Try.ntmps10
  go_wp2
  go_ret
  exact ⟨rfl, rfl⟩

theorem clone8_gen (a : Option Addr) (len cap : Nat) (zs : List Int) (w : World) (hlen : len ≤ 1048576) (h : InRow .u8 w a len cap zs) :
    Calls Try.prog 10 #[.slice a len cap] w fun e w' => ∃ a' cap', e = .returned (.slice a' len cap') ∧ Rd .u8 w' w.heap.size a' len zs ∧ Below w.heap.size w w' := by
  rcases h with ⟨rfl, rfl, rfl, rfl⟩ | ⟨x, rfl, hlc, hcm, hzl, hcell, hwf⟩
  · refine (clone8_nil w).mono ?_
    rintro e w' ⟨rfl, rfl⟩
    exact ⟨none, 0, rfl, fun h => absurd h (by omega), Below.refl _ _⟩
  · by_cases h0 : len = 0
    · subst h0
      refine (clone8_empty x cap w).mono ?_
      rintro e w' ⟨rfl, hb⟩
      exact ⟨_, 0, rfl, fun h => absurd h (by omega), hb⟩
    · obtain ⟨b, off, rfl⟩ : ∃ b off, x = ⟨b, off, none⟩ := by
        obtain ⟨b, off, spot⟩ := x
        have hspot : spot = none := by simpa [Addr.add] using World.cell?_spot (hcell 0 (by omega))
        subst hspot
        exact ⟨b, off, rfl⟩
      have hc : ∀ i, i < len → w.cell? ⟨b, off + i, none⟩ = some (.int .u8 (zs.getD i 0)) := fun i hi => by
        have := hcell i (by omega)
        rwa [Addr.add_lit] at this
      refine (clone8_some b off len cap zs w hlen (World.block_lt_of_cell? w ⟨b, off + 0, none⟩ (hc 0 (by omega))) hc).mono ?_
      rintro e w' ⟨rfl, hrow, hb⟩
      exact ⟨_, len, rfl, rd_row hrow, hb⟩

end Go.Proofs.Qxb6000059a
