/- FnCapacityKCopies: its walk, at every input. -/
import Derived.Test.Qxb6000059aCapWalks
import Derived.Test.Qxb6000059aFloat
namespace Go.Proofs.Qxb6000059a
set_option linter.unusedVariables false
set_option linter.unusedSimpArgs false
open Go.RowKit

/-- The costs, K times over. -/
def repL (zs : List Int) : Nat → List Int
  | 0 => []
  | j + 1 => repL zs j ++ zs

theorem repL_length (zs : List Int) : ∀ j, (repL zs j).length = j * zs.length
  | 0 => by simp [repL]
  | j + 1 => by rw [repL, List.length_append, repL_length zs j, Nat.succ_mul]

theorem repL_sum (zs : List Int) : ∀ j : Nat, (repL zs j).sum = j * zs.sum
  | 0 => by simp [repL]
  | j + 1 => by rw [repL, List.sum_append, repL_sum zs j, Int.natCast_add, Int.add_mul]; simp

theorem repL_mem (zs : List Int) (p : Int → Prop) (h : ∀ z ∈ zs, p z) : ∀ j, ∀ z ∈ repL zs j, p z
  | 0 => by simp [repL]
  | j + 1 => by
    intro z hz
    rw [repL, List.mem_append] at hz
    rcases hz with hz | hz
    · exact repL_mem zs p h j z hz
    · exact h z hz

theorem sum_lo (zs : List Int) (h : ∀ z ∈ zs, 1 ≤ z) : (zs.length : Int) ≤ zs.sum := by
  induction zs with
  | nil => simp
  | cons z zs ih =>
    have h1 := h z (by simp)
    have h2 := ih (fun y hy => h y (by simp [hy]))
    simp only [List.length_cons, List.sum_cons]
    omega

theorem dom_mem (zs : List Int) (h : domB zs = true) : ∀ z ∈ zs, 1 ≤ z ∧ z ≤ 4294967296 := by
  unfold domB at h
  intro z hz
  have := List.all_eq_true.1 h z hz
  simpa using this

theorem quo_law (zs : List Int) (K : Nat) (hK : K ≤ 32) (h1 : 1 ≤ zs.length) (h2 : zs.length ≤ 65536) (h4 : zs.length * K ≤ 131072) (hz : ∀ z ∈ zs, 1 ≤ z ∧ z ≤ 4294967296) :
    floatBits .quo .f64 (floatOfInt .f64 (repL zs K).sum) (floatOfInt .f64 zs.sum) = some (floatOfInt .f64 (K : Int)) := by
  have hlo := sum_lo zs (fun z h => (hz z h).1)
  have hhi := (sum_bd zs (fun z h => ⟨by have := (hz z h).1; omega, (hz z h).2⟩) zs.length (Nat.le_refl _)).2
  rw [List.take_length] at hhi
  rw [repL_sum]
  obtain ⟨B, hB⟩ : ∃ B : Nat, zs.sum = (B : Int) := ⟨zs.sum.toNat, by omega⟩
  rw [hB] at hlo hhi ⊢
  rw [← Int.natCast_mul]
  have hB1 : B ≤ 281474976710656 := by omega
  have h5 : B ≤ zs.length * 4294967296 := by omega
  have h3 : K * B ≤ K * (zs.length * 4294967296) := Nat.mul_le_mul_left _ h5
  rw [← Nat.mul_assoc, Nat.mul_comm K zs.length] at h3
  exact cap_quo K B hK (by omega) (Nat.lt_of_le_of_lt hB1 (by decide)) (Nat.lt_of_le_of_lt (show K * B ≤ 9007199254740991 by omega) (by decide))

theorem own_row {w : World} {base g n cap : Nat} {xs : List Value} (h : w.ownsRow base 2 1 (.slice (some ⟨g, 0, none⟩) n cap) n xs) (j : Nat) (hj : j < n) : w.cell? ⟨g, j, none⟩ = xs[j]? := h.cellAt j (by omega)

structure Inv (w wr : World) (n C : Nat) (zs l : List Int) : Prop where
  own : wr.ownsRow (w.heap.size + 1) 2 1 (.slice (some ⟨w.heap.size + 1, 0, none⟩) l.length C) l.length (l.map (Value.int .i64))
  row : wr.rowIs w.heap.size 2 n (fun i => .int .i64 (zs.getD i 0))
  bel : Below w.heap.size w wr
  siz : w.heap.size + 2 ≤ wr.heap.size

theorem inv_start {w w1 w2 : World} {n C : Nat} {zs : List Int} (hrow : w1.rowIs w.heap.size 2 n (fun i => .int .i64 (zs.getD i 0))) (hbel : Below w.heap.size w w1) (hsz : w1.heap.size = w.heap.size + 1)
    (hown : w2.ownsRow (w.heap.size + 1) 2 1 (.slice (some ⟨w.heap.size + 1, 0, none⟩) 0 C) 0 []) (hgrow : w1.grownBy w2 none) : Inv w w2 n C zs [] := by
  refine ⟨hown, hrow.of_block (hgrow.block _ hrow.lt (by simp)), hbel.grown hgrow (by omega) (by simp), ?_⟩
  have := hown.lt (w.heap.size + 1) rfl
  omega

theorem inv_step {w wr w2 : World} {n C : Nat} {zs l : List Int} {o : Obj} {x : Int} (h : Inv w wr n C zs l)
    (hown : w2.ownsRow (w.heap.size + 1) 2 1 (.slice (some ⟨w.heap.size + 1, 0, none⟩) (l.length + 1) C) (l.length + 1) (l.map (Value.int .i64) ++ [.int .i64 x]))
    (hgrow : (wr.alloc o).grownBy w2 (some (w.heap.size + 1))) : Inv w w2 n C zs (l ++ [x]) := by
  have hs := h.siz
  refine ⟨?_, ?_, ?_, ?_⟩
  · simpa using hown
  · have := h.row.alloc o
    exact this.of_block (hgrow.block _ this.lt (by simp))
  · exact (h.bel.alloc (by omega) o).grown hgrow (by simp; omega) (by simp)
  · have := hgrow.size
    simp at this
    omega

theorem mul_step {j K n i : Nat} (hj : j < K) (hi : i < n) : j * n + i + 1 ≤ n * K := by
  have h : (j + 1) * n ≤ K * n := Nat.mul_le_mul_right _ hj
  rw [Nat.succ_mul] at h
  rw [Nat.mul_comm n K]
  omega

theorem take_snoc' (zs : List Int) (i : Nat) (h : i < zs.length) (x : Int) (hx : zs.getD i 0 = x) : zs.take (i + 1) = zs.take i ++ [x] := by
  rw [List.take_succ_eq_append_getElem h]
  simp [← hx, h]

set_option maxHeartbeats 2000000 in
theorem kmain (b off n cap K : Nat) (zs : List Int) (w : World) (hn1 : 1 ≤ n) (hn2 : n ≤ 65536) (hK : K ≤ 32) (hnK : n * K ≤ 131072) (hz : zs.length = n) (hdom : domB zs = true) (hb : b < w.heap.size)
    (hc : ∀ i, i < n → w.cell? ⟨b, off + i, none⟩ = some (.int .i64 (zs.getD i 0))) :
    Calls Try.prog 5 #[.slice (some ⟨b, off, none⟩) n cap, .int .i64 K] w fun e w' => e = .returned (.bool true) ∧ Below w.heap.size w w' := by
  have hmem := dom_mem zs hdom
  have HQ : Hid _ := quo_law zs K hK (by omega) (by omega) (by rw [hz]; exact hnK) hmem
  have hnK0 : (0 : Int) ≤ (n : Int) * (K : Int) := by rw [← Int.natCast_mul]; omega
  have hnK1 : (n : Int) * (K : Int) ≤ 131072 := by rw [← Int.natCast_mul]; omega
  have HM : Hid (∀ z ∈ zs, 1 ≤ z ∧ z ≤ 4294967296) := hmem
  clear hmem
  have HC : Hid (∀ i, i < n → w.cell? ⟨b, off + i, none⟩ = some (.int .i64 (zs.getD i 0))) := hc
  clear hc
  have HI := indom_any b off n cap zs w (by omega) (by omega) HC.out
  rw [← hz, List.take_length, hdom, hz] at HI
  obtain ⟨i2, hi2, hz0, hz1, hz2⟩ := info_parts info2
  go_enter Try.func5, Try.ntmps5
  go_wp2_with (first
    | (go_at_call 23; refine HI.mono ?_; rintro e w' ⟨rfl, rfl⟩)
    | (go_at_call 9; refine (clone_any b off n cap zs _ (by omega) (fun _ => hb) HC.out).mono ?_; rintro e w1 ⟨rfl, hrow, hbel, hsz⟩)
    | (at_make; refine wpList_make_own _ rfl _ _ 22 rfl (w.heap.size + 1) 2 i2 (.int .i64 0) 1 Try.underlying22 hi2 hz0 hz1 .i64 .i64 _ (n * K) rfl rfl (by simp) (by rw [hz2]; omega) (by unfold maxLen; omega) (by omega) ?_; intro w2 hown hgrow)
    | go_in)
  rw [hsz] at hown
  have hinv : Inv w w2 n (n * K) zs [] := inv_start hrow hbel hsz hown hgrow
  clear hrow hbel hsz hown hgrow HI
  go_loopw [5, 6] (fun v i wr => ∃ (j : Nat) (l : List Int), j ≤ K ∧ i = .int .i64 j ∧ v = .slice (some ⟨w.heap.size + 1, 0, none⟩) l.length (n * K) ∧ Hid (l = repL zs j) ∧ Inv w wr n (n * K) zs l)
    (fun _ i _ => K - (intOf i).toNat)
  case atStart => exact ⟨0, [], Nat.zero_le _, rfl, rfl, rfl, hinv⟩
  case round =>
    clear hinv
    obtain ⟨j, l, hj, rfl, rfl, HL, hinv⟩ := hrel
    by_cases hjK : j < K
    · go_wp2
      go_loopw [5, 7] (fun v i wr => ∃ (q : Nat) (l : List Int), q ≤ n ∧ i = .int .i64 q ∧ v = .slice (some ⟨w.heap.size + 1, 0, none⟩) l.length (n * K) ∧ Hid (l = repL zs j ++ zs.take q) ∧ Inv w wr n (n * K) zs l)
        (fun _ i _ => n - (intOf i).toNat)
      case atStart => exact ⟨0, l, Nat.zero_le _, rfl, rfl, by have := HL.out; show l = _; simp [this], hinv⟩
      case round =>
        clear hinv HL
        obtain ⟨q, l', hq, rfl, rfl, HL, hinv⟩ := hrel
        by_cases hqn : q < n
        · have hms := mul_step hjK hqn
          have hll : l'.length + 1 ≤ n * K := by rw [HL.out, List.length_append, repL_length, hz, List.length_take]; omega
          obtain ⟨x, hx⟩ : ∃ x, zs.getD q 0 = x := ⟨_, rfl⟩
          have hcell : wr.cell? ⟨w.heap.size, q, none⟩ = some (.int .i64 x) := by rw [hinv.row.cell hqn, hx]
          have hown := hinv.own
          have HX : Hid _ := take_snoc' zs q (by omega) x hx
          clear hx
          go_wp2_with (first
            | (at_builtin; refine wpList_append_fits _ rfl _ _ 22 rfl (w.heap.size + 1) 2 i2 1 Try.underlying22 hi2 hz1 (w.heap.size + 1) l'.length (n * K) _ rfl (hown.alloc _) ⟨wr.heap.size, 0, none⟩ 1 1 [.int .i64 x] rfl rfl (cell_one_new _ _ _) (ints_oneCell .i64 [x]) hll ?_; intro w3 hown3 hgrow3)
            | go_in)
          have hinv' := inv_step hinv hown3 hgrow3
          clear hinv hown hown3 hgrow3 hcell
          go_roundw
          case rel => exact ⟨q + 1, l' ++ [x], by omega, by go_num, by simp, by show l' ++ [x] = _; rw [HX.out, ← List.append_assoc, HL.out], hinv'⟩
          case measure => simp [intOf]; omega
        · have hqe : q = n := by omega
          have HL2 : Hid (l' = repL zs (j + 1)) := by show l' = repL zs j ++ zs; rw [HL.out, List.take_of_length_le (by omega)]
          clear hqe HL
          go_wp2
          go_roundw
          case rel => exact ⟨j + 1, l', by omega, by go_num, rfl, HL2, hinv⟩
          case measure => simp [intOf]; omega
    · have hje : j = K := by omega
      have HL2 : Hid (l = repL zs K) := by rw [← hje]; exact HL
      clear hje HL
      have hll : l.length ≤ 131072 := by rw [HL2.out, repL_length, hz, Nat.mul_comm]; exact hnK
      have hs := hinv.siz
      have hcl : ∀ i, i < l.length → wr.cell? ⟨w.heap.size + 1, 0 + i, none⟩ = some (.int .i64 (l.getD i 0)) := by
        intro i hi
        rw [Nat.zero_add, own_row hinv.own i hi]
        simp [hi]
      have HCL : Hid _ := hcl
      clear hcl
      have hlm : ∀ z ∈ l, 0 ≤ z ∧ z ≤ 4294967296 := by
        rw [HL2.out]
        exact repL_mem zs _ (fun z h => ⟨by have := (HM.out z h).1; omega, (HM.out z h).2⟩) K
      have HLM : Hid _ := hlm
      clear hlm
      go_wp2_with (first
        | (go_at_call 26; refine (contr_any (w.heap.size + 1) 0 l.length (n * K) l _ (by omega) ?_ ?_).mono ?_)
        | go_in)
      · intro _; simp; omega
      · intro i hi
        rw [World.cell?_alloc_lt _ _ _ (by show w.heap.size + 1 < _; omega)]
        exact HCL.out i hi
      · rintro e w4 ⟨rfl, hcon, hbel4, hsz4⟩
        have hr4 := (hinv.row.alloc (.cells #[.int .i64 0, .slice none 0 0, .slice (some ⟨w.heap.size, 0, none⟩) n n] 65))
        have hr5 := hr4.of_block (hbel4.block _ hr4.lt)
        have hp5 : w4.cell? ⟨wr.heap.size, 2, none⟩ = some (.slice (some ⟨w.heap.size, 0, none⟩) n n) := by
          rw [hbel4.cell (by simp)]
          simp
        have hbl4 : Below w.heap.size w w4 := (hinv.bel.alloc (by omega) _).trans (hbel4.mono (by simp; omega))
        have HB4 : Hid _ := hbl4
        rw [World.size_alloc] at hsz4 hcon
        have hq := HQ.out
        rw [← HL2.out] at hq
        have HCP := capacity_any wr.heap.size (wr.heap.size + 1) l.length w.heap.size n l zs w4 _ rfl hll hz (by omega) HLM.out (fun z h => ⟨by have := (HM.out z h).1; omega, (HM.out z h).2⟩) hcon hr5 hp5 (by omega) hq
        clear hr4 hr5 hp5 hbl4 hcon hbel4 hinv hq
        simp only [World.size_alloc]
        go_wp2_with (first
          | (go_at_call 34; refine HCP.mono ?_; rintro e w5 ⟨rfl, hbel5⟩)
          | go_in)
        go_ret
        exact ⟨ret_bool (by rw [order_self K hK]; rfl), HB4.out.trans (hbel5.mono (by omega))⟩
end Go.Proofs.Qxb6000059a
