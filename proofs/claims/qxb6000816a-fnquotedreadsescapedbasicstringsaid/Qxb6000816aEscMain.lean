/- 'zzEscapeBasic', FnQuotedReadsEscapedBasicString: their walks. -/
import Derived.Test.Qxb6000816aLitMain
import Derived.Deep.OwnRows
import Derived.Laws.BytesArg
namespace Go.Proofs.Qxb6000816a
open Go.RowKit
set_option linter.unusedVariables false
set_option linter.unusedSimpArgs false

theorem Below.trans2 {a b c : World} (h : Below a.heap.size a b) (k : Below b.heap.size b c) : Below a.heap.size a c :=
  ⟨k.os.trans h.os, k.tape.trans h.tape, k.output.trans h.output, Nat.le_trans h.size k.size, fun i hi => by rw [k.block i (Nat.lt_of_lt_of_le hi h.size), h.block i hi]⟩
theorem info5 : (Try.prog.info? 5).map (fun i => (i.zero, i.size, i.bytes)) = some (some (.int .u8 0), 1, 1) := by kernel_rfl
def toI (u : UInt8) : Int := (u.toNat : Int)
theorem encL_append : ∀ xs ys, encL (xs ++ ys) = encL xs ++ encL ys
  | [], ys => rfl
  | x :: xs, ys => by
    rw [List.cons_append, encL_cons, encL_cons, encL_append xs ys]
    split <;> rfl
theorem encL_len : ∀ xs, (encL xs).length ≤ 2 * xs.length
  | [] => Nat.le_refl _
  | x :: xs => by
    have := encL_len xs
    rw [encL_cons, List.length_cons]
    split
    · rw [List.length_cons, List.length_cons]; omega
    · rw [List.length_cons]; omega

/-- What stands in the buffer with p bytes read. -/
def buf (c : ByteArray) (p : Nat) : List Int := 34 :: (encL (c.data.toList.take p)).map toI
theorem buf_zero (c : ByteArray) : buf c 0 = [34] := rfl
theorem take_one (c : ByteArray) (p : Nat) (h : p < c.size) : ∃ u : UInt8, c.data.toList.take (p + 1) = c.data.toList.take p ++ [u] ∧ toI u = byteAt c p := by
  have hl : p < c.data.toList.length := by simpa using h
  refine ⟨c.data.toList[p], List.take_succ_eq_append_getElem hl, ?_⟩
  unfold toI byteAt
  rw [List.getD_eq_getElem?_getD, List.getElem?_eq_getElem hl]
  rfl
theorem buf_esc (c : ByteArray) (p : Nat) (h : p < c.size) (x : Int) (hx : byteAt c p = x) (he : x = 34 ∨ x = 92) : buf c (p + 1) = buf c p ++ [92] ++ [x] := by
  obtain ⟨u, hu, hb⟩ := take_one c p h
  unfold buf
  have h2 : u = 34 ∨ u = 92 := by
    rw [hx] at hb
    unfold toI at hb
    rcases he with rfl | rfl
    · exact .inl (UInt8.toNat_inj.mp (Int.ofNat.inj hb))
    · exact .inr (UInt8.toNat_inj.mp (Int.ofNat.inj hb))
  rw [hu, encL_append, encL_cons, if_pos h2, List.map_append, show encL [] = [] from rfl, List.map_cons, List.map_cons, hb, hx, List.map_nil, show toI 92 = 92 from rfl]
  simp
theorem buf_one (c : ByteArray) (p : Nat) (h : p < c.size) (x : Int) (hx : byteAt c p = x) (he : ¬ (x = 34 ∨ x = 92)) : buf c (p + 1) = buf c p ++ [x] := by
  obtain ⟨u, hu, hb⟩ := take_one c p h
  unfold buf
  have h2 : ¬ (u = 34 ∨ u = 92) := by
    rw [hx] at hb
    rintro (rfl | rfl)
    · exact he (.inl hb.symm)
    · exact he (.inr hb.symm)
  rw [hu, encL_append, encL_cons, if_neg h2, List.map_append, show encL [] = [] from rfl, List.map_cons, hb, hx, List.map_nil]
  simp
theorem buf_len (c : ByteArray) (p : Nat) : (buf c p).length ≤ 2 * p + 1 := by
  unfold buf
  have h1 := encL_len (c.data.toList.take p)
  have h2 : (c.data.toList.take p).length ≤ p := List.length_take_le _ _
  rw [List.length_cons, List.length_map]
  omega

structure EI (w wr : World) (C : Nat) (l : List Int) : Prop where
  own : wr.ownsRow w.heap.size 5 1 (.slice (some ⟨w.heap.size, 0, none⟩) l.length C) l.length (l.map (Value.int .u8))
  bel : Below w.heap.size w wr
  siz : w.heap.size + 1 ≤ wr.heap.size
theorem ei_start {w w2 : World} {C : Nat} (hown : w2.ownsRow w.heap.size 5 1 (.slice (some ⟨w.heap.size, 0, none⟩) 0 C) 0 []) (hgrow : w.grownBy w2 none) : EI w w2 C [] := by
  refine ⟨hown, (Below.refl _ _).grown hgrow (Nat.le_refl _) (by simp), ?_⟩
  have := hown.lt w.heap.size rfl
  omega
theorem ei_step {w wr w2 : World} {C : Nat} {l : List Int} {o : Obj} {x : Int} (h : EI w wr C l)
    (hown : w2.ownsRow w.heap.size 5 1 (.slice (some ⟨w.heap.size, 0, none⟩) (l.length + 1) C) (l.length + 1) (l.map (Value.int .u8) ++ [.int .u8 x]))
    (hgrow : (wr.alloc o).grownBy w2 (some w.heap.size)) : EI w w2 C (l ++ [x]) := by
  have hs := h.siz
  refine ⟨?_, ?_, ?_⟩
  · simpa using hown
  · exact (h.bel.alloc (by omega) o).grown hgrow (by simp; omega) (by simp)
  · have := hgrow.size
    simp at this
    omega
theorem ei_step2 {w wr w2 w3 : World} {C : Nat} {l : List Int} {o o2 : Obj} {x y : Int} (h : EI w wr C l) (hgrow : (wr.alloc o).grownBy w2 (some w.heap.size))
    (hown : w3.ownsRow w.heap.size 5 1 (.slice (some ⟨w.heap.size, 0, none⟩) (l.length + 1 + 1) C) (l.length + 1 + 1) (l.map (Value.int .u8) ++ [.int .u8 x] ++ [.int .u8 y]))
    (hgrow2 : (w2.alloc o2).grownBy w3 (some w.heap.size)) : EI w w3 C (l ++ [x] ++ [y]) := by
  have hs := h.siz
  have h1 := hgrow.size
  simp at h1
  refine ⟨?_, ?_, ?_⟩
  · simpa using hown
  · exact (((h.bel.alloc (by omega) o).grown hgrow (by simp; omega) (by simp)).alloc (by omega) o2).grown hgrow2 (by simp; omega) (by simp)
  · have := hgrow2.size
    simp at this
    omega
theorem ei_str {w wr : World} {C : Nat} {l : List Int} (h : EI w wr C l) : (convert 38 9 (.slice (some ⟨w.heap.size, 0, none⟩) l.length C)).run Try.prog wr = .ok (.string (strOfNums l)) wr := by
  refine run_convert_bytes_arg wr 38 5 Try.underlying38 Try.underlying5 w.heap.size 0 l.length C l rfl (fun i hi => ?_) 9 Try.underlying9
  rw [Nat.zero_add, h.own.cellAt i (by omega)]
  simp [hi]

/-- What it returns: a quote, the text escaped, a quote. -/
def EncOf (c E : ByteArray) : Prop := E = strOfNums (buf c c.size ++ [34])
def RetS (e : Ending) (R : ByteArray → Prop) : Prop := ∃ b, e = .returned (.string b) ∧ R b

set_option maxHeartbeats 4000000 in
theorem enc_any (c : ByteArray) (w : World) (hs : c.size ≤ 262144) :
    Calls Try.prog 20 #[.string c] w fun e w' => RetS e (EncOf c) ∧ Below w.heap.size w w' := by
  obtain ⟨i5, hi5, hz0, hz1, hz2⟩ := info_parts info5
  go_enter Try.func20, Try.ntmps20
  go_wp2_with (first
    | (at_make; refine wpList_make_own _ rfl _ _ 38 rfl w.heap.size 5 i5 (.int .u8 0) 1 Try.underlying38 hi5 hz0 hz1 .i64 .i64 _ (2 * c.size + 2) rfl rfl (by simp) (by rw [hz2]; omega) (by unfold maxLen; omega) (Nat.le_refl _) ?_; intro w1 hown hgrow; have E0 : EI w w1 (2 * c.size + 2) [] := ei_start hown hgrow; clear hown hgrow)
    | (at_builtin; refine wpList_append_fits _ rfl _ _ 38 rfl w.heap.size 5 i5 1 Try.underlying38 hi5 hz1 w.heap.size ([] : List Int).length (2 * c.size + 2) _ rfl (E0.own.alloc _) ⟨w1.heap.size, 0, none⟩ 1 1 [.int .u8 34] rfl rfl (cell_one_new _ _ _) (ints_oneCell .u8 [34]) (by simp) ?_; intro w2 hown hgrow; have E1 : EI w w2 (2 * c.size + 2) (([] : List Int) ++ [34]) := ei_step E0 hown hgrow; clear hown hgrow)
    | fail)
  have E2 : Hid (EI w w2 (2 * c.size + 2) (buf c 0)) := E1
  clear E0 E1
  go_loopw [3, 4] (fun v i wr => ∃ (p : Nat) (l : List Int), p ≤ c.size ∧ i = .int .i64 p ∧ v = .slice (some ⟨w.heap.size, 0, none⟩) l.length (2 * c.size + 2) ∧ Hid (l = buf c p) ∧ EI w wr (2 * c.size + 2) l)
    (fun _ i _ => c.size - (intOf i).toNat)
  case atStart => exact ⟨0, buf c 0, Nat.zero_le _, rfl, rfl, rfl, E2⟩
  case round =>
    clear E2
    obtain ⟨p, l, hp, rfl, rfl, HL, hE⟩ := hrel
    have hll : l.length ≤ 2 * p + 1 := by rw [HL.out]; exact buf_len c p
    by_cases hlt : p < c.size
    · have hbe := byteAt_eq c p hlt
      obtain ⟨x, hx⟩ : ∃ x, byteAt c p = x := ⟨_, rfl⟩
      rw [hx] at hbe
      have HX : Hid _ := hx
      clear hx
      by_cases h34 : x = 34
      · subst h34
        go_wp2_with (first
          | (at_builtin; refine wpList_append_fits _ rfl _ _ 38 rfl w.heap.size 5 i5 1 Try.underlying38 hi5 hz1 w.heap.size l.length (2 * c.size + 2) _ rfl (hE.own.alloc _) ⟨wr.heap.size, 0, none⟩ 1 1 [.int .u8 92] rfl rfl (cell_one_new _ _ _) (ints_oneCell .u8 [92]) (by omega) ?_; intro w3 hown3 hgrow3)
          | (at_builtin; refine wpList_append_fits _ rfl _ _ 38 rfl w.heap.size 5 i5 1 Try.underlying38 hi5 hz1 w.heap.size (l.length + 1) (2 * c.size + 2) _ rfl (hown3.alloc _) ⟨w3.heap.size, 0, none⟩ 1 1 [.int .u8 34] rfl rfl (cell_one_new _ _ _) (ints_oneCell .u8 [34]) (by omega) ?_; intro w4 hown4 hgrow4; have hE4 := ei_step2 hE hgrow3 hown4 hgrow4; clear hown3 hgrow3 hown4 hgrow4))
        have HB : Hid _ := buf_esc c p hlt 34 HX.out (.inl rfl)
        clear hE
        go_roundw
        case rel => exact ⟨p + 1, l ++ [92] ++ [34], by omega, by go_num, by simp, by rw [HL.out]; exact HB.out.symm, hE4⟩
        case measure => simp [intOf]; omega
      · have g34 : (x == 34) = false := beq_false_of_ne h34
        by_cases h92 : x = 92
        · subst h92
          go_wp2_with (first
            | (at_builtin; refine wpList_append_fits _ rfl _ _ 38 rfl w.heap.size 5 i5 1 Try.underlying38 hi5 hz1 w.heap.size l.length (2 * c.size + 2) _ rfl (hE.own.alloc _) ⟨wr.heap.size, 0, none⟩ 1 1 [.int .u8 92] rfl rfl (cell_one_new _ _ _) (ints_oneCell .u8 [92]) (by omega) ?_; intro w3 hown3 hgrow3)
            | (at_builtin; refine wpList_append_fits _ rfl _ _ 38 rfl w.heap.size 5 i5 1 Try.underlying38 hi5 hz1 w.heap.size (l.length + 1) (2 * c.size + 2) _ rfl (hown3.alloc _) ⟨w3.heap.size, 0, none⟩ 1 1 [.int .u8 92] rfl rfl (cell_one_new _ _ _) (ints_oneCell .u8 [92]) (by omega) ?_; intro w4 hown4 hgrow4; have hE4 := ei_step2 hE hgrow3 hown4 hgrow4; clear hown3 hgrow3 hown4 hgrow4))
          have HB : Hid _ := buf_esc c p hlt 92 HX.out (.inr rfl)
          clear hE
          go_roundw
          case rel => exact ⟨p + 1, l ++ [92] ++ [92], by omega, by go_num, by simp, by rw [HL.out]; exact HB.out.symm, hE4⟩
          case measure => simp [intOf]; omega
        · have g92 : (x == 92) = false := beq_false_of_ne h92
          go_wp2_with (first
            | (at_builtin; refine wpList_append_fits _ rfl _ _ 38 rfl w.heap.size 5 i5 1 Try.underlying38 hi5 hz1 w.heap.size l.length (2 * c.size + 2) _ rfl (hE.own.alloc _) ⟨wr.heap.size, 0, none⟩ 1 1 [.int .u8 x] rfl rfl (cell_one_new _ _ _) (ints_oneCell .u8 [x]) (by omega) ?_; intro w3 hown hgrow; have hE3 : EI w w3 (2 * c.size + 2) (l ++ [x]) := ei_step hE hown hgrow; clear hown hgrow))
          have HB : Hid _ := buf_one c p hlt x HX.out (by rintro (h | h); exact h34 h; exact h92 h)
          clear hE
          go_roundw
          case rel => exact ⟨p + 1, l ++ [x], by omega, by go_num, by simp, by rw [HL.out]; exact HB.out.symm, hE3⟩
          case measure => simp [intOf]; omega
    · have hpe : p = c.size := by omega
      have HL2 : Hid (l = buf c c.size) := by rw [← hpe]; exact HL
      have hge : (c.size : Int) ≤ (p : Int) := by omega
      clear hpe HL
      go_wp2_with (first
        | (at_builtin; refine wpList_append_fits _ rfl _ _ 38 rfl w.heap.size 5 i5 1 Try.underlying38 hi5 hz1 w.heap.size l.length (2 * c.size + 2) _ rfl (hE.own.alloc _) ⟨wr.heap.size, 0, none⟩ 1 1 [.int .u8 34] rfl rfl (cell_one_new _ _ _) (ints_oneCell .u8 [34]) (by omega) ?_; intro w3 hown hgrow; have hE3 : EI w w3 (2 * c.size + 2) (l ++ [34]) := ei_step hE hown hgrow; clear hown hgrow; have HCV := ei_str hE3; rw [List.length_append, show [(34 : Int)].length = 1 from rfl] at HCV)
        | fail)
      go_ret
      exact ⟨⟨_, rfl, by rw [HL2.out]; rfl⟩, hE3.bel⟩

theorem enc_data {c E : ByteArray} (h : EncOf c E) : E.data.toList = 34 :: (encL c.data.toList ++ [34]) := by
  unfold EncOf at h
  have ht : c.data.toList.take c.size = c.data.toList := List.take_of_length_le (by simp)
  have hm : ∀ l : List UInt8, (l.map toI).map (fun n => UInt8.ofNat n.toNat) = l := by
    intro l
    induction l with
    | nil => rfl
    | cons u l ih =>
      rw [List.map_cons, List.map_cons, ih]
      congr 1
      unfold toI
      rw [Int.toNat_natCast]
      exact UInt8.ofNat_toNat
  rw [h, strOfNums_data, List.map_append]
  unfold buf
  rw [ht, List.map_cons, hm]
  rfl
theorem byteAt_bytes (s : ByteArray) (k : Nat) : byteAt s k = bytes s.data.toList k := rfl
theorem bytes_app (x y : List UInt8) (k : Nat) : bytes (x ++ y) k = if k < x.length then bytes x k else bytes y (k - x.length) := by
  unfold bytes
  rw [List.getD_eq_getElem?_getD, List.getD_eq_getElem?_getD, List.getD_eq_getElem?_getD, List.getElem?_append]
  split <;> rfl
theorem cnt_nl_all (c : ByteArray) : cnt (byteAt c) 0 c.size = nl c.data.toList := by
  have := cnt_list (f := byteAt c) c.data.toList 0 (fun t _ => by rw [Nat.zero_add]; rfl)
  rw [Nat.zero_add, cnt_self _ _ _ (Nat.le_refl _), Nat.zero_add] at this
  rw [← this]
  congr 1

theorem zzesc (c b E : ByteArray) (line : Int) (w : World) (hE : EncOf c E) (hc : c.size ≤ 262144) (hb : b.size ≤ 262144) (hl1 : -1073741824 ≤ line) (hl2 : line ≤ 1073741824) (hr : c.size = 0 → 0 < b.size → byteAt b 0 ≠ 34) :
    Calls Try.prog 22 #[.string (E ++ b), .int .i64 0, .int .i64 line] w fun e w' => e = .returned (.tuple #[.int .i64 (E.size : Int), .int .i64 (line + cnt (byteAt c) 0 c.size)]) ∧ Below w.heap.size w w' := by
  have hd := enc_data hE
  have hlen := encL_len c.data.toList
  have hcl : c.data.toList.length = c.size := by simp
  have hsz : E.size = (encL c.data.toList).length + 2 := by
    have h1 : E.data.toList.length = E.size := by simp
    rw [← h1, hd, List.length_cons, List.length_append]; rfl
  have hsz2 : (E ++ b).size = (encL c.data.toList).length + 2 + b.size := by rw [ByteArray.size_append, hsz]
  have hEb : ∀ k, byteAt E k = bytes (34 :: (encL c.data.toList ++ [34])) k := fun k => by rw [byteAt_bytes, hd]
  have k0 : byteAt (E ++ b) 0 = 34 := by rw [byteAt_l (by omega), hEb]; rfl
  have hend := esc_end (f := byteAt (E ++ b)) (cr := byteAt b) (n := (E ++ b).size) (R := b.size) c.data.toList hsz2 k0
    (fun t ht => by rw [byteAt_l (by omega), hEb, Nat.add_comm 1 t, bytes_cons, bytes_app, if_pos ht])
    (by rw [byteAt_l (by omega), hEb, Nat.add_comm 1, bytes_cons, bytes_app, if_neg (by omega), Nat.sub_self]; rfl)
    (fun t ht => by rw [byteAt_r (j := t) (by omega)])
    (fun h0 => hr (by rw [← hcl, h0]; rfl))
  have h := zzquoted_any (E ++ b) 0 line 34 w (by omega) (by omega) (.inl rfl) k0 hl1 hl2
  refine h.mono ?_
  rintro e w' ⟨j, hj, rfl, _, _, hb⟩
  rw [hend.1] at hj
  subst hj
  rw [hend.2, hsz, cnt_nl_all]
  exact ⟨rfl, hb⟩

set_option maxHeartbeats 2000000 in
theorem main7 (a b : ByteArray) (line : Int) (w : World) (ha : a.size ≤ 262144) (hb : b.size ≤ 262144) (hl1 : -1073741824 ≤ line) (hl2 : line ≤ 1073741824) :
    Calls Try.prog 7 #[.string a, .string b, .int .i64 line] w fun e w' => e = .returned (.bool true) ∧ Below w.heap.size w w' := by
  have hcl := cnt_le (byteAt a) 0 a.size
  have HC := fun wx => count_any a 0 a.size wx (by omega) (Nat.le_refl _)
  by_cases hg : a.size = 0 ∧ 0 < b.size ∧ byteAt b 0 = 34
  · obtain ⟨h1, h2, h3⟩ := hg
    have hbe := byteAt_eq b 0 h2
    rw [h3] at hbe
    have h1' : ((a.size : Int) == 0) = true := by simp [h1]
    have h2' : (0 : Int) < (b.size : Int) := by omega
    clear h1 h3
    go_enter Try.func7, Try.ntmps7
    go_wp2
    go_ret
    exact ⟨rfl, Below.refl _ _⟩
  · have HG : Hid (a.size = 0 → 0 < b.size → byteAt b 0 ≠ 34) := fun h1 h2 h3 => hg ⟨h1, h2, h3⟩
    go_enter Try.func7, Try.ntmps7
    by_cases h1 : a.size = 0
    · have h1' : ((a.size : Int) == 0) = true := by simp [h1]
      by_cases h2 : 0 < b.size
      · have hbe := byteAt_eq b 0 h2
        obtain ⟨x, hx⟩ : ∃ x, byteAt b 0 = x := ⟨_, rfl⟩
        rw [hx] at hbe
        have h34 : (x == 34) = false := beq_false_of_ne (fun e => hg ⟨h1, h2, by rw [hx, e]⟩)
        have h2' : (0 : Int) < (b.size : Int) := by omega
        have H1 : Hid _ := h1
        clear h1 hx hg
        go_wp2_with (first | (go_at_call 20; refine (enc_any a _ ha).mono ?_) | go_in)
        rintro e w1 ⟨⟨E, rfl, hE⟩, hb1⟩
        have HB1 : Hid _ := hb1
        have HZ := fun wx => zzesc a b E line wx hE ha hb hl1 hl2 HG.out
        have hEs : E.size ≤ 1048576 := by rw [hE, strOfNums_size, List.length_append]; have := buf_len a a.size; simp; omega
        clear hE hb1
        go_wp2_with (first | (go_at_call 22; refine (HZ _).mono ?_; rintro e w2 ⟨rfl, hb2⟩; have HB2 : Hid _ := hb2; clear hb2) | (go_at_call 13; refine (HC _).mono ?_; rintro e w3 ⟨rfl, rfl⟩))
        go_ret
        exact ⟨ret_b (by simp), Below.trans2 HB1.out HB2.out⟩
      · have h2' : (b.size : Int) ≤ 0 := by omega
        have H1 : Hid _ := h1
        clear h1 hg h2
        go_wp2_with (first | (go_at_call 20; refine (enc_any a _ ha).mono ?_) | go_in)
        rintro e w1 ⟨⟨E, rfl, hE⟩, hb1⟩
        have HB1 : Hid _ := hb1
        have HZ := fun wx => zzesc a b E line wx hE ha hb hl1 hl2 HG.out
        have hEs : E.size ≤ 1048576 := by rw [hE, strOfNums_size, List.length_append]; have := buf_len a a.size; simp; omega
        clear hE hb1
        go_wp2_with (first | (go_at_call 22; refine (HZ _).mono ?_; rintro e w2 ⟨rfl, hb2⟩; have HB2 : Hid _ := hb2; clear hb2) | (go_at_call 13; refine (HC _).mono ?_; rintro e w3 ⟨rfl, rfl⟩))
        go_ret
        exact ⟨ret_b (by simp), Below.trans2 HB1.out HB2.out⟩
    · have h1' : ((a.size : Int) == 0) = false := beq_false_of_ne (by omega)
      clear hg h1
      go_wp2_with (first | (go_at_call 20; refine (enc_any a _ ha).mono ?_) | go_in)
      rintro e w1 ⟨⟨E, rfl, hE⟩, hb1⟩
      have HB1 : Hid _ := hb1
      have HZ := fun wx => zzesc a b E line wx hE ha hb hl1 hl2 HG.out
      have hEs : E.size ≤ 1048576 := by rw [hE, strOfNums_size, List.length_append]; have := buf_len a a.size; simp; omega
      clear hE hb1
      go_wp2_with (first | (go_at_call 22; refine (HZ _).mono ?_; rintro e w2 ⟨rfl, hb2⟩; have HB2 : Hid _ := hb2; clear hb2) | (go_at_call 13; refine (HC _).mono ?_; rintro e w3 ⟨rfl, rfl⟩))
      go_ret
      exact ⟨ret_b (by simp), Below.trans2 HB1.out HB2.out⟩
end Go.Proofs.Qxb6000816a
