/- FnQueueScriptMatchesScanModel: its walk behind the guards. -/
import Derived.Test.Qxb6000059aPopCheck
import Derived.Test.Qxb6000059aClone
namespace Go.Proofs.Qxb6000059a
open Go.RowKit
set_option linter.unusedVariables false
set_option linter.unusedSimpArgs false

theorem info32 : (Try.prog.info? 32).map (fun i => (i.zero, i.size, i.bytes)) = some (some (.int .u64 0), 1, 8) := by kernel_rfl

/-- The queue and three rows of other tags beside it. -/
structure Tri (w : World) (base Q : Nat) (v : Value) (es : List Ev) (gp np cp : Nat) (xp : List Value) (gc nc cc : Nat) (xc : List Value) (gs ns cs : Nat) (xs : List Value) : Prop where
  q : QIs w base Q v es
  p : w.ownsRow base 2 1 (.slice (some ⟨gp, 0, none⟩) np cp) np xp
  c : w.ownsRow base 5 1 (.slice (some ⟨gc, 0, none⟩) nc cc) nc xc
  s : w.ownsRow base 32 1 (.slice (some ⟨gs, 0, none⟩) ns cs) ns xs

section
variable {w w' : World} {base Q : Nat} {v : Value} {es : List Ev} {gp np cp : Nat} {xp : List Value} {gc nc cc : Nat} {xc : List Value} {gs ns cs : Nat} {xs : List Value}

theorem Tri.alloc (h : Tri w base Q v es gp np cp xp gc nc cc xc gs ns cs xs) (o : Obj) : Tri (w.alloc o) base Q v es gp np cp xp gc nc cc xc gs ns cs xs := ⟨h.q.alloc o, h.p.alloc o, h.c.alloc o, h.s.alloc o⟩
theorem Tri.drew (h : Tri w base Q v es gp np cp xp gc nc cc xc gs ns cs xs) : Tri w.drew base Q v es gp np cp xp gc nc cc xc gs ns cs xs := ⟨h.q.drew, h.p, h.c, h.s⟩

/-- A row of another tag is another block. -/
theorem tag_ne {w : World} {g g' e e' : Nat} {c c' : Array Value} {f f' : Nat × Nat} (h : w.heap[g]? = some (.cells c e f)) (h' : w.heap[g']? = some (.cells c' e' f')) (he : e ≠ e') : g ≠ g' := fun hc => by
  subst hc
  rw [h] at h'
  have := Obj.cells.inj (Option.some.inj h')
  exact he this.2.1

/-- The queue, where a row of another tag has grown. -/
theorem QIs.kept {e g : Nat} {c : Array Value} {f : Nat × Nat} (hq : QIs w base Q v es) (hg : w.grownBy w' (some g)) (hb : base ≤ g) (ht : w.heap[g]? = some (.cells c e f)) (he : e ≠ 35) : QIs w' base Q v es := by
  have hlo := hq.lo
  refine ⟨?_, ?_, hq.lo, Nat.le_trans hq.hi hg.size⟩
  · rw [hg.block Q (lt_of_block hq.blk) (fun hc => by have := Option.some.inj hc; omega)]
    exact hq.blk
  · refine World.ownsRow.kept hq.row hg (.inr fun hc => ?_)
    obtain ⟨_, cs, fr, hcs⟩ := owns_tag hq.row g hc
    rw [ht] at hcs
    have := Obj.cells.inj (Option.some.inj hcs)
    exact he this.2.1

theorem own_kept {e g' e' n n' cap cap' : Nat} {x : List Value} {x' : List Value} {g : Nat} (h : w.ownsRow base e 1 (.slice (some ⟨g, 0, none⟩) n cap) n x) (h' : w.ownsRow base e' 1 (.slice (some ⟨g', 0, none⟩) n' cap') n' x') (hg : w.grownBy w' (some g')) (he : e ≠ e') :
    w'.ownsRow base e 1 (.slice (some ⟨g, 0, none⟩) n cap) n x := by
  obtain ⟨c, hc, _, _⟩ := owns_block h
  obtain ⟨c', hc', _, _⟩ := owns_block h'
  exact h.kept hg (.inr fun hx => tag_ne hc hc' he (Option.some.inj hx))

theorem Tri.growP {g' c' : Nat} {x : Value} (h : Tri w base Q v es gp np cp xp gc nc cc xc gs ns cs xs) (ho : w'.ownsRow base 2 1 (.slice (some ⟨g', 0, none⟩) (np + 1) c') (np + 1) (xp ++ [x])) (hg : w.grownBy w' (some gp)) :
    Tri w' base Q v es g' (np + 1) c' (xp ++ [x]) gc nc cc xc gs ns cs xs := by
  obtain ⟨c, hc, hb, _⟩ := owns_block h.p
  exact ⟨h.q.kept hg hb hc (by decide), ho, own_kept h.c h.p hg (by decide), own_kept h.s h.p hg (by decide)⟩
theorem Tri.growC {g' c' : Nat} {x : Value} (h : Tri w base Q v es gp np cp xp gc nc cc xc gs ns cs xs) (ho : w'.ownsRow base 5 1 (.slice (some ⟨g', 0, none⟩) (nc + 1) c') (nc + 1) (xc ++ [x])) (hg : w.grownBy w' (some gc)) :
    Tri w' base Q v es gp np cp xp g' (nc + 1) c' (xc ++ [x]) gs ns cs xs := by
  obtain ⟨c, hc, hb, _⟩ := owns_block h.c
  exact ⟨h.q.kept hg hb hc (by decide), own_kept h.p h.c hg (by decide), ho, own_kept h.s h.c hg (by decide)⟩
theorem Tri.growS {g' c' : Nat} {x : Value} (h : Tri w base Q v es gp np cp xp gc nc cc xc gs ns cs xs) (ho : w'.ownsRow base 32 1 (.slice (some ⟨g', 0, none⟩) (ns + 1) c') (ns + 1) (xs ++ [x])) (hg : w.grownBy w' (some gs)) :
    Tri w' base Q v es gp np cp xp gc nc cc xc g' (ns + 1) c' (xs ++ [x]) := by
  obtain ⟨c, hc, hb, _⟩ := owns_block h.s
  exact ⟨h.q.kept hg hb hc (by decide), own_kept h.p h.s hg (by decide), own_kept h.c h.s hg (by decide), ho⟩

theorem tri_of {M : List Ev} {n : Nat} (hq : QIs w base Q v es) (hm : MSt w base n gp cp gc cc gs cs M) : Tri w base Q v es gp n cp (M.map fun e => .int .i64 e.t) gc n cc (M.map fun e => .int .u8 e.k) gs n cs (M.map fun e => .int .u64 e.s) := ⟨hq, hm.p, hm.k, hm.s⟩
theorem Tri.back {M : List Ev} {n : Nat} {e : Ev} (hn : n = M.length) (h : Tri w base Q v es gp (n + 1) cp (M.map (fun e => Value.int .i64 e.t) ++ [.int .i64 e.t]) gc (n + 1) cc (M.map (fun e => Value.int .u8 e.k) ++ [.int .u8 e.k]) gs (n + 1) cs (M.map (fun e => Value.int .u64 e.s) ++ [.int .u64 e.s])) :
    MSt w base (n + 1) gp cp gc cc gs cs (M ++ [e]) := ⟨by simp [hn], by simpa using h.p, by simpa using h.c, by simpa using h.s⟩
end

theorem QIs.form {w : World} {base Q : Nat} {v : Value} {es : List Ev} (h : QIs w base Q v es) : ∃ ao c, v = .slice ao es.length c ∧ (0 < es.length → ∃ g, ao = some ⟨g, 0, none⟩) := by
  rcases h.row.2 with ⟨hv, hn⟩ | ⟨g, cap, cur, hv, _⟩
  · exact ⟨none, 0, by rw [hv, hn], fun h => by omega⟩
  · exact ⟨_, cap, hv, fun _ => ⟨g, rfl⟩⟩

theorem frq_cell {base Q : Nat} {w w' : World} {a : Addr} (h : FrQ base Q w w') (hlo : Q < base) (ha : a.block < Q) (hs : a.block < w.heap.size) : w'.cell? a = w.cell? a :=
  World.cell?_of_block (w := w) (h.toB.block a.block hs (by omega) (by omega))
theorem frb_cell {base Q : Nat} {w w' : World} {a : Addr} (h : FrB base Q w w') (hlo : Q < base) (ha : a.block < Q) (hs : a.block < w.heap.size) : w'.cell? a = w.cell? a :=
  World.cell?_of_block (w := w) (h.block a.block hs (by omega) (by omega))

/-- Everything that the loops keep. -/
structure SSt (w0 wr : World) (base Q : Nat) (v : Value) (es : List Ev) (n gp cp gc cc gs cs : Nat) (M : List Ev) : Prop where
  q : QIs wr base Q v es
  m : MSt wr base n gp cp gc cc gs cs M
  pm : es.Perm M
  hp : IsHeap es
  fr : FrB base Q w0 wr

theorem SSt.len {w0 wr : World} {base Q : Nat} {v : Value} {es : List Ev} {n gp cp gc cc gs cs : Nat} {M : List Ev} (h : SSt w0 wr base Q v es n gp cp gc cc gs cs M) : es.length = n := by
  rw [h.pm.length_eq, ← h.m.len]

theorem sst_start {w0 : World} {Q : Nat} (hQ : w0.heap.size = Q + 1) (hb : w0.heap[Q]? = some (.cells #[.slice none 0 0] 29 (0, 0))) :
    SSt w0 (((w0.alloc (.cells #[] 2)).alloc (.cells #[] 5)).alloc (.cells #[] 32)) (Q + 1) Q (.slice none 0 0) [] 0 (Q + 1) 0 (Q + 2) 0 (Q + 3) 0 [] := by
  have mk : ∀ (W : World) (t g : Nat), W.heap.size = g → Q + 1 ≤ g → (W.alloc (.cells #[] t)).ownsRow (Q + 1) t 1 (.slice (some ⟨g, 0, none⟩) 0 0) 0 [] := fun W t g hg hle => by
    subst hg
    exact World.ownsRow_made W #[] 0 hle (by unfold maxLen; omega) rfl
  have q0 : QIs w0 (Q + 1) Q (.slice none 0 0) [] := ⟨hb, World.ownsRow_nil _ _ _ _, by omega, by omega⟩
  refine ⟨((q0.alloc _).alloc _).alloc _, ⟨rfl, ?_, ?_, ?_⟩, List.Perm.refl _, fun j h0 h1 => by simp at h1, ((FrB.refl _ _ _).alloc _ |>.alloc _ |>.alloc _)⟩
  · exact ((mk w0 2 (Q + 1) hQ (by omega)).alloc _).alloc _
  · exact (mk (w0.alloc (.cells #[] 2)) 5 (Q + 2) (by simp [hQ]) (by omega)).alloc _
  · exact mk ((w0.alloc (.cells #[] 2)).alloc (.cells #[] 5)) 32 (Q + 3) (by simp [hQ]) (by omega)

theorem made0 (z : Value) : madeCells #[z] 0 = #[] := by simp [madeCells]
theorem mk22 (w : World) : (Instr.makeSlice 22 (.int .i64 0) (.int .i64 0)).run Try.prog w = .ok (.slice (some ⟨w.heap.size, 0, none⟩) 0 0) (w.alloc (.cells #[] 2)) := by
  have := run_make_row' (P := Try.prog) 22 2 (.int .i64 0) 8 Try.underlying22 info2' rfl .i64 .i64 0 (by omega) (by omega) w
  rw [made0] at this
  exact this
theorem mk23 (w : World) : (Instr.makeSlice 23 (.int .i64 0) (.int .i64 0)).run Try.prog w = .ok (.slice (some ⟨w.heap.size, 0, none⟩) 0 0) (w.alloc (.cells #[] 5)) := by
  have := run_make_row' (P := Try.prog) 23 5 (.int .u8 0) 1 Try.underlying23 info5 rfl .i64 .i64 0 (by omega) (by omega) w
  rw [made0] at this
  exact this
theorem mk45 (w : World) : (Instr.makeSlice 45 (.int .i64 0) (.int .i64 0)).run Try.prog w = .ok (.slice (some ⟨w.heap.size, 0, none⟩) 0 0) (w.alloc (.cells #[] 32)) := by
  have := run_make_row' (P := Try.prog) 45 32 (.int .u64 0) 8 Try.underlying45 info32 rfl .i64 .i64 0 (by omega) (by omega) w
  rw [made0] at this
  exact this

theorem InRow.below {k : IntKind} {w w' : World} {a : Option Addr} {len cap : Nat} {zs : List Int} (h : InRow k w a len cap zs) (hb : Below w.heap.size w w') : InRow k w' a len cap zs := by
  rcases h with h | ⟨x, h1, h2, h3, h4, h5, h6⟩
  · exact .inl h
  · refine .inr ⟨x, h1, h2, h3, h4, fun i hi => ?_, h6⟩
    have hc := h5 i hi
    rw [hb.cell (World.block_lt_of_cell? w _ hc)]
    exact hc

theorem below_frb {w w0 wr : World} {base Q : Nat} (h1 : Below w.heap.size w w0) (h2 : FrB base Q w0 wr) (hQ : w.heap.size ≤ Q) (hlo : Q < base) (hs : base ≤ w0.heap.size) : Below w.heap.size w wr :=
  ⟨h2.os.trans h1.os, h2.tape.trans h1.tape, h2.output.trans h1.output, Nat.le_trans h1.size h2.size, fun k hk => by rw [h2.block k (by omega) (by omega) (by omega), h1.block k hk]⟩

/-- A slice's cell, read in the loops. -/
theorem rd_cell {k : IntKind} {wC wr : World} {Q b len i : Nat} {v : Value} {zs : List Int} (hQ : wC.heap.size = Q) (hb : b < wC.heap.size) (hc : ∀ i, i < len → wC.cell? ⟨b, i, none⟩ = some (.int k (zs.getD i 0)))
    (hf : FrB (Q + 1) Q (wC.alloc (.cells #[v] 29)) wr) (hi : i < len) : wr.cell? ⟨b, i, none⟩ = some (.int k (zs.getD i 0)) := by
  rw [frb_cell hf (by omega) (by show b < Q; omega) (by simp; omega), World.cell?_alloc_lt _ _ _ (by exact hb)]
  exact hc i hi

section
variable {w0 w w' : World} {base Q : Nat} {v : Value} {es : List Ev} {gp np cp : Nat} {xp : List Value} {gc nc cc : Nat} {xc : List Value} {gs ns cs : Nat} {xs : List Value}
theorem step_p {g' c' : Nat} {x : Value} {o : Obj} (h : Tri w base Q v es gp np cp xp gc nc cc xc gs ns cs xs) (hf : FrB base Q w0 w) (ho : w'.ownsRow base 2 1 (.slice (some ⟨g', 0, none⟩) (np + 1) c') (np + 1) (xp ++ [x])) (hg : (w.alloc o).grownBy w' (some gp)) :
    Tri w' base Q v es g' (np + 1) c' (xp ++ [x]) gc nc cc xc gs ns cs xs ∧ FrB base Q w0 w' := by
  obtain ⟨c, hc, hb, _⟩ := owns_block h.p
  exact ⟨(h.alloc o).growP ho hg, (hf.alloc o).grown hg (fun k hk => by have := Option.some.inj hk; omega)⟩
theorem step_c {g' c' : Nat} {x : Value} {o : Obj} (h : Tri w base Q v es gp np cp xp gc nc cc xc gs ns cs xs) (hf : FrB base Q w0 w) (ho : w'.ownsRow base 5 1 (.slice (some ⟨g', 0, none⟩) (nc + 1) c') (nc + 1) (xc ++ [x])) (hg : (w.alloc o).grownBy w' (some gc)) :
    Tri w' base Q v es gp np cp xp g' (nc + 1) c' (xc ++ [x]) gs ns cs xs ∧ FrB base Q w0 w' := by
  obtain ⟨c, hc, hb, _⟩ := owns_block h.c
  exact ⟨(h.alloc o).growC ho hg, (hf.alloc o).grown hg (fun k hk => by have := Option.some.inj hk; omega)⟩
theorem step_s {g' c' : Nat} {x : Value} {o : Obj} (h : Tri w base Q v es gp np cp xp gc nc cc xc gs ns cs xs) (hf : FrB base Q w0 w) (ho : w'.ownsRow base 32 1 (.slice (some ⟨g', 0, none⟩) (ns + 1) c') (ns + 1) (xs ++ [x])) (hg : (w.alloc o).grownBy w' (some gs)) :
    Tri w' base Q v es gp np cp xp gc nc cc xc g' (ns + 1) c' (xs ++ [x]) ∧ FrB base Q w0 w' := by
  obtain ⟨c, hc, hb, _⟩ := owns_block h.s
  exact ⟨(h.alloc o).growS ho hg, (hf.alloc o).grown hg (fun k hk => by have := Option.some.inj hk; omega)⟩
theorem Tri.qsize (h : Tri w base Q v es gp np cp xp gc nc cc xc gs ns cs xs) : base ≤ w.heap.size := h.q.hi
end

def lenOf : Value → Nat | .slice _ n _ => n | _ => 0

theorem wrap_p (p : Nat) (h : p ≤ 65536) : IntKind.u64.wrap (p : Int) = (p : Int) := by
  have := IntKind.wrap_u64 (p : Int)
  rw [this]; omega

attribute [local go_sem ↓] Go.wp_at_zero Go.wp_at_succ wp_build29 ldI_fold stI_fold
attribute [local go_sem] ldI_run stI_run EvT_drewN' EvT_drew' evAt_drewN evAt_drew isEv_eq aggOf_eq putEv_boxZ

set_option maxHeartbeats 8000000 in
set_option maxRecDepth 100000 in
theorem script_main (a0 : Option Addr) (l0 c0 : Nat) (z0 : List Int) (a1 : Option Addr) (l1 c1 : Nat) (z1 : List Int) (a2 : Option Addr) (l2 c2 : Nat) (z2 : List Int) (w : World)
    (h0 : InRow .u8 w a0 l0 c0 z0) (h1 : InRow .i64 w a1 l1 c1 z1) (h2 : InRow .u8 w a2 l2 c2 z2) (b0 : l0 ≤ 4096) (b1 : l1 ≤ 65536) (b2 : l2 ≤ 65536) (b3 : l0 + 8 * l1 + l2 ≤ 1048576) :
    Calls Try.prog 4 #[.slice a0 l0 c0, .slice a1 l1 c1, .slice a2 l2 c2] w fun e w' => e = .returned (.bool true) ∧ Below w.heap.size w w' := by
  have H0 : Hid _ := h0
  have H1 : Hid _ := h1
  have H2 : Hid _ := h2
  clear h0 h1 h2
  have m1 := mk22
  have m2 := mk23
  have m3 := mk45
  go_enter Try.func4, Try.ntmps4
  go_wp2_with (first
    | (go_at_call 10; refine (clone8_gen a0 l0 c0 z0 _ (by omega) H0.out).mono ?_)
    | go_in)
  rintro e wA ⟨ao, co, rfl, hr0, hbA⟩
  have R0 : Hid _ := hr0
  have BA : Hid _ := hbA
  clear hr0 hbA H0
  go_wp2_with (first
    | (go_at_call 9; refine (clone64_gen a1 l1 c1 z1 _ (by omega) (InRow.below H1.out BA.out)).mono ?_))
  rintro e wB ⟨ax, ct, rfl, hr1, hbB⟩
  have R1 : Hid _ := hr1
  have BB : Hid _ := hbB
  clear hr1 hbB H1
  go_wp2_with (first
    | (go_at_call 10; refine (clone8_gen a2 l2 c2 z2 _ (by omega) (InRow.below (InRow.below H2.out BA.out) BB.out)).mono ?_))
  rintro e wC ⟨ak, ck, rfl, hr2, hbC⟩
  have B0 : Hid (Below w.heap.size w wC) := (BA.out.trans (BB.out.mono BA.out.size)).trans (hbC.mono (Nat.le_trans BA.out.size BB.out.size))
  have R0' : Hid (Rd .u8 wC w.heap.size ao l0 z0) := Rd.below (Rd.below R0.out BB.out) hbC
  have R1' : Hid (Rd .i64 wC wA.heap.size ax l1 z1) := Rd.below R1.out hbC
  have R2' : Hid (Rd .u8 wC wB.heap.size ak l2 z2) := hr2
  clear R0 R1 BA BB hr2 hbC H2
  go_wp2
  go_loopw [8, 9, 10, 11, 12, 13] (fun vp vc vs pu okv oi wr => ∃ (o p n gp cp gc cc gs cs : Nat) (v : Value) (es M : List Ev), oi = .int .i64 o ∧ pu = .int .i64 p ∧ okv = .bool true ∧ vp = .slice (some ⟨gp, 0, none⟩) n cp ∧ vc = .slice (some ⟨gc, 0, none⟩) n cc ∧ vs = .slice (some ⟨gs, 0, none⟩) n cs ∧ o ≤ l0 ∧ n ≤ p ∧ p ≤ l1 ∧
      Hid (SSt (wC.alloc (.cells #[.slice none 0 0] 29)) wr (wC.heap.size + 1) wC.heap.size v es n gp cp gc cc gs cs M))
    (fun _ _ _ _ _ oi _ => l0 - (intOf oi).toNat)
  case atStart => exact ⟨0, 0, 0, _, 0, _, 0, _, 0, _, [], [], rfl, rfl, rfl, rfl, rfl, rfl, by omega, by omega, by omega, sst_start (by simp) (heap_alloc_new wC _)⟩
  case round =>
    obtain ⟨o, p, n, gp, cp, gc, cc, gs, cs, v, es, M, rfl, rfl, rfl, rfl, rfl, rfl, ho, hnp, hpl, HS⟩ := hrel
    clear m1 m2 m3
    by_cases hlt : o < l0
    · obtain ⟨bo, hbo, hbo1, hbo2, hboc⟩ := R0'.out (by omega)
      subst hbo
      obtain ⟨x, hx⟩ : ∃ x, z0.getD o 0 = x := ⟨_, rfl⟩
      have hco : wr.cell? ⟨bo, o, none⟩ = some (.int .u8 x) := by rw [← hx]; exact rd_cell rfl hbo2 hboc HS.out.fr hlt
      clear hboc hx hbo1
      have hlen : Hid (es.length = n) := HS.out.len
      by_cases hev : (bits BinOp.and IntKind.u8 x 1 == 0) = true
      · by_cases hp1 : p < l1
        · by_cases hp2 : p < l2
          · obtain ⟨bt, hbt, _, hbt2, hbtc⟩ := R1'.out (by omega)
            subst hbt
            obtain ⟨bk, hbk, _, hbk2, hbkc⟩ := R2'.out (by omega)
            subst hbk
            obtain ⟨tv, htv⟩ : ∃ x, z1.getD p 0 = x := ⟨_, rfl⟩
            obtain ⟨kv, hkv⟩ : ∃ x, z2.getD p 0 = x := ⟨_, rfl⟩
            have hct : wr.cell? ⟨bt, p, none⟩ = some (.int .i64 tv) := by rw [← htv]; exact rd_cell rfl hbt2 hbtc HS.out.fr hp1
            have hck : wr.cell? ⟨bk, p, none⟩ = some (.int .u8 kv) := by rw [← hkv]; exact rd_cell rfl hbk2 hbkc HS.out.fr hp2
            have HBT : Hid _ := hbtc
            have HBK : Hid _ := hbkc
            have HT : Hid _ := htv
            have HK : Hid _ := hkv
            clear hbtc hbkc htv hkv
            have hp1' : (p : Int) < (l1 : Int) := by omega
            have hp2' : (p : Int) < (l2 : Int) := by omega
            have hp0' : (0 : Int) ≤ (p : Int) := by omega
            have hwp : IntKind.u64.wrap (p : Int) = (p : Int) := wrap_p p (by omega)
            have hqi := HS.out.q
            have hws : wC.heap.size < wr.heap.size := lt_of_block hqi.blk
            have HQI : Hid _ := hqi
            clear hqi
            go_wp2
            go_region_held3 (fun w' => w'.cell? ⟨bt, p, none⟩ = some (.int .i64 tv) ∧ w'.cell? ⟨bk, p, none⟩ = some (.int .u8 kv))
              (first | (go_split_ands; refine ⟨?_, ?_⟩ <;> (simp only [World.cell?_drew]; assumption)) | (go_split_ands; refine ⟨?_, ?_⟩ <;> (apply cell_alloc'; assumption)) | (go_split_ands; exact ⟨(frq_cell hf1 (by omega) (by exact hbt2) (by simp; omega)).trans ‹_›, (frq_cell hf1 (by omega) (by exact hbk2) (by simp; omega)).trans ‹_›⟩))
              (first | (go_at_call 13; refine (make_any tv p kv _).mono ?_; rintro r w' ⟨rfl, rfl⟩) | (go_at_call 12; refine (zzpush_any (wC.heap.size + 1) wC.heap.size v es ⟨tv, kv, p⟩ _ (by exact (HQI.out.alloc _).drew) (by rw [hlen.out]; omega) HS.out.hp).mono ?_; rintro r w1 ⟨rfl, ⟨v1, es1, hq1, hf1, hh1, hp1'⟩⟩))
            have hm1 : MSt w1 (wC.heap.size + 1) n gp cp gc cc gs cs M := ((HS.out.m.alloc _).drewN 1).frq hf1 (by omega)
            have hfb1 : FrB (wC.heap.size + 1) wC.heap.size (wC.alloc (.cells #[.slice none 0 0] 29)) w1 := ((HS.out.fr.alloc _).drew).trans hf1.toB
            have hl1 : es1.length = n + 1 := by rw [hp1'.length_eq]; simp [hlen.out]
            obtain ⟨aq, cq, hv1, _⟩ := hq1.form
            rw [hl1] at hv1
            subst hv1
            have hT1 := tri_of hq1 hm1
            have HPF : Hid _ := And.intro hh1 (hp1'.trans (HS.out.pm.append_right _))
            have HML : Hid _ := HS.out.m.len
            have HL1 : Hid _ := hl1
            have hct1 := rd_cell rfl hbt2 HBT.out hfb1 hp1
            rw [HT.out] at hct1
            clear hm1 hq1 hf1 hh1 hp1' hct hck hl1
            have hop := hT1.p
            have hsz1 := hT1.qsize
            obtain ⟨i2, hi2, hz20, hz21, hz22⟩ := info_parts info2'
            obtain ⟨i5, hi5, hz50, hz51, hz52⟩ := info_parts info5
            obtain ⟨i3, hi3, hz30, hz31, hz32⟩ := info_parts info32
            go_wp2_with (first | (at_builtin; refine wpList_append_lies _ rfl (.tmp 85) (.tmp 90) 22 rfl (wC.heap.size + 1) 2 i2 (.int .i64 0) 1 8 Try.underlying22 hi2 hz20 hz21 hz22 rfl (by decide) _ n _ rfl (hop.alloc _) ⟨w1.heap.size, 0, none⟩ 1 1 [.int .i64 tv] rfl rfl (cell_one_new _ _ _) (ints_oneCell .i64 [tv]) (by omega) (by unfold maxLen; omega) (by omega) (by simp; omega) _ rfl ?_; intro gp2 cp2 w2 hown2 hgrow2 hat2 hlt2; obtain ⟨hT2, hfb2⟩ := step_p hT1 hfb1 hown2 hgrow2; have hck2 := rd_cell rfl hbk2 HBK.out hfb2 hp2; rw [HK.out] at hck2; have hoc := hT2.c; have hsz2 := hT2.qsize; clear hop hown2 hgrow2 hat2 hlt2 hT1 hfb1 hct1) | (at_builtin; refine wpList_append_lies _ rfl (.tmp 92) (.tmp 97) 23 rfl (wC.heap.size + 1) 5 i5 (.int .u8 0) 1 1 Try.underlying23 hi5 hz50 hz51 hz52 rfl (by decide) _ n _ rfl (hoc.alloc _) ⟨w2.heap.size, 0, none⟩ 1 1 [.int .u8 kv] rfl rfl (cell_one_new _ _ _) (ints_oneCell .u8 [kv]) (by omega) (by unfold maxLen; omega) (by omega) (by simp; omega) _ rfl ?_; intro gc2 cc2 w3 hown3 hgrow3 hat3 hlt3; obtain ⟨hT3, hfb3⟩ := step_c hT2 hfb2 hown3 hgrow3; have hos := hT3.s; have hsz3 := hT3.qsize; clear hoc hown3 hgrow3 hat3 hlt3 hT2 hfb2 hck2) | (at_builtin; refine wpList_append_lies _ rfl (.tmp 99) (.tmp 102) 45 rfl (wC.heap.size + 1) 32 i3 (.int .u64 0) 1 8 Try.underlying45 hi3 hz30 hz31 hz32 rfl (by decide) _ n _ rfl (hos.alloc _) ⟨w3.heap.size, 0, none⟩ 1 1 [.int .u64 (p : Int)] rfl rfl (cell_one_new _ _ _) (ints_oneCell .u64 [(p : Int)]) (by omega) (by unfold maxLen; omega) (by omega) (by simp; omega) _ rfl ?_; intro gs2 cs2 w4 hown4 hgrow4 hat4 hlt4; obtain ⟨hT4, hfb4⟩ := step_s hT3 hfb3 hown4 hgrow4; have hqc := cell_of_one hT4.q.blk; clear hos hown4 hgrow4 hat4 hlt4 hT3 hfb3) | (go_at_call 14; refine (len_any wC.heap.size aq (n + 1) cq _ hqc).mono ?_; rintro r w5 ⟨rfl, rfl⟩))
            go_roundw
            case rel => exact ⟨o + 1, p + 1, n + 1, gp2, cp2, gc2, cc2, gs2, cs2, _, es1, M ++ [⟨tv, kv, p⟩], by go_num, by go_num, rfl, rfl, rfl, rfl, by omega, by omega, by omega, ⟨hT4.q, hT4.back HML.out, HPF.out.2, HPF.out.1, hfb4⟩⟩
            case measure => simp [intOf]; omega
          · have hp2' : ¬ (p : Int) < (l2 : Int) := by omega
            go_wp2
            go_roundw
            case rel => exact ⟨o + 1, p, n, gp, cp, gc, cc, gs, cs, v, es, M, by go_num, rfl, rfl, rfl, rfl, rfl, by omega, hnp, hpl, HS⟩
            case measure => simp [intOf]; omega
        · have hp1' : ¬ (p : Int) < (l1 : Int) := by omega
          go_wp2
          go_roundw
          case rel => exact ⟨o + 1, p, n, gp, cp, gc, cc, gs, cs, v, es, M, by go_num, rfl, rfl, rfl, rfl, rfl, by omega, hnp, hpl, HS⟩
          case measure => simp [intOf]; omega
      · have hev' : (bits BinOp.and IntKind.u8 x 1 == 0) = false := by simpa using hev
        by_cases hn0 : n = 0
        · subst hn0
          have hqi := HS.out.q
          obtain ⟨aq, cq, hv, _⟩ := hqi.form
          rw [hlen.out] at hv
          subst hv
          have hqc := cell_of_one hqi.blk
          clear hqi
          go_wp2_with (first | (go_at_call 14; refine (len_any wC.heap.size aq 0 cq _ hqc).mono ?_; rintro r w5 ⟨rfl, rfl⟩))
          go_roundw
          case rel => exact ⟨o + 1, p, 0, gp, cp, gc, cc, gs, cs, _, es, M, by go_num, rfl, rfl, rfl, rfl, rfl, by omega, hnp, hpl, HS⟩
          case measure => simp [intOf]; omega
        · obtain ⟨n', rfl⟩ : ∃ n', n = n' + 1 := ⟨n - 1, by omega⟩
          have hqi := HS.out.q
          have hmi := HS.out.m
          obtain ⟨aq, cq, hv, hg⟩ := hqi.form
          obtain ⟨gg, rfl⟩ := hg (by rw [hlen.out]; omega)
          rw [hlen.out] at hv
          subst hv
          have hqc := cell_of_one hqi.blk
          go_wp2_with (first | (go_at_call 21; refine (popCheck_any (wC.heap.size + 1) wC.heap.size gg n' cq gp cp gc cc gs cs es M _ hqi hmi HS.out.pm HS.out.hp (by omega)).mono ?_; rintro r w1 ⟨rfl, ⟨es1, M1, hq1, hm1, hp1, hh1, hf1⟩⟩; have hqc := cell_of_one hq1.blk) | (go_at_call 14; refine (len_any wC.heap.size (some ⟨gg, 0, none⟩) n' cq _ hqc).mono ?_; rintro r w5 ⟨rfl, rfl⟩))
          go_roundw
          case rel => exact ⟨o + 1, p, n', gp, cp, gc, cc, gs, cs, _, es1, M1, by go_num, rfl, rfl, rfl, rfl, rfl, by omega, by omega, hpl, ⟨hq1, hm1, hp1, hh1, HS.out.fr.trans hf1⟩⟩
          case measure => simp [intOf]; omega
    · go_wp2
      go_loopw [8, 9, 10, 12] (fun vp vc vs okv wr => ∃ (n gp cp gc cc gs cs : Nat) (v : Value) (es M : List Ev), vp = .slice (some ⟨gp, 0, none⟩) n cp ∧ vc = .slice (some ⟨gc, 0, none⟩) n cc ∧ vs = .slice (some ⟨gs, 0, none⟩) n cs ∧ okv = .bool true ∧ n ≤ 65536 ∧
          Hid (SSt (wC.alloc (.cells #[.slice none 0 0] 29)) wr (wC.heap.size + 1) wC.heap.size v es n gp cp gc cc gs cs M))
        (fun vp _ _ _ _ => lenOf vp)
      case atStart => exact ⟨n, gp, cp, gc, cc, gs, cs, v, es, M, rfl, rfl, rfl, rfl, by omega, HS⟩
      case round =>
        clear HS
        obtain ⟨n, gp, cp, gc, cc, gs, cs, v, es, M, rfl, rfl, rfl, rfl, hn65, HS⟩ := hrel
        by_cases hn0 : n = 0
        · subst hn0
          go_wp2
          go_ret
          exact ⟨rfl, below_frb (B0.out.alloc B0.out.size _) HS.out.fr B0.out.size (by omega) (by simp)⟩
        · obtain ⟨n', rfl⟩ : ∃ n', n = n' + 1 := ⟨n - 1, by omega⟩
          have hlen : Hid (es.length = n' + 1) := HS.out.len
          have hqi := HS.out.q
          have hmi := HS.out.m
          obtain ⟨aq, cq, hv, hg⟩ := hqi.form
          obtain ⟨gg, rfl⟩ := hg (by rw [hlen.out]; omega)
          rw [hlen.out] at hv
          subst hv
          have hqc := cell_of_one hqi.blk
          go_wp2_with (first | (go_at_call 21; refine (popCheck_any (wC.heap.size + 1) wC.heap.size gg n' cq gp cp gc cc gs cs es M _ hqi hmi HS.out.pm HS.out.hp (by omega)).mono ?_; rintro r w1 ⟨rfl, ⟨es1, M1, hq1, hm1, hp1, hh1, hf1⟩⟩; have hqc := cell_of_one hq1.blk) | (go_at_call 14; refine (len_any wC.heap.size (some ⟨gg, 0, none⟩) n' cq _ hqc).mono ?_; rintro r w5 ⟨rfl, rfl⟩))
          go_roundw
          case rel => exact ⟨n', gp, cp, gc, cc, gs, cs, _, es1, M1, rfl, rfl, rfl, rfl, by omega, ⟨hq1, hm1, hp1, hh1, HS.out.fr.trans hf1⟩⟩
          case measure => simp [lenOf]
end Go.Proofs.Qxb6000059a
