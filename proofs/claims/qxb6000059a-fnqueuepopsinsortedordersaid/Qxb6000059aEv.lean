/- Events in memory: seven cells each; a row of them; 'before'. -/
import Derived.Test.Qxb6000059aProg
import Derived.Test.Qxb6000059aHeapLaw
import Derived.WalkKit
import Derived.WalkSpells
import Derived.WalkLawsBesides
import Derived.Deep.OwnRows
import Derived.Deep.MidRow
import Derived.Deep.QuietTactic
import Derived.BigQuiet
import Derived.KernelRfl
namespace Go.Proofs.Qxb6000059a
open Go.RowKit
set_option linter.unusedVariables false
set_option linter.unusedSimpArgs false

def evc (e : Ev) : List Value := [.int .i64 e.t, .int .u64 e.s, .int .i64 0, .int .i32 0, .int .i32 0, .int .u8 e.k, .int .i64 0]
def evArr (e : Ev) : Array Value := #[.int .i64 e.t, .int .u64 e.s, .int .i64 0, .int .i32 0, .int .i32 0, .int .u8 e.k, .int .i64 0]
theorem evArr_eq (e : Ev) : evArr e = (evc e).toArray := rfl
theorem evc_len (e : Ev) : (evc e).length = 7 := rfl

/-- The event e lies at offset o of block g, and may be written. -/
def EvIs (w : World) (g o : Nat) (e : Ev) : Prop := w.rangeAt g o (evc e) ∧ w.there g o 7

theorem EvIs.drewN {w : World} {g o : Nat} {e : Ev} (h : EvIs w g o e) (n : Nat) : EvIs (w.drewN n) g o e := h
theorem EvIs.cells {w : World} {g o : Nat} {e : Ev} (h : EvIs w g o e) : w.cell? ⟨g, o, none⟩ = some (.int .i64 e.t) ∧ w.cell? ⟨g, o + 1, none⟩ = some (.int .u64 e.s) ∧ w.cell? ⟨g, o + 5, none⟩ = some (.int .u8 e.k) :=
  ⟨h.1 0 _ rfl, h.1 1 _ rfl, h.1 5 _ rfl⟩

theorem ret_b {a b : Bool} (h : a = b) : Ending.returned (.bool a) = .returned (.bool b) := by rw [h]

set_option maxHeartbeats 1000000 in
theorem before_any (g o g' o' : Nat) (a b : Ev) (w : World) (ha : EvIs w g o a) (hb : EvIs w g' o' b) :
    Calls Try.prog 35 #[.pointer (some ⟨g, o, none⟩), .pointer (some ⟨g', o', none⟩)] w fun e w' => e = .returned (.bool (ltB a b)) ∧ ∃ n, w' = w.drewN n := by
  obtain ⟨a0, a1, a5⟩ := ha.cells
  obtain ⟨b0, b1, b5⟩ := hb.cells
  clear ha hb
  obtain ⟨at', ak, as'⟩ := a
  obtain ⟨bt, bk, bs⟩ := b
  simp only at a0 a1 a5 b0 b1 b5
  by_cases h1 : at' = bt
  · subst h1
    by_cases h2 : ak = bk
    · subst h2
      go_enter Try.func35, Try.ntmps35
      go_wp2
      go_quiet (fail)
      go_wp2
      go_quiet (fail)
      go_wp2
      go_quiet (fail)
      go_wp2
      go_ret
      exact ⟨ret_b (by simp [ltB]), by simp only [World.drewN_drewN]; exact ⟨_, rfl⟩⟩
    · have h2' : (ak != bk) = true := by simpa using h2
      go_enter Try.func35, Try.ntmps35
      go_wp2
      go_quiet (fail)
      go_wp2
      go_quiet (fail)
      go_wp2
      go_quiet (fail)
      go_wp2
      go_ret
      exact ⟨ret_b (by simp [ltB, h2]), by simp only [World.drewN_drewN]; exact ⟨_, rfl⟩⟩
  · have h1' : (at' != bt) = true := by simpa using h1
    go_enter Try.func35, Try.ntmps35
    go_wp2
    go_quiet (fail)
    go_wp2
    go_quiet (fail)
    go_wp2
    go_ret
    exact ⟨ret_b (by simp [ltB, h1]), by simp only [World.drewN_drewN]; exact ⟨_, rfl⟩⟩

/-! ### A row of events -/
theorem flat_len (es : List Ev) : (es.flatMap evc).length = es.length * 7 := by
  induction es with
  | nil => rfl
  | cons e es ih => rw [List.flatMap_cons, List.length_append, ih, evc_len, List.length_cons]; omega

theorem flat_get : ∀ (es : List Ev) (i c : Nat) (hi : i < es.length), c < 7 → (es.flatMap evc)[i * 7 + c]? = (evc es[i])[c]?
  | [], _, _, hi, _ => by simp at hi
  | e :: es, 0, c, _, hc => by
    rw [List.flatMap_cons, List.getElem?_append_left (by rw [evc_len]; omega)]
    simp
  | e :: es, i + 1, c, hi, hc => by
    rw [List.flatMap_cons, List.getElem?_append_right (by rw [evc_len]; omega), evc_len]
    rw [show (i + 1) * 7 + c - 7 = i * 7 + c by omega, flat_get es i c (by simpa using hi) hc]
    simp

def setMany (xs : List Value) : Nat → List Value → List Value
  | _, [] => xs
  | o, c :: cs => setMany (xs.set o c) (o + 1) cs

theorem setMany_get : ∀ (cs xs : List Value) (o j : Nat), o + cs.length ≤ xs.length → (setMany xs o cs)[j]? = if o ≤ j ∧ j < o + cs.length then cs[j - o]? else xs[j]?
  | [], xs, o, j, _ => by
    rw [setMany, if_neg (by rintro ⟨h1, h2⟩; simp at h2; omega)]
  | c :: cs, xs, o, j, h => by
    simp only [List.length_cons] at h
    rw [setMany, setMany_get cs (xs.set o c) (o + 1) j (by simp; omega)]
    by_cases h1 : o + 1 ≤ j ∧ j < o + 1 + cs.length
    · rw [if_pos h1, if_pos (by simp; omega), show j - o = (j - (o + 1)) + 1 by omega, List.getElem?_cons_succ]
    · rw [if_neg h1]
      by_cases h2 : j = o
      · subst h2
        rw [if_pos (by simp), List.getElem?_set_self (by omega)]
        simp
      · rw [if_neg (by simp; omega), List.getElem?_set_ne (by omega)]

theorem setMany_len : ∀ (cs xs : List Value) (o : Nat), (setMany xs o cs).length = xs.length
  | [], _, _ => rfl
  | c :: cs, xs, o => by rw [setMany, setMany_len]; simp

theorem setMany_flat (es : List Ev) (i : Nat) (e : Ev) (hi : i < es.length) : setMany (es.flatMap evc) (i * 7) (evc e) = (es.set i e).flatMap evc := by
  apply List.ext_getElem?
  intro j
  rw [setMany_get _ _ _ _ (by rw [flat_len, evc_len]; omega), evc_len]
  by_cases hj : j < es.length * 7
  · obtain ⟨q, c, hc, rfl⟩ : ∃ q c, c < 7 ∧ j = q * 7 + c := ⟨j / 7, j % 7, by omega, by omega⟩
    have hset : ((es.set i e).flatMap evc)[q * 7 + c]? = (evc ((es.set i e)[q]'(by rw [List.length_set]; omega)))[c]? := flat_get (es.set i e) q c (by rw [List.length_set]; omega) hc
    rw [hset]
    by_cases hq : q = i
    · subst hq
      rw [if_pos (by omega), show q * 7 + c - q * 7 = c by omega]
      simp only [List.getElem_set_self]
    · rw [if_neg (by omega), flat_get es q c (by omega) hc]
      simp [List.getElem_set, Ne.symm hq]
  · rw [if_neg (by omega), List.getElem?_eq_none (by rw [flat_len]; omega), List.getElem?_eq_none (by rw [flat_len]; simp; omega)]

theorem owns_many {base e size g n cap : Nat} : ∀ (cs : List Value) (o : Nat) (w : World) (xs : List Value), w.ownsRow base e size (.slice (some ⟨g, 0, none⟩) n cap) n xs →
    (w.setCells g o cs).ownsRow base e size (.slice (some ⟨g, 0, none⟩) n cap) n (setMany xs o cs) ∧ w.grownBy (w.setCells g o cs) (some g)
  | [], _, w, _, h => ⟨h, World.grownBy.refl _ _⟩
  | c :: cs, o, w, xs, h => by
    obtain ⟨h1, g1⟩ := h.stored o c
    obtain ⟨h2, g2⟩ := owns_many cs (o + 1) _ _ h1
    refine ⟨h2, g2.os.trans g1.os, g2.tape.trans g1.tape, g2.output.trans g1.output, Nat.le_trans g1.size g2.size, fun k hk hne => ?_⟩
    exact (g2.block k (Nat.lt_of_lt_of_le hk g1.size) hne).trans (g1.block k hk hne)

/-- The slice v holds the events es, from block 'base' on. -/
def EvRow (w : World) (base : Nat) (v : Value) (es : List Ev) : Prop := w.ownsRow base 35 7 v es.length (es.flatMap evc)

def putEv (w : World) (g o : Nat) (e : Ev) : World := w.setCells g o (evc e)

theorem EvRow.at {w : World} {base g n cap : Nat} {es : List Ev} (h : EvRow w base (.slice (some ⟨g, 0, none⟩) n cap) es) (hn : n = es.length) (i : Nat) (hi : i < es.length) : EvIs w g (i * 7) es[i] := by
  subst hn
  have hcell : ∀ c, c < 7 → w.cell? ⟨g, i * 7 + c, none⟩ = (evc es[i])[c]? := fun c hc => by
    rw [World.ownsRow.cellAt h (i * 7 + c) (by omega), flat_get es i c hi hc]
  refine ⟨fun j v hv => ?_, fun j hj => ⟨?_, World.ownsRow.frozenAt h _⟩⟩
  · have : j < 7 := by have := (List.getElem?_eq_some_iff.1 hv).1; rwa [evc_len] at this
    rw [hcell j this, hv]
  · rw [hcell j hj, List.getElem?_eq_getElem (by rw [evc_len]; exact hj)]
    rfl

theorem EvRow.put {w : World} {base g n cap : Nat} {es : List Ev} (h : EvRow w base (.slice (some ⟨g, 0, none⟩) n cap) es) (hn : n = es.length) (i : Nat) (hi : i < es.length) (e : Ev) :
    EvRow (putEv w g (i * 7) e) base (.slice (some ⟨g, 0, none⟩) n cap) (es.set i e) ∧ w.grownBy (putEv w g (i * 7) e) (some g) := by
  subst hn
  obtain ⟨h1, h2⟩ := owns_many (evc e) (i * 7) w _ h
  refine ⟨?_, h2⟩
  unfold EvRow
  rw [List.length_set, ← setMany_flat es i e hi]
  exact h1

theorem EvRow.drewN {w : World} {base : Nat} {v : Value} {es : List Ev} (h : EvRow w base v es) (n : Nat) : EvRow (w.drewN n) base v es := h

/-! ### The rules for a load and a store of an event -/
theorem info35 : (Try.prog.info? 35).map (fun i => (i.zero, i.size, i.bytes)) = some (some (.agg #[.int .i64 0, .int .u64 0, .int .i64 0, .int .i32 0, .int .i32 0, .int .u8 0, .int .i64 0]), 7, 48) := by kernel_rfl
theorem size35 : (Try.prog.info? 35).map (·.size) = some 7 := by kernel_rfl
theorem isRow35 : (Try.prog.underlying 35).map (·.isRow) = some true := by kernel_rfl

/-- What lies there, read as an event. -/
def evAt (w : World) (g o : Nat) : Ev := ⟨match w.cell? ⟨g, o, none⟩ with | some (.int _ t) => t | _ => 0, match w.cell? ⟨g, o + 5, none⟩ with | some (.int _ t) => t | _ => 0, match w.cell? ⟨g, o + 1, none⟩ with | some (.int _ t) => t | _ => 0⟩
/-- An event lies there. -/
def EvT (w : World) (g o : Nat) : Prop := ∃ e, EvIs w g o e

theorem EvIs.evAt {w : World} {g o : Nat} {e : Ev} (h : EvIs w g o e) : evAt w g o = e := by
  obtain ⟨h0, h1, h5⟩ := h.cells
  simp [Qxb6000059a.evAt, h0, h1, h5]

theorem ev_load (w : World) (g o : Nat) (h : EvT w g o) : (Instr.loadAt 35 (.pointer (some ⟨g, o, none⟩))).run Try.prog w = .ok (.agg (evArr (evAt w g o))) w := by
  obtain ⟨e, he⟩ := h
  obtain ⟨d, hd, hr⟩ := Option.map_eq_some_iff.1 isRow35
  rw [he.evAt]
  exact run_loadAt_mid w g o 35 (evc e) d he.1 hd hr size35

theorem ev_store (w : World) (g o : Nat) (e : Ev) (h : EvT w g o) : (Instr.storeAt 35 (.pointer (some ⟨g, o, none⟩)) (.agg (evArr e))).run Try.prog w = .ok () (putEv w g o e) := by
  obtain ⟨e', he⟩ := h
  exact run_storeAt_mid w g o 35 (evArr e) he.2 size35 (all_oneCell_toArray (cs := evc e) (by simp [evc, Value.oneCell']))

theorem EvT.put {w : World} {g o : Nat} (h : EvT w g o) (g' o' : Nat) (e : Ev) (ha : o = o' ∨ o + 7 ≤ o' ∨ o' + 7 ≤ o ∨ g ≠ g') : EvT (putEv w g' o' e) g o := by
  obtain ⟨x, hx⟩ := h
  by_cases hg : g = g'
  · subst hg
    rcases ha with rfl | h1 | h1 | h1
    · exact ⟨e, World.rangeAt_setCells_same _ _ _ _ hx.2, World.there_setCells hx.2 _ _ _⟩
    · exact ⟨x, World.rangeAt_setCells_apart hx.1 _ _ _ (by rw [evc_len, evc_len]; omega), World.there_setCells hx.2 _ _ _⟩
    · exact ⟨x, World.rangeAt_setCells_apart hx.1 _ _ _ (by rw [evc_len, evc_len]; omega), World.there_setCells hx.2 _ _ _⟩
    · exact absurd rfl h1
  · exact ⟨x, World.rangeAt_setCells_apart hx.1 _ _ _ (.inl hg), World.there_setCells hx.2 _ _ _⟩
theorem EvT.drewN {w : World} {g o : Nat} (h : EvT w g o) (n : Nat) : EvT (w.drewN n) g o := h
theorem EvT_drewN (w : World) (g o n : Nat) : EvT (w.drewN n) g o = EvT w g o := rfl
theorem EvT_drew (w : World) (g o : Nat) : EvT w.drew g o = EvT w g o := rfl
theorem evAt_drewN (w : World) (g o n : Nat) : evAt (w.drewN n) g o = evAt w g o := rfl
theorem evAt_drew (w : World) (g o : Nat) : evAt w.drew g o = evAt w g o := rfl

/-- The same of a value that is a pointer. -/
def EvTp (w : World) : Value → Prop
  | .pointer (some ⟨g, o, none⟩) => EvT w g o
  | _ => False
def evAtp (w : World) : Value → Ev
  | .pointer (some ⟨g, o, none⟩) => evAt w g o
  | _ => ⟨0, 0, 0⟩
def putEvp (w : World) (p : Value) (v : Value) : World :=
  match p, v with
  | .pointer (some ⟨g, o, none⟩), .agg cs => w.setCells g o cs.toList
  | _, _ => w
def isEv : Value → Prop
  | .agg cs => ∃ e, cs = evArr e
  | _ => False
theorem EvTp_eq (w : World) (g o : Nat) : EvTp w (.pointer (some ⟨g, o, none⟩)) = EvT w g o := rfl
theorem evAtp_eq (w : World) (g o : Nat) : evAtp w (.pointer (some ⟨g, o, none⟩)) = evAt w g o := rfl
theorem putEvp_eq (w : World) (g o : Nat) (e : Ev) : putEvp w (.pointer (some ⟨g, o, none⟩)) (.agg (evArr e)) = putEv w g o e := rfl
theorem isEv_eq (e : Ev) : isEv (.agg (evArr e)) = True := eq_true ⟨e, rfl⟩

theorem wp_load35 (dst : Option Tmp) (ty : TypeId) (pos : String) (after : Array _) (guard : Option (Nat × Bool)) (x : Operand) (a : Act) (w : World) (K : Act → World → Prop) (Q : Exit → Act → World → Prop) (h : EvTp w (a.eval x)) :
    Oper.wp Try.prog { dst := dst, op := Op.load 35 x, type := ty, pos := pos, after := after, guard := guard } a w K Q = K (a.put dst (.agg (evArr (evAtp w (a.eval x))))) w := by
  unfold EvTp at h
  split at h
  · rename_i g o hx
    unfold Oper.wp execOp
    simp only [hx, evAtp_eq, Sem.run_bind, Sem.run_pure, Result.andThen_ok, ev_load w g o h]
    rfl
  · exact absurd h (by simp)

theorem wp_store35 (dst : Option Tmp) (ty : TypeId) (pos : String) (after : Array _) (guard : Option (Nat × Bool)) (x y : Operand) (a : Act) (w : World) (K : Act → World → Prop) (Q : Exit → Act → World → Prop) (h : EvTp w (a.eval x)) (hy : isEv (a.eval y)) :
    Oper.wp Try.prog { dst := dst, op := Op.store 35 x y, type := ty, pos := pos, after := after, guard := guard } a w K Q = K (a.put dst undef) (putEvp w (a.eval x) (a.eval y)) := by
  unfold EvTp at h
  split at h
  · rename_i g o hx
    unfold isEv at hy
    split at hy
    · rename_i cs hcs
      obtain ⟨e, rfl⟩ := hy
      unfold Oper.wp execOp
      simp only [hx, hcs, Sem.run_bind, Sem.run_pure, Result.andThen_ok, ev_store w g o e h]
      rfl
    · exact absurd hy (by simp)
  · exact absurd h (by simp)

def aggOf : Value → Array Value
  | .agg cs => cs
  | _ => #[]
theorem aggOf_eq (cs : Array Value) : aggOf (.agg cs) = cs := rfl
theorem wp_build29 (dst : Option Tmp) (ty : TypeId) (pos : String) (after : Array _) (guard : Option (Nat × Bool)) (x : Operand) (a : Act) (w : World) (K : Act → World → Prop) (Q : Exit → Act → World → Prop) (hy : isEv (a.eval x)) :
    Oper.wp Try.prog { dst := dst, op := Op.buildSlice 29 1 #[(0, x)], type := ty, pos := pos, after := after, guard := guard } a w K Q = K (a.put dst (.slice (some ⟨w.heap.size, 0, none⟩) 1 1)) (w.alloc (.cells (aggOf (a.eval x)) 35)) := by
  unfold isEv at hy
  split at hy
  · rename_i cs hcs
    obtain ⟨e, rfl⟩ := hy
    obtain ⟨t, k, s⟩ := e
    unfold Oper.wp execOp
    simp only [List.map_toArray, List.map_cons, List.map_nil, hcs, aggOf_eq]
    simp [evArr, go_sem]
  · exact absurd hy (by simp)

/-- The load and the store, under names that the walk does not open. -/
def ldI (p : Value) : Sem Value := Instr.loadAt 35 p
def stI (p v : Value) : Sem Unit := Instr.storeAt 35 p v
theorem ldI_fold (p : Value) : Instr.loadAt 35 p = ldI p := rfl
theorem stI_fold (p v : Value) : Instr.storeAt 35 p v = stI p v := rfl
theorem ldI_run (w : World) (g o : Nat) (h : EvT w g o) : (ldI (.pointer (some ⟨g, o, none⟩))).run Try.prog w = .ok (.agg (evArr (evAt w g o))) w := ev_load w g o h
theorem stI_run (w : World) (g o : Nat) (e : Ev) (h : EvT w g o) : (stI (.pointer (some ⟨g, o, none⟩)) (.agg (evArr e))).run Try.prog w = .ok () (putEv w g o e) := ev_store w g o e h
theorem EvT_drewN' (w : World) (g o n : Nat) : EvT (w.drewN n) g o ↔ EvT w g o := Iff.rfl
theorem EvT_drew' (w : World) (g o : Nat) : EvT w.drew g o ↔ EvT w g o := Iff.rfl
end Go.Proofs.Qxb6000059a
