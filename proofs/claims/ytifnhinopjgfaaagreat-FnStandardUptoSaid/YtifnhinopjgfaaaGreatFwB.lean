/-
  Memory: rows of cells as facts on whole blocks ('Blk'), what a stretch of code leaves as it was ('Fr'), and one lemma for each operation. Conditions: none beyond each lemma's own hypotheses.
-/
import Derived.Test.YtifnhinopjgfaaaGreatFwA
namespace Go.Fw
open Go

def tagOf : Obj → Nat
 | .cells _ T _ => T
 | .map _ _ => 1000000
 | _ => 1000001

/-- block b is a row of cells of element type T, none of them frozen -/
def Blk (w : World) (b : Nat) (T : Nat) (cs : List Value) : Prop := w.heap[b]? = some (.cells cs.toArray T (0, 0))

/-- What of w is still so in w': each block below B, and each block whose tag is not in W. -/
structure Fr (B : Nat) (W : List Nat) (w w' : World) : Prop where
 os : w'.os = w.os
 tape : w'.tape = w.tape
 output : w'.output = w.output
 size : w.heap.size ≤ w'.heap.size
 keep : ∀ (b : Nat) (o : Obj), w.heap[b]? = some o → (b < B ∨ tagOf o ∉ W) → w'.heap[b]? = some o

theorem Fr.refl (B : Nat) (W : List Nat) (w : World) : Fr B W w w := ⟨rfl, rfl, rfl, Nat.le_refl _, fun _ _ h _ => h⟩

theorem Blk.lt {w : World} {b T : Nat} {cs : List Value} (h : Blk w b T cs) : b < w.heap.size := (Array.getElem?_eq_some_iff.1 h).1

theorem Fr.blk {B : Nat} {W : List Nat} {w w' : World} {b T : Nat} {cs : List Value} (h : Fr B W w w') (hb : Blk w b T cs) (hk : b < B ∨ T ∉ W) : Blk w' b T cs := h.keep b _ hb hk

theorem Fr.trans {B B' : Nat} {W W' : List Nat} {w w1 w2 : World} (h : Fr B W w w1) (k : Fr B' W' w1 w2) (hc : w.heap.size ≤ B' ∨ (B ≤ B' ∧ ∀ x ∈ W', x ∈ W)) : Fr B W w w2 := by
 refine ⟨k.os.trans h.os, k.tape.trans h.tape, k.output.trans h.output, Nat.le_trans h.size k.size, ?_⟩
 intro b o hb hk
 refine k.keep b o (h.keep b o hb hk) ?_
 rcases hc with hc | ⟨hB, hW⟩
 ·left
  have := (Array.getElem?_eq_some_iff.1 hb).1
  omega
 ·rcases hk with hk | hk
  ·left; omega
  ·right; exact fun hm => hk (hW _ hm)

theorem Fr.mono {B B' : Nat} {W W' : List Nat} {w w' : World} (h : Fr B W w w') (hc : w.heap.size ≤ B ∨ (B' ≤ B ∧ ∀ x ∈ W, x ∈ W')) : Fr B' W' w w' := by
 refine ⟨h.os, h.tape, h.output, h.size, ?_⟩
 intro b o hb hk
 refine h.keep b o hb ?_
 rcases hc with hc | ⟨hB, hW⟩
 ·left
  have := (Array.getElem?_eq_some_iff.1 hb).1
  omega
 ·rcases hk with hk | hk
  ·left; omega
  ·right; exact fun hm => hk (hW _ hm)

/-- a stretch that writes nothing that there was -/
theorem Fr.quiet {B : Nat} {w w' : World} (h : Fr B [] w w') (B' : Nat) (W' : List Nat) : Fr B' W' w w' := ⟨h.os, h.tape, h.output, h.size, fun b o hb _ => h.keep b o hb (.inr (by simp))⟩

/-- a world with one block more -/
structure New (w w' : World) (b : Nat) (o : Obj) : Prop where
 os : w'.os = w.os
 tape : w'.tape = w.tape
 output : w'.output = w.output
 num : b = w.heap.size
 heap : w'.heap = w.heap.push o

theorem New.fr {w w' : World} {b : Nat} {o : Obj} (h : New w w' b o) (B : Nat) (W : List Nat) : Fr B W w w' := by
 refine ⟨h.os, h.tape, h.output, by simp [h.heap], ?_⟩
 intro c o' hc _
 have := (Array.getElem?_eq_some_iff.1 hc).1
 rw [h.heap, Array.getElem?_push, if_neg (by omega)]
 exact hc
theorem New.at {w w' : World} {b : Nat} {o : Obj} (h : New w w' b o) : w'.heap[b]? = some o := by rw [h.heap, h.num]; simp
theorem New.blk {w w' : World} {b T : Nat} {cs : Array Value} (h : New w w' b (.cells cs T (0, 0))) : Blk w' b T cs.toList := by simpa [Blk] using h.at
theorem New.size {w w' : World} {b : Nat} {o : Obj} (h : New w w' b o) : w'.heap.size = w.heap.size + 1 := by simp [h.heap]

/-- a world with block b turned to o' -/
structure Upd (w w' : World) (b : Nat) (o' : Obj) : Prop where
 os : w'.os = w.os
 tape : w'.tape = w.tape
 output : w'.output = w.output
 size : w'.heap.size = w.heap.size
 at_ : w'.heap[b]? = some o'
 rest : ∀ c, c ≠ b → w'.heap[c]? = w.heap[c]?

theorem Upd.fr {w w' : World} {b : Nat} {o o' : Obj} (h : Upd w w' b o') (ho : w.heap[b]? = some o) {B : Nat} {W : List Nat} (hc : B ≤ b ∧ tagOf o ∈ W) : Fr B W w w' := by
 refine ⟨h.os, h.tape, h.output, by rw [h.size]; exact Nat.le_refl _, ?_⟩
 intro c o1 h1 hk
 by_cases hcb : c = b
 ·subst hcb
  rw [ho] at h1
  cases h1
  rcases hk with hk | hk
  ·omega
  ·exact absurd hc.2 hk
 ·rw [h.rest c hcb]; exact h1
/-- a stretch from w0 on, then a write to block b, which is one of the stretch's own, or may be written -/
theorem Fr.upd {w0 w w' : World} {b : Nat} {o o' : Obj} {B : Nat} {W : List Nat} (hf : Fr B W w0 w) (h : Upd w w' b o') (ho : w.heap[b]? = some o) (hc : w0.heap.size ≤ b ∨ (B ≤ b ∧ tagOf o ∈ W)) : Fr B W w0 w' := by
 rcases hc with hc | hc
 ·refine ⟨h.os.trans hf.os, h.tape.trans hf.tape, h.output.trans hf.output, by rw [h.size]; exact hf.size, ?_⟩
  intro c o1 h1 hk
  have hlt := (Array.getElem?_eq_some_iff.1 h1).1
  rw [h.rest c (by omega)]
  exact hf.keep c o1 h1 hk
 ·exact hf.trans (h.fr ho hc) (.inr ⟨Nat.le_refl _, fun _ hx => hx⟩)
theorem Fr.new {w0 w w' : World} {b : Nat} {o : Obj} {B : Nat} {W : List Nat} (hf : Fr B W w0 w) (h : New w w' b o) : Fr B W w0 w' :=
 hf.trans (h.fr B W) (.inr ⟨Nat.le_refl _, fun _ hx => hx⟩)

theorem Upd.other {w w' : World} {b : Nat} {o' : Obj} (h : Upd w w' b o') {c T : Nat} {cs : List Value} (hc : Blk w c T cs) (hne : c ≠ b) : Blk w' c T cs := by
 unfold Blk; rw [h.rest c hne]; exact hc

theorem Blk.ne {w : World} {b c T U : Nat} {cs ds : List Value} (h : Blk w b T cs) (k : Blk w c U ds) (hT : T ≠ U) : b ≠ c := by
 rintro rfl
 unfold Blk at h k
 rw [h] at k
 cases k
 exact hT rfl

theorem Blk.cell {w : World} {b T : Nat} {cs : List Value} (h : Blk w b T cs) (o : Nat) : w.cell? ⟨b, o, none⟩ = cs[o]? := by
 simp [World.cell?, show w.heap[b]? = some (.cells cs.toArray T (0, 0)) from h]
theorem Blk.cell' {w : World} {b T : Nat} {cs : List Value} (h : Blk w b T cs) {o : Nat} {v : Value} (hv : cs[o]? = some v) : w.cell? ⟨b, o, none⟩ = some v := (h.cell o).trans hv
theorem Blk.frozen {w : World} {b T : Nat} {cs : List Value} (h : Blk w b T cs) (o : Nat) : w.frozen? ⟨b, o, none⟩ = false := by
 simp [World.frozen?, show w.heap[b]? = some (.cells cs.toArray T (0, 0)) from h]

/-- a value that lies in one cell -/
def scal : Value → Bool
 | .agg _ => false
 | .tuple _ => false
 | _ => true

/-! ### operations -/
section
variable {P : Program} {ops : Array Oper} {Q : Exit → Act → World → Prop} {rest : List Oper} {n : Nat} {e : Env} {w : World} {d ty : Nat} {pos : String} {af : Array Edge}

theorem L.val {op : Op} {v : Value} (hd : Nat.blt d n = true) (hr : ∀ a, Sat n e a → (execOp a.eval ⟨some d, op, ty, pos, af, none⟩).run P w = .ok (.value v) w)
  (k : L P ops Q n ((d, v) :: e) rest w) : L P ops Q n e (⟨some d, op, ty, pos, af, none⟩ :: rest) w := fun a ha => by
 unfold wpList
 rw [if_pos (by simp [Region.wanted])]
 refine .inl ?_
 unfold Oper.wp
 rw [hr a ha]
 exact k _ (ha.put hd)
theorem L.valw {op : Op} {v : Value} {w' : World} (hd : Nat.blt d n = true) (hr : ∀ a, Sat n e a → (execOp a.eval ⟨some d, op, ty, pos, af, none⟩).run P w = .ok (.value v) w')
  (k : L P ops Q n ((d, v) :: e) rest w') : L P ops Q n e (⟨some d, op, ty, pos, af, none⟩ :: rest) w := fun a ha => by
 unfold wpList
 rw [if_pos (by simp [Region.wanted])]
 refine .inl ?_
 unfold Oper.wp
 rw [hr a ha]
 exact k _ (ha.put hd)
theorem L.skip {op : Op} {w' : World} (hr : ∀ a, Sat n e a → (execOp a.eval ⟨none, op, ty, pos, af, none⟩).run P w = .ok .skip w')
  (k : L P ops Q n e rest w') : L P ops Q n e (⟨none, op, ty, pos, af, none⟩ :: rest) w := fun a ha => by
 unfold wpList
 rw [if_pos (by simp [Region.wanted])]
 refine .inl ?_
 unfold Oper.wp
 rw [hr a ha]
 exact k _ ha

theorem r_move {x : Operand} {v : Value} (hx : ev e x = some v) {a : Act} (ha : Sat n e a) :
  (execOp a.eval ⟨some d, .move x, ty, pos, af, none⟩).run P w = .ok (.value (v)) w := by simp only [execOp, ha.ev hx]; rfl
theorem r_assign {x : Operand} {v : Value} (hx : ev e x = some v) {a : Act} (ha : Sat n e a) :
  (execOp a.eval ⟨some d, .assign x, ty, pos, af, none⟩).run P w = .ok (.value (v)) w := by simp only [execOp, ha.ev hx]; rfl
theorem r_nil {x : Operand} {p : Addr} (hx : ev e x = some (.pointer (some p))) {a : Act} (ha : Sat n e a) :
  (execOp a.eval ⟨some d, .nilCheck x, ty, pos, af, none⟩).run P w = .ok (.value (.pointer (some p))) w := by simp only [execOp, ha.ev hx]; rfl
theorem r_fld {s f : Nat} {x : Operand} {b o : Nat} {fs : Array Field} {fd : Field} {sz : Nat} (hu : ∀ w, (underlying s).run P w = .ok (.struct fs) w) (hf : fs[f]? = some fd)
  (hsz : ∀ w, (sizeOf fd.type).run P w = .ok (sz + 1) w) (hx : ev e x = some (.pointer (some ⟨b, o, none⟩))) {a : Act} (ha : Sat n e a) :
  (execOp a.eval ⟨some d, .fieldAddr s x f, ty, pos, af, none⟩).run P w = .ok (.value (.pointer (some ⟨b, o + fd.offset, none⟩))) w := by
  have hadd : Addr.add ⟨b, o, none⟩ fd.offset = ⟨b, o + fd.offset, none⟩ := by
   unfold Addr.add
   split
   ·rename_i h; rw [h]; rfl
   ·rfl
  (simp only [execOp, ha.ev hx]; simp [Instr.fieldAt, hu, hf, Instr.sureAddr, fieldPlace, hsz, hadd])
theorem r_load {t : Nat} {x : Operand} {b o : Nat} {v : Value} (hag : ∀ w, (isAgg t).run P w = .ok false w) (hx : ev e x = some (.pointer (some ⟨b, o, none⟩))) (hv : w.cell? ⟨b, o, none⟩ = some v) {a : Act} (ha : Sat n e a) :
  (execOp a.eval ⟨some d, .load t x, ty, pos, af, none⟩).run P w = .ok (.value (v)) w := by (simp only [execOp, ha.ev hx]; simp [Instr.loadAt, Instr.sureAddr, loadVar, hag, hv])
theorem run_loadCellsFrom {b : Nat} (w : World) : ∀ (vs : List Value) (o i : Nat) (acc : Array Value), (∀ j v, vs[j]? = some v → w.cell? ⟨b, o + (i + j), none⟩ = some v) →
  (loadCellsFrom ⟨b, o, none⟩ i vs.length acc).run P w = .ok (acc ++ vs.toArray) w
 | [], o, i, acc, _ => by simp [loadCellsFrom]
 | v :: vs, o, i, acc, h => by
  have h0 : w.cell? (Addr.add ⟨b, o, none⟩ i) = some v := by
   have := h 0 v rfl
   unfold Addr.add
   split
   ·rename_i hi; subst hi; simpa using this
   ·simpa using this
  simp only [List.length_cons, loadCellsFrom, Sem.run_bind, run_load, h0, Result.andThen_ok]
  rw [run_loadCellsFrom w vs o (i + 1) (acc.push v) (fun j u hj => by
   have := h (j + 1) u (by simpa using hj)
   rw [show o + (i + 1 + j) = o + (i + (j + 1)) by omega]; exact this)]
  simp
theorem run_loadCells {b : Nat} (w : World) (vs : List Value) (o : Nat) (h : ∀ j v, vs[j]? = some v → w.cell? ⟨b, o + j, none⟩ = some v) :
  (loadCells ⟨b, o, none⟩ vs.length).run P w = .ok vs.toArray w := by
 unfold loadCells
 rw [run_loadCellsFrom w vs o 0 #[] (fun j v hj => by simpa using h j v hj)]
 simp

theorem r_loadA {t : Nat} {x : Operand} {b o : Nat} {vs : List Value} {m : Nat} (hag : ∀ w, (isAgg t).run P w = .ok true w) (hsz : ∀ w, (sizeOf t).run P w = .ok m w) (hx : ev e x = some (.pointer (some ⟨b, o, none⟩)))
  (hm : Nat.beq vs.length m = true) (hv : ∀ j v, vs[j]? = some v → w.cell? ⟨b, o + j, none⟩ = some v) {a : Act} (ha : Sat n e a) :
  (execOp a.eval ⟨some d, .load t x, ty, pos, af, none⟩).run P w = .ok (.value (.agg vs.toArray)) w := by
  have hm' := Nat.eq_of_beq_eq_true hm
  subst hm'
  (simp only [execOp, ha.ev hx]; simp [Instr.loadAt, Instr.sureAddr, loadVar, hag, hsz, run_loadCells w vs o hv])
/-- the whole of a block -/
theorem Blk.cells {b T : Nat} {cs : List Value} (h : Blk w b T cs) : ∀ j v, cs[j]? = some v → w.cell? ⟨b, 0 + j, none⟩ = some v := fun j v hj => by rw [Nat.zero_add, h.cell]; exact hj
/-- a part of a block -/
theorem Blk.mid {b T : Nat} {cs : List Value} (h : Blk w b T cs) (o m : Nat) : ∀ j v, ((cs.drop o).take m)[j]? = some v → w.cell? ⟨b, o + j, none⟩ = some v := fun j v hj => by
 rw [h.cell]
 rw [List.getElem?_take] at hj
 split at hj
 ·rw [List.getElem?_drop] at hj; exact hj
 ·exact absurd hj (by simp)

theorem run_newVar (t : Nat) (v : Value) (w : World) : (newVar t v).run P w = .ok ⟨w.heap.size, 0, none⟩ { w with heap := w.heap.push (.cells v.cells t) } := by
 simp [newVar, newRow, newObj, Sem.run]
theorem o_box {t : Nat} {x : Operand} {v : Value} (hx : ev e x = some v) (hd : Nat.blt d n = true)
  (k : ∀ w' b, New w w' b (.cells v.cells t (0, 0)) → L P ops Q n ((d, .pointer (some ⟨b, 0, none⟩)) :: e) rest w') : L P ops Q n e (⟨some d, .box t x, ty, pos, af, none⟩ :: rest) w :=
 L.valw hd (fun a ha => by simp only [execOp, ha.ev hx, Instr.box]; simp [run_newVar]) (k { w with heap := w.heap.push (.cells v.cells t) } w.heap.size ⟨rfl, rfl, rfl, rfl, rfl⟩)
theorem o_alloc {t : Nat} {z : Value} (hz : ∀ w, (zeroValue t).run P w = .ok z w) (hd : Nat.blt d n = true)
  (k : ∀ w' b, New w w' b (.cells z.cells t (0, 0)) → L P ops Q n ((d, .pointer (some ⟨b, 0, none⟩)) :: e) rest w') : L P ops Q n e (⟨some d, .alloc t, ty, pos, af, none⟩ :: rest) w :=
 L.valw hd (fun a ha => by simp only [execOp, Instr.alloc]; simp [hz, run_newVar]) (k { w with heap := w.heap.push (.cells z.cells t) } w.heap.size ⟨rfl, rfl, rfl, rfl, rfl⟩)

/-! #### stores -/
def setL (cs : List Value) (o : Nat) : List Value → List Value
 | [] => cs
 | v :: vs => setL (cs.set o v) (o + 1) vs

theorem setL_length : ∀ (vs cs : List Value) (o : Nat), (setL cs o vs).length = cs.length
 | [], _, _ => rfl
 | v :: vs, cs, o => by rw [setL, setL_length vs]; simp

theorem run_storeCells {b T : Nat} : ∀ (vs : List Value) (w : World) (cs : List Value) (o i : Nat), Blk w b T cs → o + (i + vs.length) ≤ cs.length → vs.all scal = true →
  ∃ w', (storeCells ⟨b, o, none⟩ vs i).run P w = .ok () w' ∧ Upd w w' b (.cells (setL cs (o + i) vs).toArray T (0, 0))
 | [], w, cs, o, i, hb, _, _ => ⟨w, by simp [storeCells], ⟨rfl, rfl, rfl, rfl, hb, fun _ _ => rfl⟩⟩
 | v :: vs, w, cs, o, i, hb, hl, hs => by
  simp only [List.length_cons] at hl
  simp only [List.all_cons, Bool.and_eq_true] at hs
  have hadd : Addr.add ⟨b, o, none⟩ i = ⟨b, o + i, none⟩ := by
   unfold Addr.add
   split
   ·rename_i hi; subst hi; rfl
   ·rfl
  have hcell : w.cell? ⟨b, o + i, none⟩ = some cs[o + i] := by rw [hb.cell]; simp [show o + i < cs.length by omega]
  have hfr := hb.frozen (o + i)
  let w1 := w.setCell ⟨b, o + i, none⟩ v
  have h1 : Upd w w1 b (.cells (cs.set (o + i) v).toArray T (0, 0)) := by
   refine ⟨rfl, rfl, rfl, by simp [w1, World.setCell], ?_, ?_⟩
   ·simp only [w1, World.setCell, Array.getElem?_modify, if_true]
    rw [show w.heap[b]? = some (.cells cs.toArray T (0, 0)) from hb]
    simp
   ·intro c hc
    simp only [w1, World.setCell, Array.getElem?_modify]
    rw [if_neg (by omega)]
  obtain ⟨w2, hr, h2⟩ := run_storeCells vs w1 (cs.set (o + i) v) o (i + 1) h1.at_ (by simp; omega) hs.2
  refine ⟨w2, ?_, ?_⟩
  ·have hst : ∀ k : Sem Unit, (Sem.store .plain ⟨b, o + i, none⟩ v k).run P w = k.run P w1 := fun k => by
    cases v <;> simp_all [Sem.run, scal, w1]
   simp only [storeCells, store, hadd, Sem.run_bind, hst, Sem.run_pure', Result.andThen_ok]
   exact hr
  ·refine ⟨h2.os.trans h1.os, h2.tape.trans h1.tape, h2.output.trans h1.output, h2.size.trans h1.size, ?_, fun c hc => (h2.rest c hc).trans (h1.rest c hc)⟩
   rw [h2.at_]
   rfl

theorem o_store {t : Nat} {x y : Operand} {b o T m : Nat} {v : Value} {cs : List Value} (hsz : ∀ w, (sizeOf t).run P w = .ok m w) (hx : ev e x = some (.pointer (some ⟨b, o, none⟩))) (hy : ev e y = some v)
  (hb : Blk w b T cs) (hm : Nat.beq v.cells.size m = true) (hs : v.cells.toList.all scal = true) (hl : Nat.ble (o + v.cells.size) cs.length = true)
  (k : ∀ w', Upd w w' b (.cells (setL cs o v.cells.toList).toArray T (0, 0)) → L P ops Q n e rest w') : L P ops Q n e (⟨none, .store t x y, ty, pos, af, none⟩ :: rest) w := by
 have hl' : o + v.cells.size ≤ cs.length := by simpa using hl
 have hm' := Nat.eq_of_beq_eq_true hm
 obtain ⟨w', hr, hu⟩ := run_storeCells (P := P) v.cells.toList w cs o 0 hb (by simpa using hl') hs
 refine L.skip (w' := w') (fun a ha => ?_) (k w' (by simpa using hu))
 (simp only [execOp, ha.ev hx, ha.ev hy]; simp [Instr.storeAt, Instr.sureAddr, storeVar, hsz, hm', hr])

/-! #### numbers, strings -/
theorem r_add {t t' : Nat} {x y : Operand} {kd : IntKind} {p q : Int} (hx : ev e x = some (.int kd p)) (hy : ev e y = some (.int kd q)) {a : Act} (ha : Sat n e a) :
  (execOp a.eval ⟨some d, .binOp .add t x y t', ty, pos, af, none⟩).run P w = .ok (.value (.int kd (kd.wrap (p + q)))) w := by (simp only [execOp, ha.ev hx, ha.ev hy]; simp [eqGuard, binOp, Op.intArith])
theorem r_sub {t t' : Nat} {x y : Operand} {kd : IntKind} {p q : Int} (hx : ev e x = some (.int kd p)) (hy : ev e y = some (.int kd q)) {a : Act} (ha : Sat n e a) :
  (execOp a.eval ⟨some d, .binOp .sub t x y t', ty, pos, af, none⟩).run P w = .ok (.value (.int kd (kd.wrap (p - q)))) w := by (simp only [execOp, ha.ev hx, ha.ev hy]; simp [eqGuard, binOp, Op.intArith])
theorem r_lss {t t' : Nat} {x y : Operand} {kd : IntKind} {p q : Int} (hx : ev e x = some (.int kd p)) (hy : ev e y = some (.int kd q)) {a : Act} (ha : Sat n e a) :
  (execOp a.eval ⟨some d, .binOp .lss t x y t', ty, pos, af, none⟩).run P w = .ok (.value (.bool (decide (p < q)))) w := by (simp only [execOp, ha.ev hx, ha.ev hy]; simp [eqGuard, binOp, Op.intCmp])
theorem r_leq {t t' : Nat} {x y : Operand} {kd : IntKind} {p q : Int} (hx : ev e x = some (.int kd p)) (hy : ev e y = some (.int kd q)) {a : Act} (ha : Sat n e a) :
  (execOp a.eval ⟨some d, .binOp .leq t x y t', ty, pos, af, none⟩).run P w = .ok (.value (.bool (decide (p ≤ q)))) w := by (simp only [execOp, ha.ev hx, ha.ev hy]; simp [eqGuard, binOp, Op.intCmp])
theorem r_gtr {t t' : Nat} {x y : Operand} {kd : IntKind} {p q : Int} (hx : ev e x = some (.int kd p)) (hy : ev e y = some (.int kd q)) {a : Act} (ha : Sat n e a) :
  (execOp a.eval ⟨some d, .binOp .gtr t x y t', ty, pos, af, none⟩).run P w = .ok (.value (.bool (decide (q < p)))) w := by (simp only [execOp, ha.ev hx, ha.ev hy]; simp [eqGuard, binOp, Op.intCmp])
theorem r_geq {t t' : Nat} {x y : Operand} {kd : IntKind} {p q : Int} (hx : ev e x = some (.int kd p)) (hy : ev e y = some (.int kd q)) {a : Act} (ha : Sat n e a) :
  (execOp a.eval ⟨some d, .binOp .geq t x y t', ty, pos, af, none⟩).run P w = .ok (.value (.bool (decide (q ≤ p)))) w := by (simp only [execOp, ha.ev hx, ha.ev hy]; simp [eqGuard, binOp, Op.intCmp])
theorem r_eql {t t' : Nat} {x y : Operand} {kd : IntKind} {p q : Int} (hx : ev e x = some (.int kd p)) (hy : ev e y = some (.int kd q)) {a : Act} (ha : Sat n e a) :
  (execOp a.eval ⟨some d, .binOp .eql t x y t', ty, pos, af, none⟩).run P w = .ok (.value (.bool (decide (p = q)))) w := by
  have : (p == q) = decide (p = q) := by rw [Bool.eq_iff_iff]; simp
  (simp only [execOp, ha.ev hx, ha.ev hy]; simp [eqGuard, binOp, Op.intCmp, this])
theorem r_neq {t t' : Nat} {x y : Operand} {kd : IntKind} {p q : Int} (hx : ev e x = some (.int kd p)) (hy : ev e y = some (.int kd q)) {a : Act} (ha : Sat n e a) :
  (execOp a.eval ⟨some d, .binOp .neq t x y t', ty, pos, af, none⟩).run P w = .ok (.value (.bool (decide (p ≠ q)))) w := by
  have : (p != q) = decide (p ≠ q) := by rw [Bool.eq_iff_iff]; simp
  (simp only [execOp, ha.ev hx, ha.ev hy]; simp [eqGuard, binOp, Op.intCmp, this])
theorem ba_eq (x y : ByteArray) : (x.toList == y.toList) = decide (x = y) := by
 rw [ByteArray.toList_eq, ByteArray.toList_eq, Bool.eq_iff_iff]
 simp only [beq_iff_eq, decide_eq_true_eq]
 constructor
 ·intro h
  cases x; cases y
  simpa using h
 ·rintro rfl; rfl
theorem r_seql {t t' : Nat} {x y : Operand} {p q : ByteArray} (hx : ev e x = some (.string p)) (hy : ev e y = some (.string q)) {a : Act} (ha : Sat n e a) :
  (execOp a.eval ⟨some d, .binOp .eql t x y t', ty, pos, af, none⟩).run P w = .ok (.value (.bool (decide (p = q)))) w := by (simp only [execOp, ha.ev hx, ha.ev hy]; simp [eqGuard, binOp, Op.stringOp, ba_eq])
theorem r_sneq {t t' : Nat} {x y : Operand} {p q : ByteArray} (hx : ev e x = some (.string p)) (hy : ev e y = some (.string q)) {a : Act} (ha : Sat n e a) :
  (execOp a.eval ⟨some d, .binOp .neq t x y t', ty, pos, af, none⟩).run P w = .ok (.value (.bool (decide (p ≠ q)))) w := by (simp only [execOp, ha.ev hx, ha.ev hy]; simp [eqGuard, binOp, Op.stringOp, ba_eq])
theorem r_not {t : Nat} {x : Operand} {b : Bool} (hx : ev e x = some (.bool b)) {a : Act} (ha : Sat n e a) :
  (execOp a.eval ⟨some d, .unOp .not t x, ty, pos, af, none⟩).run P w = .ok (.value (.bool (!b))) w := by (simp only [execOp, ha.ev hx]; simp [Op.unary])
theorem r_extract {x : Operand} {vs : List Value} {i : Nat} {v : Value} (hx : ev e x = some (.tuple vs.toArray)) (hv : vs[i]? = some v) {a : Act} (ha : Sat n e a) :
  (execOp a.eval ⟨some d, .extract x i, ty, pos, af, none⟩).run P w = .ok (.value (v)) w := by (simp only [execOp, ha.ev hx]; simp [Instr.extract, hv])
/-- len of a slice -/
theorem r_len {t : Nat} {x : Operand} {p : Option Addr} {l c elem : Nat} (hu : ∀ w, (underlying t).run P w = .ok (.slice elem) w) (hx : ev e x = some (.slice p l c)) {a : Act} (ha : Sat n e a) :
  (execOp a.eval ⟨some d, .call ⟨.builtin .len, #[x], #[t]⟩, ty, pos, af, none⟩).run P w = .ok (.value (.int .i64 l)) w := by (simp only [execOp]; simp [resolve, invoke, builtin, Builtin.len_, hu, goInt, ha.ev hx])
/-- len of a string -/
theorem r_slen {t : Nat} {x : Operand} {s : ByteArray} (hu : ∀ w, (underlying t).run P w = .ok .string w) (hx : ev e x = some (.string s)) {a : Act} (ha : Sat n e a) :
  (execOp a.eval ⟨some d, .call ⟨.builtin .len, #[x], #[t]⟩, ty, pos, af, none⟩).run P w = .ok (.value (.int .i64 s.size)) w := by (simp only [execOp]; simp [resolve, invoke, builtin, Builtin.len_, hu, goInt, ha.ev hx])
/-- the address of a slice's element -/
theorem r_idx {t : Nat} {x y : Operand} {b o l c elem sz : Nat} {kd : IntKind} {i : Nat} (hu : ∀ w, (underlying t).run P w = .ok (.slice elem) w) (hsz : ∀ w, (sizeOf elem).run P w = .ok sz w)
  (hx : ev e x = some (.slice (some ⟨b, o, none⟩) l c)) (hy : ev e y = some (.int kd i)) (hi : i < l) {a : Act} (ha : Sat n e a) :
  (execOp a.eval ⟨some d, .indexAddr t x y, ty, pos, af, none⟩).run P w = .ok (.value (.pointer (some ⟨b, o + i * sz, none⟩))) w := by
  have hadd : Addr.add ⟨b, o, none⟩ (i * sz) = ⟨b, o + i * sz, none⟩ := by
   unfold Addr.add
   split
   ·rename_i h; rw [h]; rfl
   ·rfl
  (simp only [execOp, ha.ev hx, ha.ev hy]; simp [Instr.indexAt, asIntOf, hu, hsz, hi, hadd])
theorem r_conv {s t : Nat} {x : Operand} {kd kd' : IntKind} {p : Int} {ds : TypeDesc} (hs : ∀ w, (underlying s).run P w = .ok ds w) (ht : ∀ w, (underlying t).run P w = .ok (.int kd') w)
  (hx : ev e x = some (.int kd p)) {a : Act} (ha : Sat n e a) :
  (execOp a.eval ⟨some d, .convert s t x, ty, pos, af, none⟩).run P w = .ok (.value (.int kd' (kd'.wrap p))) w := by (simp only [execOp, ha.ev hx]; simp [convert, hs, ht, Conv.intToInt])
/-! #### calls -/
theorem o_call {f : FuncId} {args : Array Operand} {vs : List Value} {tys : Array TypeId} {R : Value → World → Prop} (hf : ∀ (as : Array Value) (w : World), (callFunc f as).run P w = .ok (.enter f as) w)
  (hargs : args.toList.map (ev e) = vs.map some) (hc : Calls P f vs.toArray w (Ret R)) (hd : Nat.blt d n = true)
  (k : ∀ v w', R v w' → L P ops Q n ((d, v) :: e) rest w') : L P ops Q n e (⟨some d, .call ⟨.value (.func f), args, tys⟩, ty, pos, af, none⟩ :: rest) w := fun a ha => by
 have hmap : args.map a.eval = vs.toArray := by
  apply Array.toList_inj.1
  rw [Array.toList_map]
  have : ∀ (xs : List Operand) (vs : List Value), xs.map (ev e) = vs.map some → xs.map a.eval = vs := by
   intro xs
   induction xs with
   | nil => intro vs h; cases vs <;> simp_all
   | cons x xs ih =>
    intro vs h
    cases vs with
    | nil => simp at h
    | cons v vs =>
     simp only [List.map_cons, List.cons.injEq] at h
     simp [ha.ev h.1, ih vs h.2]
  simpa using this _ _ hargs
 unfold wpList
 rw [if_pos (by simp [Region.wanted])]
 refine .inl ?_
 have hrun : (execOp a.eval ⟨some d, .call ⟨.value (.func f), args, tys⟩, ty, pos, af, none⟩).run P w = .ok (.enter f vs.toArray) w := by
  simp only [execOp, resolve, hmap, Act.eval, Deferred.ofValue]
  simp [invoke, hf]
 unfold Oper.wp
 rw [hrun]
 refine Calls.mono hc fun e w' he => ?_
 cases e with
 | returned v => exact k v w' he _ (ha.put hd)
 | panicked c => exact he.elim
 | outgrown => exact he.elim
end
end Go.Fw
