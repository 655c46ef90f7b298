/-
  More operations for the layer with a known heap: building structs, boxes, stores that keep the heap's text short, calls, guards, comparing with nil. Conditions: none beyond each lemma's own hypotheses.
-/
import Derived.Test.YtifnhinopjgfaaaGreatFwD
import Derived.WalkSpells
import Derived.LaidEqlPtr
namespace Go.Fw
open Go

def evP (e : Env) : List (Nat × Operand) → Option (List (Nat × Value))
 | [] => some []
 | (i, x) :: r => match ev e x, evP e r with
  | some v, some l => some ((i, v) :: l)
  | _, _ => none
def evL (e : Env) : List Operand → Option (List Value)
 | [] => some []
 | x :: r => match ev e x, evL e r with
  | some v, some l => some (v :: l)
  | _, _ => none

theorem evP_ok {n : Nat} {e : Env} {a : Act} (ha : Sat n e a) : ∀ {ps : List (Nat × Operand)} {vs : List (Nat × Value)}, evP e ps = some vs → (ps.map fun (i, x) => (i, a.eval x)) = vs
 | [], vs, h => by simp [evP] at h; simp [h]
 | (i, x) :: r, vs, h => by
  simp only [evP] at h
  split at h
  ·rename_i v l hx hr
   simp at h
   subst h
   simp [ha.ev hx, evP_ok ha hr]
  ·simp at h
theorem evL_ok {n : Nat} {e : Env} {a : Act} (ha : Sat n e a) : ∀ {ps : List Operand} {vs : List Value}, evL e ps = some vs → ps.map a.eval = vs
 | [], vs, h => by simp [evL] at h; simp [h]
 | x :: r, vs, h => by
  simp only [evL] at h
  split at h
  ·rename_i v l hx hr
   simp at h
   subst h
   simp [ha.ev hx, evL_ok ha hr]
  ·simp at h
theorem evL_map {e : Env} : ∀ {ps : List Operand} {vs : List Value}, evL e ps = some vs → ps.map (ev e) = vs.map some
 | [], vs, h => by simp [evL] at h; simp [h]
 | x :: r, vs, h => by
  simp only [evL] at h
  split at h
  ·rename_i v l hx hr
   simp at h
   subst h
   simp [hx, evL_map hr]
  ·simp at h

def pickH (H : Heap) : List Nat → Option Heap
 | [] => some []
 | i :: r => match H[i]?, pickH H r with
  | some x, some l => some (x :: l)
  | _, _ => none
theorem sub_of {H HS : Heap} : ∀ (idx : List Nat), pickH H idx = some HS → ∀ x ∈ HS, x ∈ H := by
 intro idx
 induction idx generalizing HS with
 | nil => intro h; simp [pickH] at h; subst h; simp
 | cons i r ih =>
  intro h
  simp only [pickH] at h
  split at h
  ·rename_i x l hx hl
   simp at h
   subst h
   intro y hy
   rcases List.mem_cons.1 hy with rfl | hy
   ·exact List.mem_of_getElem? hx
   ·exact ih hl y hy
  ·simp at h

/-- what a struct's literal wants of its type -/
def BldT (P : Program) (t : Nat) (pl : List (Nat × Nat)) (zs : List Value) : Prop := ∃ fs : Array Field,
 (∀ w, (underlying t).run P w = .ok (.struct fs) w) ∧ (∀ w, (zeroValue t).run P w = .ok (.agg zs.toArray) w) ∧
 (∀ w, (fs.mapM fun (g : Field) => (Prod.mk g.offset <$> sizeOf g.type : Sem (Nat × Nat))).run P w = .ok pl.toArray w)

def fillL (pl : List (Nat × Nat)) (cells : List Value) : List (Nat × Value) → Option (List Value)
 | [] => some cells
 | (i, v) :: rest => match pl[i]? with
  | none => none
  | some (off, size) => bif Nat.beq v.cells.size size && Nat.ble (off + v.cells.size) cells.length then fillL pl (setL cells off v.cells.toList) rest else none

theorem foldl_setL : ∀ (vs : List Value) (cs : List Value) (off j : Nat), ((vs.zipIdx j).foldl (fun (cs : Array Value) (x : Value × Nat) => cs.setIfInBounds (off + x.2) x.1) cs.toArray) = (setL cs (off + j) vs).toArray
 | [], cs, off, j => by simp [setL]
 | v :: vs, cs, off, j => by
  simp only [List.zipIdx_cons, List.foldl_cons, setL]
  rw [show cs.toArray.setIfInBounds (off + j) v = (cs.set (off + j) v).toArray by simp]
  rw [foldl_setL vs (cs.set (off + j) v) off (j + 1)]
  rfl

theorem fillL_ok {pl : List (Nat × Nat)} : ∀ {ps : List (Nat × Value)} {cells cs : List Value}, fillL pl cells ps = some cs → Instr.fill (fun x => pl[x]?) cells.toArray ps = some cs.toArray
 | [], cells, cs, h => by simp [fillL] at h; simp [Instr.fill, h]
 | (i, v) :: rest, cells, cs, h => by
  simp only [fillL] at h
  simp only [Instr.fill]
  cases hp : pl[i]? with
  | none => simp [hp] at h
  | some q =>
   obtain ⟨off, size⟩ := q
   simp only [hp] at h
   simp only
   cases hb : (Nat.beq v.cells.size size && Nat.ble (off + v.cells.size) cells.length) with
   | false => rw [hb] at h; simp at h
   | true =>
    rw [hb] at h
    simp only [Bool.and_eq_true, Nat.beq_eq, Nat.ble_eq] at hb
    have hc : ¬ (v.cells.size ≠ size || off + v.cells.size > cells.toArray.size) = true := by
     simp [hb.1]
     omega
    rw [if_neg hc]
    have h2 := foldl_setL v.cells.toList cells off 0
    have h3 : (v.cells.zipIdx.foldl (fun cs (x : Value × Nat) => cs.setIfInBounds (off + x.2) x.1) cells.toArray) = (setL cells off v.cells.toList).toArray := by
     rw [← Array.foldl_toList, Array.toList_zipIdx]
     simpa using h2
    rw [h3]
    exact fillL_ok h

theorem Hp.fresh {w0 w : World} {B : Nat} {H : Heap} (h : Hp ⟨w0, B, []⟩ w H) {i : Nat} {x : Ent} (hx : H[i]? = some x) (ho : x.on = true) (hw : x.wr = true) : w0.heap.size ≤ x.b := by
 rcases h.may (List.mem_of_getElem? hx) ho hw with h | h
 ·exact h
 ·exact absurd h.2 (by simp)

theorem Hp.fr {f : Fm} {w w' : World} {H : Heap} {B : Nat} (h : Hp f w H) (k : Fr B [] w w') : Hp f w' H := h.mono fun _ _ _ o hx => k.keep _ o hx (.inr (by simp))
theorem Fm.ok.fr {f : Fm} {w w' : World} {B : Nat} (h : f.ok w) (k : Fr B [] w w') : f.ok w' := Fr.trans h (k.quiet f.B f.W) (.inr ⟨Nat.le_refl _, fun _ hx => hx⟩)

section
variable {P : Program} {Q : Exit → Act → World → Prop} {n : Nat} {f : Fm} {e : Env} {H : Heap} {ops : Array Oper} {rest : List Oper} {d ty : Nat} {pos : String} {af : Array Edge}

theorem r_build {t : Nat} {pl : List (Nat × Nat)} {zs cs : List Value} {ps : Array (Nat × Operand)} {vs : List (Nat × Value)} (hb : BldT P t pl zs) (hp : evP e ps.toList = some vs) (hc : fillL pl zs vs = some cs)
  {a : Act} {w : World} (ha : Sat n e a) : (execOp a.eval ⟨some d, .build t ps, ty, pos, af, none⟩).run P w = .ok (.value (.agg cs.toArray)) w := by
 obtain ⟨fs, hu, hz, hp0⟩ := hb
 have h1 : (ps.map fun (i, x) => (i, a.eval x)).toList = vs := by rw [Array.toList_map]; exact evP_ok ha hp
 have h2 := fillL_ok hc
 have h3 : (ps.map fun (x : Nat × Operand) => (x.1, a.eval x.2)).toList = vs := h1
 simp at h3
 have hp' := hp0 w
 simp only [execOp, Instr.build]
 simp [hz, hu, Value.cells]
 rw [hp']
 simp [h3, h2]
theorem j_boxA {t : Nat} {x : Operand} {vs : List Value} (hx : ev e x = some (.agg vs.toArray)) (hd : Nat.blt d n = true)
  (k : ∀ b, J P ops Q n f ((d, .pointer (some ⟨b, 0, none⟩)) :: e) (⟨b, t, vs, true, true, none⟩ :: H) rest) : J P ops Q n f e H (⟨some d, .box t x, ty, pos, af, none⟩ :: rest) := j_box hx hd k
theorem j_allocA {t : Nat} {zs : List Value} (hz : ∀ w, (zeroValue t).run P w = .ok (.agg zs.toArray) w) (hd : Nat.blt d n = true)
  (k : ∀ b, J P ops Q n f ((d, .pointer (some ⟨b, 0, none⟩)) :: e) (⟨b, t, zs, true, true, none⟩ :: H) rest) : J P ops Q n f e H (⟨some d, .alloc t, ty, pos, af, none⟩ :: rest) := j_alloc hz hd k
/-- a store, the new cells and the new heap written out -/
theorem j_storeN {t m : Nat} {x z : Operand} {o : Nat} {v : Value} {y : Ent} {cs' : List Value} {H' : Heap} (i : Nat) (hy : H[i]? = some y) (ho : y.on = true) (hob : y.ob = none) (hwr : y.wr = true) (hsz : ∀ w, (sizeOf t).run P w = .ok m w) (hx : ev e x = some (.pointer (some ⟨y.b, o, none⟩))) (hz : ev e z = some v)
  (hm : Nat.beq v.cells.size m = true) (hs : v.cells.toList.all scal = true) (hl : Nat.ble (o + v.cells.size) y.cs.length = true) (hcs : setL y.cs o v.cells.toList = cs') (hH : setH H i cs' = H')
  (k : J P ops Q n f e H' rest) : J P ops Q n f e H (⟨none, .store t x z, ty, pos, af, none⟩ :: rest) := by
 subst hcs; subst hH
 exact j_store i hy ho hob hwr hsz hx hz hm hs hl k
theorem j_callE {g : FuncId} {args : Array Operand} {vs : List Value} {tys : Array TypeId} {R : World → Value → World → Prop} (hg : ∀ (as : Array Value) (w : World), (callFunc g as).run P w = .ok (.enter g as) w)
  (hargs : evL e args.toList = some vs) (hd : Nat.blt d n = true) (hc : ∀ w, Hp f w H → f.ok w → Calls P g vs.toArray w (Ret (R w)))
  (k : ∀ w v w', Hp f w H → f.ok w → R w v w' → L P ops Q n ((d, v) :: e) rest w') : J P ops Q n f e H (⟨some d, .call ⟨.value (.func g), args, tys⟩, ty, pos, af, none⟩ :: rest) :=
 j_call hg (evL_map hargs) hd hc k
/-- a call that only makes new memory, none of which is asked for -/
theorem j_callQ {g : FuncId} {args : Array Operand} {vs : List Value} {tys : Array TypeId} {φ : Value → Prop} (hg : ∀ (as : Array Value) (w : World), (callFunc g as).run P w = .ok (.enter g as) w)
  (hargs : evL e args.toList = some vs) (hd : Nat.blt d n = true) (hc : ∀ w, Hp f w H → f.ok w → Calls P g vs.toArray w (Ret fun v w' => φ v ∧ Fr 0 [] w w'))
  (k : ∀ v, φ v → J P ops Q n f ((d, v) :: e) H rest) : J P ops Q n f e H (⟨some d, .call ⟨.value (.func g), args, tys⟩, ty, pos, af, none⟩ :: rest) :=
 j_callE hg hargs hd hc fun w v w' hH hf hR => k v hR.1 w' (hH.fr hR.2) (hf.fr hR.2)
theorem j_eqv {l : List Oper} {v u : Value} (hp : v = u) (k : J P ops Q n f ((d, u) :: e) H l) : J P ops Q n f ((d, v) :: e) H l := by rw [hp]; exact k
theorem J.sub {l : List Oper} {e' : Env} (hs : Sub e e') (h : J P ops Q n f e' H l) : J P ops Q n f e H l := fun w hH hf a ha => h w hH hf a (ha.sub hs)
theorem yielded_of {a : Act} (ha : Sat n e a) {j t : Nat} {b : Bool} (hj : (ops[j]?).bind (·.dst) = some t) (ht : look e t = some (.bool b)) : yielded ops a.tmps j = some b := by
 unfold yielded
 rw [hj]
 simp [ha.has t _ ht]
theorem j_gt {o : Option Tmp} {op : Op} {j t : Nat} {b : Bool} (hj : (ops[j]?).bind (·.dst) = some t) (ht : look e t = some (.bool b)) (k : J P ops Q n f e H (⟨o, op, ty, pos, af, none⟩ :: rest)) :
  J P ops Q n f e H (⟨o, op, ty, pos, af, some (j, b)⟩ :: rest) := fun w hH hf a ha => by
 have h := k w hH hf a ha
 have hy := yielded_of ha hj ht
 unfold wpList at h ⊢
 rw [if_pos (by simp [Region.wanted])] at h
 rw [if_pos (by simp [Region.wanted, hy])]
 exact h
theorem j_gf {op : Op} {j t : Nat} {b c : Bool} (hj : (ops[j]?).bind (·.dst) = some t) (ht : look e t = some (.bool c)) (hbc : (c != b) = true) (hd : Nat.blt d n = true) (k : J P ops Q n f ((d, undef) :: e) H rest) :
  J P ops Q n f e H (⟨some d, op, ty, pos, af, some (j, b)⟩ :: rest) := fun w hH hf a ha => by
 have hy := yielded_of ha hj ht
 unfold wpList
 rw [if_neg (by simp [Region.wanted, hy]; simpa using hbc)]
 exact k w hH hf _ (ha.put hd)
theorem eval_const (a : Act) (v : Value) : a.eval (.const v) = v := rfl
theorem run_eqIn_pn (dd t : Nat) (p : Option Addr) {te : TypeId} (hu : P.underlying t = some (.pointer te)) (w : World) : (Op.equalIn (dd + 1) t (.pointer p) (.pointer none)).run P w = .ok p.isNone w := by
 cases p <;> simp [Op.equalIn, run_underlying hu]
theorem r_pnneq {t t' : Nat} {x : Operand} {p : Option Addr} {te : TypeId} (hu : P.underlying t = some (.pointer te)) (hx : ev e x = some (.pointer p)) {a : Act} {w : World} (ha : Sat n e a) :
  (execOp a.eval ⟨some d, .binOp .neq t x (.const (.pointer none)) t', ty, pos, af, none⟩).run P w = .ok (.value (.bool (!p.isNone))) w := by
 have h : (binOp .neq t (.pointer p) (.pointer none)).run P w = .ok (.bool (!p.isNone)) w := by
  simp only [binOp]
  simp [Op.equal, Op.maxDepth, run_eqIn_pn 9999 t p hu]
 simp only [execOp, ha.ev hx, eval_const]
 simp [eqGuard, h]
theorem r_mneql {t t' k te : Nat} {x : Operand} {p : Option Nat} (hu : P.underlying t = some (.map k te)) (hx : ev e x = some (.map p)) {a : Act} {w : World} (ha : Sat n e a) :
  (execOp a.eval ⟨some d, .binOp .eql t x (.const (.map none)) t', ty, pos, af, none⟩).run P w = .ok (.value (.bool p.isNone)) w := by
 simp only [execOp, ha.ev hx, eval_const]
 simp [eqGuard, run_eql_map_nil w t k te p hu]
theorem r_mki {t : Nat} {x : Operand} {v : Value} {ds : TypeDesc} (hu : ∀ w, (underlying t).run P w = .ok ds w) (hi : (match ds with | .interface _ => false | _ => true) = true) (hx : ev e x = some v) {a : Act} {w : World} (ha : Sat n e a) :
  (execOp a.eval ⟨some d, .makeInterface t x, ty, pos, af, none⟩).run P w = .ok (.value (.iface t v)) w := by
 simp only [execOp, ha.ev hx, Instr.makeInterface]
 simp [hu]
 cases ds <;> simp_all
end
end Go.Fw
