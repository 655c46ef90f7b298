/-
  The layer with a known heap: 'H' lists blocks with their cells; what else there was is as it was ('Fr'). Conditions: none beyond each lemma's own hypotheses.
-/
import Derived.Test.YtifnhinopjgfaaaGreatFwC
namespace Go.Fw
open Go

/-- a block that is known: its number, its element type, its cells, whether it may be written, whether it is such a row (a nil slice's is not), and what it is if it is another thing (a map) -/
structure Ent where
 b : Nat
 T : Nat
 cs : List Value
 wr : Bool
 on : Bool := true
 ob : Option Obj := none

abbrev Heap := List Ent

/-- where a stretch began, and what of it may be written -/
structure Fm where
 ws : World
 B : Nat
 W : List Nat

def Fm.ok (f : Fm) (w : World) : Prop := Fr f.B f.W f.ws w
/-- block b with element type T may be written -/
def Fm.may (f : Fm) (b T : Nat) : Prop := f.ws.heap.size ≤ b ∨ (f.B ≤ b ∧ T ∈ f.W)

def Obj.isRow : Obj → Bool
 | .cells _ _ _ => true
 | _ => false
def Ent.ex (x : Ent) : Bool := x.on || x.ob.isSome
def Ent.tag (x : Ent) : Nat := match x.ob with | some o => tagOf o | none => x.T
structure Ent.has (x : Ent) (w : World) : Prop where
 row : x.on = true → Blk w x.b x.T x.cs
 obj : ∀ o, x.ob = some o → w.heap[x.b]? = some o

theorem Ent.has.lt {x : Ent} {w : World} (h : x.has w) (he : x.ex = true) : x.b < w.heap.size := by
 simp only [Ent.ex, Bool.or_eq_true] at he
 rcases he with he | he
 ·exact (h.row he).lt
 ·obtain ⟨o, ho⟩ := Option.isSome_iff_exists.1 he
  exact (Array.getElem?_eq_some_iff.1 (h.obj o ho)).1

def Hp (f : Fm) (w : World) : Heap → Prop
 | [] => True
 | x :: r => x.has w ∧ (x.ex = true → x.wr = true → f.may x.b x.tag) ∧ (x.ex = true → ∀ y ∈ r, y.ex = true → y.b ≠ x.b) ∧ Hp f w r

theorem Hp.has {f : Fm} {w : World} : ∀ {H : Heap}, Hp f w H → ∀ {x : Ent}, x ∈ H → x.has w
 | y :: r, h, x, hx => by
  rcases List.mem_cons.1 hx with rfl | hx
  ·exact h.1
  ·exact Hp.has h.2.2.2 hx
theorem Hp.blk {f : Fm} {w : World} {H : Heap} (h : Hp f w H) {x : Ent} (hx : x ∈ H) (ho : x.on = true) : Blk w x.b x.T x.cs := (h.has hx).row ho
theorem Hp.mayx {f : Fm} {w : World} : ∀ {H : Heap}, Hp f w H → ∀ {x : Ent}, x ∈ H → x.ex = true → x.wr = true → f.may x.b x.tag
 | y :: r, h, x, hx => by
  rcases List.mem_cons.1 hx with rfl | hx
  ·exact h.2.1
  ·exact Hp.mayx h.2.2.2 hx
theorem Hp.may {f : Fm} {w : World} {H : Heap} (h : Hp f w H) {x : Ent} (hx : x ∈ H) (ho : x.on = true) (hw : x.wr = true) : f.may x.b x.T := by
 have h1 := h.mayx hx (by simp [Ent.ex, ho]) hw
 have h2 : x.tag = x.T := by
  unfold Ent.tag
  split
  ·rename_i o hob
   have h3 := (h.has hx).obj o hob
   have h4 : w.heap[x.b]? = some (.cells x.cs.toArray x.T (0, 0)) := h.blk hx ho
   rw [h4] at h3
   injection h3 with h3
   rw [← h3]; rfl
  ·rfl
 rw [h2] at h1
 exact h1
theorem Hp.get {f : Fm} {w : World} {H : Heap} (h : Hp f w H) {i : Nat} {x : Ent} (hx : H[i]? = some x) (ho : x.on = true) : Blk w x.b x.T x.cs := h.blk (List.mem_of_getElem? hx) ho
theorem Hp.obj {f : Fm} {w : World} {H : Heap} (h : Hp f w H) {i : Nat} {x : Ent} {o : Obj} (hx : H[i]? = some x) (ho : x.ob = some o) : w.heap[x.b]? = some o := (h.has (List.mem_of_getElem? hx)).obj o ho

theorem Hp.mono {f : Fm} {w w' : World} : ∀ {H : Heap}, Hp f w H → (∀ x ∈ H, x.ex = true → ∀ o : Obj, w.heap[x.b]? = some o → w'.heap[x.b]? = some o) → Hp f w' H
 | [], _, _ => trivial
 | x :: r, h, hk => ⟨⟨fun ho => hk x (by simp) (by simp [Ent.ex, ho]) _ (h.1.row ho), fun o ho => hk x (by simp) (by simp [Ent.ex, ho]) _ (h.1.obj o ho)⟩, h.2.1, h.2.2.1, Hp.mono h.2.2.2 fun y hy => hk y (by simp [hy])⟩

theorem New.keepO {w w' : World} {b : Nat} {o : Obj} (h : New w w' b o) {c : Nat} {o1 : Obj} (hc : w.heap[c]? = some o1) : w'.heap[c]? = some o1 := (h.fr 0 []).keep c o1 hc (.inr (by simp))
theorem New.keepB {w w' : World} {b : Nat} {o : Obj} (h : New w w' b o) {c T : Nat} {cs : List Value} (hc : Blk w c T cs) : Blk w' c T cs := (h.fr 0 []).blk hc (.inr (by simp))

theorem Hp.new {f : Fm} {w w' : World} {H : Heap} {b T : Nat} {cs : Array Value} (h : Hp f w H) (hf : f.ok w) (hn : New w w' b (.cells cs T (0, 0))) : Hp f w' (⟨b, T, cs.toList, true, true, none⟩ :: H) := by
 refine ⟨⟨fun _ => hn.blk, fun o ho => by simp at ho⟩, fun _ _ => .inl ?_, ?_, h.mono fun x _ _ o hx => hn.keepO hx⟩
 ·have := hf.size
  rw [hn.num]; exact this
 ·intro _ y hy ho
  have := (h.has hy).lt ho
  have := hn.num
  simp only
  omega
theorem Hp.newO {f : Fm} {w w' : World} {H : Heap} {b : Nat} {o : Obj} (h : Hp f w H) (hf : f.ok w) (hn : New w w' b o) : Hp f w' (⟨b, 0, [], true, false, some o⟩ :: H) := by
 refine ⟨⟨fun ho => by simp at ho, fun o' ho => by simp at ho; subst ho; exact hn.at⟩, fun _ _ => .inl ?_, ?_, h.mono fun x _ _ o hx => hn.keepO hx⟩
 ·have := hf.size
  rw [hn.num]; exact this
 ·intro _ y hy ho
  have := (h.has hy).lt ho
  have := hn.num
  simp only
  omega
theorem Fm.ok.new {f : Fm} {w w' : World} {b : Nat} {o : Obj} (hf : f.ok w) (hn : New w w' b o) : f.ok w' := Fr.new hf hn

/-- the i-th block turned -/
def setH : Heap → Nat → List Value → Heap
 | [], _, _ => []
 | x :: r, 0, cs => ⟨x.b, x.T, cs, x.wr, x.on, x.ob⟩ :: r
 | x :: r, i + 1, cs => x :: setH r i cs
/-- the i-th entry replaced -/
def putH : Heap → Nat → Ent → Heap
 | [], _, _ => []
 | _ :: r, 0, y => y :: r
 | x :: r, i + 1, y => x :: putH r i y
theorem mem_putH {H : Heap} {i : Nat} {y z : Ent} (h : z ∈ putH H i y) : z = y ∨ z ∈ H := by
 induction H generalizing i with
 | nil => simp [putH] at h
 | cons x r ih =>
  cases i with
  | zero =>
   rcases List.mem_cons.1 h with h | h
   ·exact .inl h
   ·exact .inr (by simp [h])
  | succ i =>
   rcases List.mem_cons.1 h with h | h
   ·exact .inr (by simp [h])
   ·rcases ih h with h | h
    ·exact .inl h
    ·exact .inr (by simp [h])
theorem putH_self : ∀ {H : Heap} {i : Nat} {y : Ent}, H[i]? = some y → putH H i y = H
 | x :: r, 0, y, h => by simp at h; subst h; rfl
 | x :: r, i + 1, y, h => by simp at h; simp [putH, putH_self h]
theorem setH_put : ∀ {H : Heap} {i : Nat} {y : Ent} {cs : List Value}, H[i]? = some y → setH H i cs = putH H i ⟨y.b, y.T, cs, y.wr, y.on, y.ob⟩
 | x :: r, 0, y, cs, h => by simp at h; subst h; rfl
 | x :: r, i + 1, y, cs, h => by simp at h; simp [putH, setH, setH_put h]

/-- block y.b turned, and the i-th entry with it -/
theorem Hp.put {f : Fm} {w w' : World} {o' : Obj} {H : Heap} {i : Nat} {y y' : Ent} (h : Hp f w H) (hx : H[i]? = some y) (ho : y.ex = true) (hb : y'.b = y.b) (hm : y'.ex = true → y'.wr = true → f.may y'.b y'.tag) (hu : Upd w w' y.b o')
  (hh : y'.has w') : Hp f w' (putH H i y') := by
 induction H generalizing i with
 | nil => simp at hx
 | cons x r ih =>
  cases i with
  | zero =>
   simp only [List.getElem?_cons_zero, Option.some.injEq] at hx
   subst hx
   exact ⟨hh, hm, fun _ => by rw [hb]; exact h.2.2.1 ho, h.2.2.2.mono fun z hz hzx o hzo => by rw [hu.rest _ (h.2.2.1 ho z hz hzx)]; exact hzo⟩
  | succ i =>
   simp only [List.getElem?_cons_succ] at hx
   have hmem : y ∈ r := List.mem_of_getElem? hx
   refine ⟨⟨fun hxo => ?_, fun o hxo => ?_⟩, h.2.1, ?_, ih h.2.2.2 hx⟩
   ·have hne := h.2.2.1 (by simp [Ent.ex, hxo]) y hmem ho
    exact hu.other (h.1.row hxo) hne.symm
   ·have hne := h.2.2.1 (by simp [Ent.ex, hxo]) y hmem ho
    rw [hu.rest _ hne.symm]; exact h.1.obj o hxo
   ·intro hxx z hz hzx
    rcases mem_putH hz with rfl | hz
    ·rw [hb]; exact h.2.2.1 hxx y hmem ho
    ·exact h.2.2.1 hxx z hz hzx
theorem Hp.upd {f : Fm} {w w' : World} {H : Heap} {i : Nat} {x : Ent} {cs : List Value} (h : Hp f w H) (hx : H[i]? = some x) (ho : x.on = true) (hu : Upd w w' x.b (.cells cs.toArray x.T (0, 0))) (hob : x.ob = none) : Hp f w' (setH H i cs) := by
 rw [setH_put hx]
 refine h.put hx (by simp [Ent.ex, ho]) rfl ?_ hu ⟨fun _ => hu.at_, fun o hoo => by rw [hob] at hoo; cases hoo⟩
 intro h1 h2
 exact h.mayx (x := x) (List.mem_of_getElem? hx) h1 h2
theorem Fm.ok.updO {f : Fm} {w w' : World} {b : Nat} {o o' : Obj} (hf : f.ok w) (hb : w.heap[b]? = some o) (hm : f.may b (tagOf o)) (hu : Upd w w' b o') : f.ok w' :=
 Fr.upd hf hu hb hm
theorem Fm.ok.upd {f : Fm} {w w' : World} {b T : Nat} {cs : List Value} {o' : Obj} (hf : f.ok w) (hb : Blk w b T cs) (hm : f.may b T) (hu : Upd w w' b o') : f.ok w' :=
 Fr.upd hf hu hb hm

/-- entries dropped, or put in another order -/
theorem Hp.drop {f : Fm} {w : World} : ∀ {H : Heap} (i : Nat), Hp f w H → Hp f w (H.eraseIdx i)
 | [], i, _ => by cases i <;> exact trivial
 | x :: r, 0, h => h.2.2.2
 | x :: r, i + 1, h => ⟨h.1, h.2.1, fun ho y hy => h.2.2.1 ho y (List.mem_of_mem_eraseIdx hy), Hp.drop i h.2.2.2⟩
theorem Hp.swap {f : Fm} {w : World} {x y : Ent} {r : Heap} (h : Hp f w (x :: y :: r)) : Hp f w (y :: x :: r) := by
 obtain ⟨h1, h2, h3, h4, h5, h6, h7⟩ := h
 refine ⟨h4, h5, ?_, h1, h2, fun ho z hz => h3 ho z (by simp [hz]), h7⟩
 intro hy z hz hzo
 rcases List.mem_cons.1 hz with rfl | hz
 ·exact fun he => h3 hzo y (by simp) hy he.symm
 ·exact h6 hy z hz hzo
theorem Hp.nil {f : Fm} {w : World} : Hp f w [] := trivial
theorem Hp.add {f : Fm} {w : World} {H : Heap} {b T : Nat} {cs : List Value} {wr : Bool} (h : Hp f w H) (hb : Blk w b T cs) (hw : wr = true → f.may b T) (hne : ∀ y ∈ H, y.ex = true → y.b ≠ b) : Hp f w (⟨b, T, cs, wr, true, none⟩ :: H) := ⟨⟨fun _ => hb, fun _ ho => by simp at ho⟩, fun _ => hw, fun _ => hne, h⟩

/-! ### judgements -/
def CJ (P : Program) (c : Code) (Q : Exit → Act → World → Prop) (n : Nat) (f : Fm) (e : Env) (H : Heap) : Prop := ∀ w, Hp f w H → f.ok w → C P c Q n e w
def J (P : Program) (ops : Array Oper) (Q : Exit → Act → World → Prop) (n : Nat) (f : Fm) (e : Env) (H : Heap) (l : List Oper) : Prop := ∀ w, Hp f w H → f.ok w → L P ops Q n e l w
def EJ (Q : Exit → Act → World → Prop) (x : Exit) (n : Nat) (f : Fm) (e : Env) (H : Heap) : Prop := ∀ w, Hp f w H → f.ok w → E Q x n e w
def NJ (K : Act → World → Prop) (n : Nat) (f : Fm) (e : Env) (H : Heap) : Prop := ∀ w, Hp f w H → f.ok w → N K n e w

theorem startJ {P : Program} {g : FuncId} {fn : Func} {c : Code} {args : List Value} {n : Nat} {w : World} {R : Ending → World → Prop} (e : Env) (B : Nat) (W : List Nat) (H : Heap)
  (hf : P.funcs[g]? = some fn) (hb : fn.body = some c) (hn : fn.ntmps = n) (hargs : Nat.ble args.length n = true)
  (he : (args.zipIdx.map fun p => (p.2, p.1)) = e) (hH : Hp ⟨w, B, W⟩ w H) (h : CJ P c (bodyPost P fn R) n ⟨w, B, W⟩ e H) : Calls P g args.toArray w R :=
 start' e hf hb hn hargs he (h w hH (Fr.refl _ _ _))

section
variable {P : Program} {Q : Exit → Act → World → Prop} {n : Nat} {f : Fm} {e : Env} {H : Heap}

theorem cj_reg {id : Nat} {l : List Oper} (h : J P l.toArray Q n f e H l) : CJ P (.region id l.toArray false) Q n f e H := fun w hH hf => c_reg' (h w hH hf)
theorem j_nil {ops : Array Oper} (h : EJ Q .normal n f e H) : J P ops Q n f e H [] := h
theorem cj_if_t {c : Operand} {x y : Code} (hc : ev e c = some (.bool true)) (h : CJ P x Q n f e H) : CJ P (.cond c x y) Q n f e H := fun w hH hf => c_if_t hc (h w hH hf)
theorem cj_if_f {c : Operand} {x y : Code} (hc : ev e c = some (.bool false)) (h : CJ P y Q n f e H) : CJ P (.cond c x y) Q n f e H := fun w hH hf => c_if_f hc (h w hH hf)
theorem cj_if {c : Operand} {x y : Code} {t : Bool} (hc : ev e c = some (.bool t)) (h1 : t = true → CJ P x Q n f e H) (h2 : t = false → CJ P y Q n f e H) : CJ P (.cond c x y) Q n f e H := fun w hH hf =>
 c_if hc (fun h => h1 h w hH hf) (fun h => h2 h w hH hf)
theorem cj_dec {c : Operand} {x y : Code} {p : Prop} [Decidable p] (hc : ev e c = some (.bool (decide p))) (h1 : p → CJ P x Q n f e H) (h2 : ¬ p → CJ P y Q n f e H) : CJ P (.cond c x y) Q n f e H :=
 cj_if hc (fun h => h1 (by simpa using h)) (fun h => h2 (by simpa using h))
theorem cj_block {i : Nat} {c : Code} (h : CJ P c (Exit.inBlock i Q) n f e H) : CJ P (.block i c) Q n f e H := fun w hH hf => c_block (h w hH hf)
theorem cj_skip (h : EJ Q .normal n f e H) : CJ P .skip Q n f e H := fun w hH hf => c_skip (h w hH hf)
theorem cj_exit {i : Nat} (h : EJ Q (.exit i) n f e H) : CJ P (.exit i) Q n f e H := fun w hH hf => c_exit (h w hH hf)
theorem cj_ret (h : EJ Q .ret n f e H) : CJ P .ret Q n f e H := fun w hH hf => c_ret (h w hH hf)
theorem CJ.sub {c : Code} {e' : Env} (hs : Sub e e') (h : CJ P c Q n f e' H) : CJ P c Q n f e H := fun w hH hf => C.sub hs (h w hH hf)
theorem CJ.prune {c : Code} (ks : List Nat) (h : CJ P c Q n f (Fw.prune e ks) H) : CJ P c Q n f e H := fun w hH hf => C.prune ks (h w hH hf)
theorem NJ.prune {K : Act → World → Prop} (ks : List Nat) (h : NJ K n f (Fw.prune e ks) H) : NJ K n f e H := fun w hH hf => N.prune ks (h w hH hf)
/-- another known heap -/
theorem CJ.heap {c : Code} (H' : Heap) (hs : ∀ w, Hp f w H → f.ok w → Hp f w H') (h : CJ P c Q n f e H') : CJ P c Q n f e H := fun w hH hf => h w (hs w hH hf) hf
theorem NJ.heap {K : Act → World → Prop} (H' : Heap) (hs : ∀ w, Hp f w H → f.ok w → Hp f w H') (h : NJ K n f e H') : NJ K n f e H := fun w hH hf => h w (hs w hH hf) hf
theorem J.heap {ops : Array Oper} {l : List Oper} (H' : Heap) (hs : ∀ w, Hp f w H → f.ok w → Hp f w H') (h : J P ops Q n f e H' l) : J P ops Q n f e H l := fun w hH hf => h w (hs w hH hf) hf
theorem ej_then {K : Act → World → Prop} (h : NJ K n f e H) : EJ (Exit.then K Q) .normal n f e H := h
theorem ej_then_exit {K : Act → World → Prop} {i : Nat} (h : EJ Q (.exit i) n f e H) : EJ (Exit.then K Q) (.exit i) n f e H := h
theorem ej_then_ret {K : Act → World → Prop} (h : EJ Q .ret n f e H) : EJ (Exit.then K Q) .ret n f e H := h
theorem ej_blk {i : Nat} (h : EJ Q .normal n f e H) : EJ (Exit.inBlock i Q) .normal n f e H := h
theorem ej_blk_ret {i : Nat} (h : EJ Q .ret n f e H) : EJ (Exit.inBlock i Q) .ret n f e H := h
theorem ej_blk_hit {i : Nat} (h : EJ Q .normal n f e H) : EJ (Exit.inBlock i Q) (.exit i) n f e H := fun w hH hf => e_blk_hit (h w hH hf)
theorem ej_ret1 {fn : Func} {R : Value → World → Prop} {t : Nat} {v : Value} (hres : fn.results = #[.tmp t]) (ht : look e t = some v) (h : ∀ w, Hp f w H → f.ok w → R v w) : EJ (bodyPost P fn (Ret R)) .ret n f e H :=
 fun w hH hf => e_ret1 hres ht (h w hH hf)
theorem ej_ret2 {fn : Func} {R : Value → World → Prop} {t s : Nat} {v u : Value} (hres : fn.results = #[.tmp t, .tmp s]) (ht : look e t = some v) (hs : look e s = some u) (h : ∀ w, Hp f w H → f.ok w → R (.tuple #[v, u]) w) :
  EJ (bodyPost P fn (Ret R)) .ret n f e H := fun w hH hf => e_ret2 hres ht hs (h w hH hf)
theorem ej_ret0 {fn : Func} {R : Value → World → Prop} (hres : fn.results = #[]) (h : ∀ w, Hp f w H → f.ok w → R (.tuple #[]) w) : EJ (bodyPost P fn (Ret R)) .ret n f e H := fun w hH hf => e_ret0 hres (h w hH hf)
theorem ej_end0 {fn : Func} {R : Value → World → Prop} (hres : fn.results = #[]) (h : ∀ w, Hp f w H → f.ok w → R (.tuple #[]) w) : EJ (bodyPost P fn (Ret R)) .normal n f e H := fun w hH hf => e_end0 hres (h w hH hf)

/-- a loop: at each round's head, for some s: the environment 'en s', the known heap 'hp s', and 'I s' of the world -/
theorem cj_loop {σ : Type} {c : Code} (en : σ → Env) (hp : σ → Heap) (I : σ → World → Prop) (m : σ → Nat) (s0 : σ) (h0 : Sub e (en s0)) (hI0 : ∀ w, Hp f w H → f.ok w → Hp f w (hp s0) ∧ I s0 w)
  (round : ∀ s w, I s w → f.ok w → Hp f w (hp s) → ∀ K : Act → World → Prop, (∀ s' e' w', I s' w' → f.ok w' → Hp f w' (hp s') → m s' < m s → Sub e' (en s') → N K n e' w') → C P c (Exit.then K Q) n (en s) w) : CJ P (.loop c) Q n f e H :=
 fun w hH hf => c_loop en (fun s w => f.ok w ∧ Hp f w (hp s) ∧ I s w) m s0 h0 ⟨hf, hI0 w hH hf⟩
  (fun s w hI K hK => round s w hI.2.2 hI.1 hI.2.1 K fun s' e' w' h1 h2 h3 h4 h5 => hK s' e' w' ⟨h2, h3, h1⟩ h4 h5)

/-- into the layer: from a world at which a new stretch begins -/
theorem C.begin {c : Code} {w : World} (f : Fm) (H : Heap) (hf : f.ok w) (hH : Hp f w H) (h : CJ P c Q n f e H) : C P c Q n e w := h w hH hf

variable {ops : Array Oper} {rest : List Oper} {d ty : Nat} {pos : String} {af : Array Edge}
theorem j_val {op : Op} {v : Value} (hd : Nat.blt d n = true) (hr : ∀ a w, Sat n e a → (execOp a.eval ⟨some d, op, ty, pos, af, none⟩).run P w = .ok (.value v) w)
  (k : J P ops Q n f ((d, v) :: e) H rest) : J P ops Q n f e H (⟨some d, op, ty, pos, af, none⟩ :: rest) := fun w hH hf => L.val hd (fun a ha => hr a w ha) (k w hH hf)
/-- what is yielded hangs on the world -/
theorem j_valw {op : Op} {v : Value} (hd : Nat.blt d n = true) (hr : ∀ a w, Sat n e a → Hp f w H → f.ok w → (execOp a.eval ⟨some d, op, ty, pos, af, none⟩).run P w = .ok (.value v) w)
  (k : J P ops Q n f ((d, v) :: e) H rest) : J P ops Q n f e H (⟨some d, op, ty, pos, af, none⟩ :: rest) := fun w hH hf => L.val hd (fun a ha => hr a w ha hH hf) (k w hH hf)
/-- a field's address, the offset written out -/
theorem r_fl {s g q ft : Nat} {x : Operand} {b o : Nat} {fs : Array Field} {sz : Nat} (hu : ∀ w, (underlying s).run P w = .ok (.struct fs) w) (hf : (fs[g]?).map (fun x => (x.offset, x.type)) = some (q, ft))
  (hsz : ∀ w, (sizeOf ft).run P w = .ok (sz + 1) w) (hx : ev e x = some (.pointer (some ⟨b, o, none⟩))) {a : Act} {w : World} (ha : Sat n e a) :
  (execOp a.eval ⟨some d, .fieldAddr s x g, ty, pos, af, none⟩).run P w = .ok (.value (.pointer (some ⟨b, o + q, none⟩))) w := by
 cases hg : fs[g]? with
 | none => simp [hg] at hf
 | some fd =>
  simp only [hg, Option.map_some, Option.some.injEq, Prod.mk.injEq] at hf
  obtain ⟨rfl, rfl⟩ := hf
  exact r_fld hu hg hsz hx ha
/-- a load out of a known block -/
theorem r_ldH {t : Nat} {x : Operand} {o : Nat} {y : Ent} {v : Value} (i : Nat) (hy : H[i]? = some y) (ho : y.on = true) (hag : ∀ w, (isAgg t).run P w = .ok false w) (hx : ev e x = some (.pointer (some ⟨y.b, o, none⟩))) (hv : y.cs[o]? = some v)
  {a : Act} {w : World} (ha : Sat n e a) (hH : Hp f w H) : (execOp a.eval ⟨some d, .load t x, ty, pos, af, none⟩).run P w = .ok (.value v) w := r_load hag hx ((hH.get hy ho).cell' hv) ha
theorem r_ldA {t m : Nat} {x : Operand} {o : Nat} {y : Ent} {vs : List Value} (i : Nat) (hy : H[i]? = some y) (ho : y.on = true) (hag : ∀ w, (isAgg t).run P w = .ok true w) (hsz : ∀ w, (sizeOf t).run P w = .ok m w)
  (hx : ev e x = some (.pointer (some ⟨y.b, o, none⟩))) (hv : (y.cs.drop o).take m = vs) (hm : Nat.beq vs.length m = true)
  {a : Act} {w : World} (ha : Sat n e a) (hH : Hp f w H) : (execOp a.eval ⟨some d, .load t x, ty, pos, af, none⟩).run P w = .ok (.value (.agg vs.toArray)) w := by
 subst hv
 exact r_loadA hag hsz hx hm ((hH.get hy ho).mid o m) ha
theorem j_box {t : Nat} {x : Operand} {v : Value} (hx : ev e x = some v) (hd : Nat.blt d n = true)
  (k : ∀ b, J P ops Q n f ((d, .pointer (some ⟨b, 0, none⟩)) :: e) (⟨b, t, v.cells.toList, true, true, none⟩ :: H) rest) : J P ops Q n f e H (⟨some d, .box t x, ty, pos, af, none⟩ :: rest) :=
 fun w hH hf => o_box hx hd fun w' b hn => k b w' (hH.new hf hn) (hf.new hn)
theorem j_alloc {t : Nat} {z : Value} (hz : ∀ w, (zeroValue t).run P w = .ok z w) (hd : Nat.blt d n = true)
  (k : ∀ b, J P ops Q n f ((d, .pointer (some ⟨b, 0, none⟩)) :: e) (⟨b, t, z.cells.toList, true, true, none⟩ :: H) rest) : J P ops Q n f e H (⟨some d, .alloc t, ty, pos, af, none⟩ :: rest) :=
 fun w hH hf => o_alloc hz hd fun w' b hn => k b w' (hH.new hf hn) (hf.new hn)
theorem j_store {t m : Nat} {x z : Operand} {o : Nat} {v : Value} {y : Ent} (i : Nat) (hy : H[i]? = some y) (ho : y.on = true) (hob : y.ob = none) (hwr : y.wr = true) (hsz : ∀ w, (sizeOf t).run P w = .ok m w) (hx : ev e x = some (.pointer (some ⟨y.b, o, none⟩))) (hz : ev e z = some v)
  (hm : Nat.beq v.cells.size m = true) (hs : v.cells.toList.all scal = true) (hl : Nat.ble (o + v.cells.size) y.cs.length = true)
  (k : J P ops Q n f e (setH H i (setL y.cs o v.cells.toList)) rest) : J P ops Q n f e H (⟨none, .store t x z, ty, pos, af, none⟩ :: rest) :=
 fun w hH hf => o_store hsz hx hz (hH.get hy ho) hm hs hl fun w' hu => k w' (hH.upd hy ho hu hob) (hf.upd (hH.get hy ho) (hH.may (List.mem_of_getElem? hy) ho hwr) hu)
/-- a call by its contract; what is known behind it is laid anew -/
theorem j_call {g : FuncId} {args : Array Operand} {vs : List Value} {tys : Array TypeId} {R : World → Value → World → Prop} (hg : ∀ (as : Array Value) (w : World), (callFunc g as).run P w = .ok (.enter g as) w)
  (hargs : args.toList.map (ev e) = vs.map some) (hd : Nat.blt d n = true) (hc : ∀ w, Hp f w H → f.ok w → Calls P g vs.toArray w (Ret (R w)))
  (k : ∀ w v w', Hp f w H → f.ok w → R w v w' → L P ops Q n ((d, v) :: e) rest w') : J P ops Q n f e H (⟨some d, .call ⟨.value (.func g), args, tys⟩, ty, pos, af, none⟩ :: rest) :=
 fun w hH hf => o_call hg hargs (hc w hH hf) hd fun v w' hR => k w v w' hH hf hR
theorem J.begin {l : List Oper} {w : World} (f : Fm) (H : Heap) (hf : f.ok w) (hH : Hp f w H) (h : J P ops Q n f e H l) : L P ops Q n e l w := h w hH hf

/-! #### regions whose order is open -/
/-- what stays readable while the region's head runs -/
def Sx (f : Fm) (HS : Heap) (w : World) : Prop := (∀ x ∈ HS, x.on = true → Blk w x.b x.T x.cs) ∧ f.ok w
variable {nt : Nat} {HS : Heap} {r : Sched}
def DJ (P : Program) (ops : Array Oper) (Q : Exit → Act → World → Prop) (f : Fm) (HS : Heap) (nt n : Nat) (e : Env) (H : Heap) (s : Sched) : Prop :=
 ∀ w, Hp f w H → f.ok w → DS P ops Q (Sx f HS) nt n e s w
theorem cj_draw {id : Nat} {l : List Oper} (nt : Nat) (s : Sched) (HS : Heap) (hm : P.follows .mixedOrders = true) (hs : schedB l.toArray nt s = true)
  (h : DJ P l.toArray (NoP Q) f HS nt n e H s) : CJ P (.region id l.toArray true) Q n f e H := fun w hH hf =>
 c_draw nt s hm hs fun w1 hD => ⟨_, h w1 (hH.mono fun _ _ _ o hb => by rw [hD.heap]; exact hb) (Fr.dr hf hD)⟩
theorem dj_nil (h : EJ Q .normal n f e H) : DJ P ops Q f HS nt n e H [] := h
theorem dj_val {i : Nat} {op : Op} {v : Value} (hi : ops[i]? = some ⟨some d, op, ty, pos, af, none⟩) (hd : Nat.blt d n = true) (hS : ∀ x ∈ HS, x ∈ H)
  (hr : ∀ a w, Sat n e a → (execOp a.eval ⟨some d, op, ty, pos, af, none⟩).run P w = .ok (.value v) w) (k : DJ P ops Q f HS nt n ((d, v) :: e) H r) : DJ P ops Q f HS nt n e H ((i, true) :: r) := fun w hH hf =>
 d_light hi hd (fun a w ha _ => hr a w ha) ⟨fun x hx ho => hH.blk (hS x hx) ho, hf⟩ (k w hH hf)
theorem dj_ld {i : Nat} {op : Op} {v : Value} (hi : ops[i]? = some ⟨some d, op, ty, pos, af, none⟩) (hd : Nat.blt d n = true) (hS : ∀ x ∈ HS, x ∈ H)
  (hr : ∀ a w, Sat n e a → Sx f HS w → (execOp a.eval ⟨some d, op, ty, pos, af, none⟩).run P w = .ok (.value v) w) (k : DJ P ops Q f HS nt n ((d, v) :: e) H r) : DJ P ops Q f HS nt n e H ((i, true) :: r) := fun w hH hf =>
 d_light hi hd (fun a w ha hS => hr a w ha hS) ⟨fun x hx ho => hH.blk (hS x hx) ho, hf⟩ (k w hH hf)
theorem dj_eff {i : Nat} {o : Oper} (hi : ops[i]? = some o)
  (h : ∀ K : Act → World → Prop, (∀ e H, (Nat.blt i nt = false ∨ ∀ x ∈ HS, x ∈ H) → DJ P ops Q f HS nt n e H r → NJ K n f e H) → J P ops (Exit.then K Q) n f e H [o]) : DJ P ops Q f HS nt n e H ((i, false) :: r) := fun w hH hf =>
 d_eff hi fun K hK => h K (fun e H hs hd w hH hf => hK e w (fun hlt => ⟨fun x hx ho => hH.blk (x := x) (by
  rcases hs with hs | hs
  ·have h3 : Nat.blt i nt = true := by simpa using hlt
   rw [hs] at h3; exact absurd h3 (by simp)
  ·exact hs x hx) ho, hf⟩) (hd w hH hf)) w hH hf
/-- a load out of a block that stays readable -/
theorem r_ldS {t : Nat} {x : Operand} {o : Nat} {y : Ent} {v : Value} (i : Nat) (hy : HS[i]? = some y) (ho : y.on = true) (hag : ∀ w, (isAgg t).run P w = .ok false w) (hx : ev e x = some (.pointer (some ⟨y.b, o, none⟩))) (hv : y.cs[o]? = some v)
  {a : Act} {w : World} (ha : Sat n e a) (hS : Sx f HS w) : (execOp a.eval ⟨some d, .load t x, ty, pos, af, none⟩).run P w = .ok (.value v) w := r_load hag hx ((hS.1 y (List.mem_of_getElem? hy) ho).cell' hv) ha
theorem r_ldSA {t m : Nat} {x : Operand} {o : Nat} {y : Ent} {vs : List Value} (i : Nat) (hy : HS[i]? = some y) (ho : y.on = true) (hag : ∀ w, (isAgg t).run P w = .ok true w) (hsz : ∀ w, (sizeOf t).run P w = .ok m w)
  (hx : ev e x = some (.pointer (some ⟨y.b, o, none⟩))) (hv : (y.cs.drop o).take m = vs) (hm : Nat.beq vs.length m = true)
  {a : Act} {w : World} (ha : Sat n e a) (hS : Sx f HS w) : (execOp a.eval ⟨some d, .load t x, ty, pos, af, none⟩).run P w = .ok (.value (.agg vs.toArray)) w := by
 subst hv
 exact r_loadA hag hsz hx hm ((hS.1 y (List.mem_of_getElem? hy) ho).mid o m) ha
end
end Go.Fw
