/-
  A small Hoare layer over the library's 'wpList': what is known of a frame's temporaries is a list of pairs ('Sat'), one lemma for each kind of operation. Conditions: none beyond each lemma's own hypotheses.
-/
import Derived.Tactics
import Derived.Orders
import Derived.Laws.Strings

namespace Go.Fw
open Go

abbrev Env := List (Nat × Value)

def look : Env → Nat → Option Value
 | [], _ => none
 | (t, v) :: e, s => bif Nat.beq t s then some v else look e s

def ev (e : Env) : Operand → Option Value
 | .tmp t => look e t
 | .const v => some v
 | .func f => some (.func (.func f) #[] #[])
 | .global g => some (.pointer (some ⟨g, 0, none⟩))

structure Sat (n : Nat) (e : Env) (a : Act) : Prop where
 size : a.tmps.size = n
 defs : a.defers = []
 has : ∀ t v, look e t = some v → a.tmps[t]? = some v

theorem Sat.ev {n : Nat} {e : Env} {a : Act} {x : Operand} {v : Value} (h : Sat n e a) (hx : ev e x = some v) : a.eval x = v := by
 cases x with
 | tmp t =>
  have := h.has t v hx
  simp [Act.eval, Array.getD_eq_getD_getElem?, this]
 | const c => simpa [Fw.ev, Act.eval] using hx
 | func f => simpa [Fw.ev, Act.eval] using hx
 | global g => simpa [Fw.ev, Act.eval] using hx

theorem Sat.put {n : Nat} {e : Env} {a : Act} {d : Nat} {v : Value} (h : Sat n e a) (hd : Nat.blt d n = true) : Sat n ((d, v) :: e) (a.put (some d) v) := by
 have hd' : d < n := by simpa using hd
 refine ⟨by simp [Act.put, h.size], by simp [Act.put, h.defs], ?_⟩
 intro t u ht
 simp only [look] at ht
 by_cases hdt : d = t
 ·subst hdt
  simp at ht
  subst ht
  simp [Act.put, h.size, hd']
 ·have hb : Nat.beq d t = false := by
   cases hb : Nat.beq d t with
   | false => rfl
   | true => exact absurd (Nat.eq_of_beq_eq_true hb) hdt
  rw [hb] at ht
  have := h.has t u ht
  simp [Act.put, Array.getElem?_setIfInBounds_ne hdt, this]

theorem Sat.mono {n : Nat} {e e' : Env} {a : Act} (h : Sat n e a) (hs : ∀ t v, look e' t = some v → look e t = some v) : Sat n e' a :=
 ⟨h.size, h.defs, fun t v ht => h.has t v (hs t v ht)⟩

/-- what of an environment the slots 'ks' need -/
def prune (e : Env) : List Nat → Env
 | [] => []
 | k :: ks => match look e k with
  | some v => (k, v) :: prune e ks
  | none => prune e ks

theorem look_prune (e : Env) : ∀ (ks : List Nat) (t : Nat) (v : Value), look (prune e ks) t = some v → look e t = some v
 | [], t, v, h => by simp [prune, look] at h
 | k :: ks, t, v, h => by
  unfold prune at h
  cases hk : look e k with
  | none => rw [hk] at h; exact look_prune e ks t v h
  | some u =>
   rw [hk] at h
   simp only [look] at h
   cases hb : Nat.beq k t with
   | true =>
    rw [hb] at h
    have := Nat.eq_of_beq_eq_true hb
    subst this
    simpa [hk] using h
   | false => rw [hb] at h; exact look_prune e ks t v h

theorem Sat.prune {n : Nat} {e : Env} {a : Act} (h : Sat n e a) (ks : List Nat) : Sat n (Fw.prune e ks) a := h.mono (look_prune e ks)

/-- each pair of 'e'' is known in 'e' -/
def Sub (e : Env) : Env → Prop
 | [] => True
 | (t, v) :: r => look e t = some v ∧ Sub e r

theorem Sat.sub {n : Nat} {e e' : Env} {a : Act} (h : Sat n e a) (hs : Sub e e') : Sat n e' a := by
 refine h.mono ?_
 induction e' with
 | nil => intro t v ht; simp [look] at ht
 | cons p r ih =>
  obtain ⟨s, u⟩ := p
  intro t v ht
  simp only [look] at ht
  cases hb : Nat.beq s t with
  | true =>
   rw [hb] at ht
   have := Nat.eq_of_beq_eq_true hb
   subst this
   simp at ht
   subst ht
   exact hs.1
  | false => rw [hb] at ht; exact ih hs.2 t v ht

/-! ### contracts -/

/-- the call returns a value, and 'R' holds of it and of the world behind it -/
def Ret (R : Value → World → Prop) : Ending → World → Prop
 | .returned v, w => R v w
 | _, _ => False

theorem Ret.mono {R R' : Value → World → Prop} (h : ∀ v w, R v w → R' v w) : ∀ e w, Ret R e w → Ret R' e w
 | .returned _, _, hr => h _ _ hr
 | .panicked _, _, hr => hr
 | .outgrown, _, hr => hr

theorem start {P : Program} {f : FuncId} {fn : Func} {c : Code} {args : List Value} {n : Nat} {w : World} {R : Ending → World → Prop} (e : Env)
  (hf : P.funcs[f]? = some fn) (hb : fn.body = some c) (hn : fn.ntmps = n) (hargs : Nat.ble args.length n = true)
  (he : (args.zipIdx.map fun p => (p.2, p.1)) = e)
  (h : ∀ a, Sat n e a → c.wp P (bodyPost P fn R) a w) : Calls P f args.toArray w R := by
 refine calls_of_wp hf hb (h _ ?_)
 have hle : args.length ≤ n := by simpa using hargs
 refine ⟨by simp [hn]; omega, rfl, ?_⟩
 subst he
 intro t v ht
 have key : ∀ (l : List Value) (k : Nat), look (l.zipIdx k |>.map fun p => (p.2, p.1)) t = some v → k ≤ t ∧ l[t - k]? = some v := by
  intro l
  induction l with
  | nil => intro k h; simp [look] at h
  | cons x l ih =>
   intro k h
   simp only [List.zipIdx_cons, List.map_cons, look] at h
   cases hb : Nat.beq k t with
   | true =>
    rw [hb] at h
    have := Nat.eq_of_beq_eq_true hb
    subst this
    simp at h
    subst h
    simp
   | false =>
    rw [hb] at h
    have h2 := ih (k + 1) h
    have hlt : k < t := by omega
    refine ⟨by omega, ?_⟩
    rw [show t - k = (t - (k + 1)) + 1 by omega]
    simpa using h2.2
 have h2 := key args 0 ht
 simp at h2
 have hlt : t < args.length := (List.getElem?_eq_some_iff.1 h2).1
 obtain ⟨_, hv⟩ := List.getElem?_eq_some_iff.1 h2
 simp [Array.getElem?_append, hlt, hv]

/-! ### control -/
/-- the code from every state that meets 'e' -/
def C (P : Program) (c : Code) (Q : Exit → Act → World → Prop) (n : Nat) (e : Env) (w : World) : Prop := ∀ a, Sat n e a → c.wp P Q a w
/-- operations from every state that meets 'e' -/
def L (P : Program) (ops : Array Oper) (Q : Exit → Act → World → Prop) (n : Nat) (e : Env) (l : List Oper) (w : World) : Prop := ∀ a, Sat n e a → wpList P ops Q l a w
/-- an exit at every state that meets 'e' -/
def E (Q : Exit → Act → World → Prop) (x : Exit) (n : Nat) (e : Env) (w : World) : Prop := ∀ a, Sat n e a → Q x a w
/-- what follows, at every state that meets 'e' -/
def N (K : Act → World → Prop) (n : Nat) (e : Env) (w : World) : Prop := ∀ a, Sat n e a → K a w

theorem start' {P : Program} {f : FuncId} {fn : Func} {c : Code} {args : List Value} {n : Nat} {w : World} {R : Ending → World → Prop} (e : Env)
  (hf : P.funcs[f]? = some fn) (hb : fn.body = some c) (hn : fn.ntmps = n) (hargs : Nat.ble args.length n = true)
  (he : (args.zipIdx.map fun p => (p.2, p.1)) = e) (h : C P c (bodyPost P fn R) n e w) : Calls P f args.toArray w R := start e hf hb hn hargs he h

section
variable {P : Program} {Q : Exit → Act → World → Prop} {w : World} {n : Nat} {e : Env}

theorem c_reg' {id : Nat} {l : List Oper} (h : L P l.toArray Q n e l w) : C P (.region id l.toArray false) Q n e w := fun a ha => wp_region_lit (h a ha)
theorem c_if_t {c : Operand} {x y : Code} (hc : ev e c = some (.bool true)) (h : C P x Q n e w) : C P (.cond c x y) Q n e w := fun a ha => wp_cond_true (ha.ev hc) (h a ha)
theorem c_if_f {c : Operand} {x y : Code} (hc : ev e c = some (.bool false)) (h : C P y Q n e w) : C P (.cond c x y) Q n e w := fun a ha => wp_cond_false (ha.ev hc) (h a ha)
theorem c_if {c : Operand} {x y : Code} {t : Bool} (hc : ev e c = some (.bool t)) (h1 : t = true → C P x Q n e w) (h2 : t = false → C P y Q n e w) : C P (.cond c x y) Q n e w := fun a ha =>
 wp_cond_split (ha.ev hc) (fun h => h1 h a ha) (fun h => h2 h a ha)
theorem c_block {i : Nat} {c : Code} (h : C P c (Exit.inBlock i Q) n e w) : C P (.block i c) Q n e w := fun a ha => wp_block (h a ha)
theorem c_skip (h : E Q .normal n e w) : C P .skip Q n e w := fun a ha => wp_skip (h a ha)
theorem c_exit {i : Nat} (h : E Q (.exit i) n e w) : C P (.exit i) Q n e w := fun a ha => wp_exit (h a ha)
theorem c_ret (h : E Q .ret n e w) : C P .ret Q n e w := fun a ha => wp_ret (h a ha)
theorem C.sub {c : Code} {e' : Env} (hs : Sub e e') (h : C P c Q n e' w) : C P c Q n e w := fun a ha => h a (ha.sub hs)
theorem C.prune {c : Code} (ks : List Nat) (h : C P c Q n (Fw.prune e ks) w) : C P c Q n e w := fun a ha => h a (ha.prune ks)
theorem N.prune {K : Act → World → Prop} (ks : List Nat) (h : N K n (Fw.prune e ks) w) : N K n e w := fun a ha => h a (ha.prune ks)
theorem E.prune {x : Exit} (ks : List Nat) (h : E Q x n (Fw.prune e ks) w) : E Q x n e w := fun a ha => h a (ha.prune ks)

theorem e_blk_hit {i : Nat} (h : E Q .normal n e w) : E (Exit.inBlock i Q) (.exit i) n e w := fun a ha => by simpa [Exit.inBlock] using h a ha
/-- the function's end: its result in one temporary -/
theorem e_ret1 {fn : Func} {R : Value → World → Prop} {t : Nat} {v : Value} (hres : fn.results = #[.tmp t]) (ht : look e t = some v) (h : R v w) : E (bodyPost P fn (Ret R)) .ret n e w := fun a ha => by
 refine ⟨ha.defs, v, ?_, h⟩
 have := ha.has t v ht
 rw [results_tmp hres]
 simp [Array.getD_eq_getD_getElem?, this]
theorem e_ret2 {fn : Func} {R : Value → World → Prop} {t s : Nat} {v u : Value} (hres : fn.results = #[.tmp t, .tmp s]) (ht : look e t = some v) (hs : look e s = some u) (h : R (.tuple #[v, u]) w) :
  E (bodyPost P fn (Ret R)) .ret n e w := fun a ha => by
 refine ⟨ha.defs, _, ?_, h⟩
 have h1 := ha.has t v ht
 have h2 := ha.has s u hs
 rw [results_tmp2 hres]
 simp [Array.getD_eq_getD_getElem?, h1, h2]
theorem e_ret0 {fn : Func} {R : Value → World → Prop} (hres : fn.results = #[]) (h : R (.tuple #[]) w) : E (bodyPost P fn (Ret R)) .ret n e w := fun _ ha => ⟨ha.defs, _, results_none hres _ _ _, h⟩
theorem e_end0 {fn : Func} {R : Value → World → Prop} (hres : fn.results = #[]) (h : R (.tuple #[]) w) : E (bodyPost P fn (Ret R)) .normal n e w := fun _ ha => ⟨ha.defs, _, results_none hres _ _ _, h⟩

theorem exists_least (p : Nat → Prop) (h : ∃ k, p k) : ∃ k, p k ∧ ∀ j, p j → k ≤ j := by
 obtain ⟨k, hk⟩ := h
 induction k using Nat.strongRecOn with
 | _ k ih =>
  by_cases hs : ∃ j, p j ∧ j < k
  ·obtain ⟨j, hj, hlt⟩ := hs
   exact ih j hlt hj
  ·exact ⟨k, hk, fun j hj => by
    rcases Nat.lt_or_ge j k with h | h
    ·exact absurd ⟨j, hj, h⟩ hs
    ·exact h⟩

/-- a loop: at each round's head the environment is 'en s' and 'I s' holds of the world, for some s; a round ends so again, with a smaller measure -/
theorem c_loop {σ : Type} {c : Code} (en : σ → Env) (I : σ → World → Prop) (m : σ → Nat) (s0 : σ) (h0 : Sub e (en s0)) (hI0 : I s0 w)
  (round : ∀ s w, I s w → ∀ K : Act → World → Prop, (∀ s' e' w', I s' w' → m s' < m s → Sub e' (en s') → N K n e' w') → C P c (Exit.then K Q) n (en s) w) : C P (.loop c) Q n e w := by
 classical
 intro a ha
 let p : Act → World → Nat → Prop := fun a w k => ∃ s, (Sat n (en s) a ∧ I s w) ∧ m s = k
 have least : ∀ a w, (∃ s, Sat n (en s) a ∧ I s w) → ∃ k, p a w k ∧ ∀ j, p a w j → k ≤ j := fun a w h => exists_least _ (by
  obtain ⟨s, hs⟩ := h
  exact ⟨m s, s, hs, rfl⟩)
 let μ : Act → World → Nat := fun a w => if h : ∃ s, Sat n (en s) a ∧ I s w then Classical.choose (least a w h) else 0
 refine wp_loop (fun a w => ∃ s, Sat n (en s) a ∧ I s w) μ ⟨s0, ha.sub h0, hI0⟩ ?_
 intro a w hI
 have hμ : μ a w = Classical.choose (least a w hI) := dif_pos hI
 obtain ⟨⟨s, hs, hms⟩, _⟩ := Classical.choose_spec (least a w hI)
 refine round s w hs.2 _ ?_ a hs.1
 intro s' e' w' hI' hlt hsub a' ha'
 have hex : ∃ s, Sat n (en s) a' ∧ I s w' := ⟨s', ha'.sub hsub, hI'⟩
 refine ⟨hex, ?_⟩
 have hμ' : μ a' w' = Classical.choose (least a' w' hex) := dif_pos hex
 have h2 := (Classical.choose_spec (least a' w' hex)).2 (m s') ⟨s', ⟨ha'.sub hsub, hI'⟩, rfl⟩
 rw [hμ, hμ']
 omega
end
end Go.Fw
