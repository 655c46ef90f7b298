/-
  A region whose order is open, walked in one order: what only reads is taken as soon as it may come, while 'S' holds. Conditions: the checks 'schedB' on the region's text.
-/
import Derived.Test.YtifnhinopjgfaaaGreatFwB
import Derived.OrdersHeld
import Derived.StillTail
namespace Go.Fw
open Go
section
variable {P : Program} {ops : Array Oper} {Q : Exit → Act → World → Prop} {S : World → Prop} {nt : Nat}

/-- whatever order is picked from here on; S behind each operation ahead of number nt -/
def wpG (P : Program) (ops : Array Oper) (Q : Exit → Act → World → Prop) (S : World → Prop) (nt : Nat) : Nat → Array Bool → Act → World → Prop
 | 0, listed, a, w => Region.ready .any ops listed = [] ∧ Q .normal a w
 | fuel + 1, listed, a, w =>
  (Region.ready .any ops listed = [] → Q .normal a w) ∧
  ∀ i ∈ Region.ready .any ops listed, wpOp P ops Q i (fun a' w' => (i < nt → S w') ∧ wpG P ops Q S nt fuel (listed.setIfInBounds i true) a' w') a w

theorem wpG_any : ∀ (fuel : Nat) (listed : Array Bool) (a : Act) (w : World), wpG P ops Q S nt fuel listed a w → wpAny P .any ops Q fuel listed a w
 | 0, _, _, _, h => h
 | fuel + 1, _, _, _, h => ⟨h.1, fun i hi => wpOp_mono (fun a' w' h' => wpG_any fuel _ a' w' h'.2) (h.2 i hi)⟩

/-- all that is listed has what it waits for listed -/
structure Clo (ops : Array Oper) (listed : Array Bool) : Prop where
 size : listed.size = ops.size
 closed : ∀ j oj, ops[j]? = some oj → listed.getD j false = true → ∀ e ∈ oj.after, Region.binds .any e = true → listed.getD e.on false = true

theorem Clo.set {listed : Array Bool} {i : Nat} (inv : Clo ops listed) (hi : i ∈ Region.ready .any ops listed) : Clo ops (listed.setIfInBounds i true) := by
 obtain ⟨_, oi, hoi, hall⟩ := mem_ready.1 hi
 refine ⟨by simp [inv.size], fun j oj hj hl e he hb => ?_⟩
 by_cases hij : i = j
 ·subst hij
  have : oj = oi := Option.some.inj (hj.symm.trans hoi)
  subst this
  exact getD_set_true (hall e he hb)
 ·rw [getD_set_ne false hij] at hl
  exact getD_set_true (inv.closed j oj hj hl e he hb)

/-- nothing from nt on may come up while something ahead of nt has not -/
def tailB (ops : Array Oper) (nt : Nat) : Bool := Nat.ble ops.size nt || (Region.sinkB .any ops nt && Region.chainB .any ops nt && Nat.blt nt ops.size)

theorem ready_head {listed : Array Bool} {i j : Nat} (ht : tailB ops nt = true) (inv : Clo ops listed) (htail : ∀ t, nt ≤ t → t < ops.size → listed.getD t true = false) (hi : i < nt) (hir : i ∈ Region.ready .any ops listed)
  (hj : j ∈ Region.ready .any ops listed) : j < nt := by
 have hjs : j < ops.size := by
  obtain ⟨_, o, ho, _⟩ := mem_ready.1 hj
  exact (Array.getElem?_eq_some_iff.1 ho).1
 simp only [tailB, Bool.or_eq_true, Bool.and_eq_true, Nat.ble_eq, Nat.blt_eq] at ht
 rcases ht with ht | ⟨⟨h1, h2⟩, h3⟩
 ·omega
 ·rcases Nat.lt_or_ge j nt with h | h
  ·exact h
  ·exact absurd hj (tail_waits h1 h2 h3 ⟨inv.size, inv.closed, htail⟩ _ i rfl hi (mem_ready.1 hir).1 j h)

theorem wpG_first {i : Nat} {oi : Oper} {v : Value} (hi : ops[i]? = some oi) (hsel : ∀ (j : Nat) (o : Oper) cs b, ops[j]? = some o → o.op ≠ .select cs b)
  (hQ : ∀ c a w, Q (.panic c) (a.put oi.dst v) w → Q (.panic c) a w) (ht : tailB ops nt = true) (hin : i < nt) :
  ∀ (fuel : Nat) (listed : Array Bool) (a : Act) (w : World), Clo ops listed → (∀ t, nt ≤ t → t < ops.size → listed.getD t true = false) →
   (∀ j oj, ops[j]? = some oj → j ≠ i → listed.getD j true = false → (∀ e ∈ oj.after, Region.binds .any e = true → e.on ≠ i) → oi.apart ops oj = true) →
   i ∈ Region.ready .any ops listed → YieldsIf P ops S oi v a → S w →
   wpG P ops Q S nt fuel (listed.setIfInBounds i true) (a.put oi.dst v) w → wpG P ops Q S nt (fuel + 1) listed a w := by
 intro fuel
 induction fuel with
 | zero =>
  intro listed a w _ _ _ hr hy hS H
  refine ⟨fun h => (by rw [h] at hr; cases hr), fun j hj => ?_⟩
  by_cases hji : j = i
  ·subst hji; exact hy.wpOp hi hS ⟨fun _ => hS, H⟩
  ·have := ready_mono hj hji
   rw [H.1] at this
   cases this
 | succ fuel ih =>
  intro listed a w inv htl hfree hr hy hS H
  refine ⟨fun h => (by rw [h] at hr; cases hr), fun j hj => ?_⟩
  by_cases hji : j = i
  ·subst hji; exact hy.wpOp hi hS ⟨fun _ => hS, H⟩
  ·have hjn : j < nt := ready_head ht inv htl hin hr hj
   have h1 := H.2 j (ready_mono hj hji)
   obtain ⟨hjun, oj, hoj, hall⟩ := mem_ready.1 hj
   have hnot : ∀ e ∈ oj.after, Region.binds .any e = true → e.on ≠ i := fun e he hb heq => by
    have h1 := hall e he hb
    have h0 := (mem_ready.1 hr).1
    rw [heq] at h1
    rcases Nat.lt_or_ge i listed.size with h' | h'
    ·simp [h'] at h0 h1; rw [h0] at h1; cases h1
    ·simp [Array.getElem?_eq_none h'] at h1
   have h2 := wpOp_putIf hoj (hfree j oj hoj hji hjun hnot) (fun cs b => hsel i oi cs b hi) (fun cs b => hsel j oj cs b hoj) hQ hy h1
   have hfree' : ∀ k ok, ops[k]? = some ok → k ≠ i → (listed.setIfInBounds j true).getD k true = false →
     (∀ e ∈ ok.after, Region.binds .any e = true → e.on ≠ i) → oi.apart ops ok = true := fun k ok hk hki hun hno => by
    refine hfree k ok hk hki ?_ hno
    by_cases hjk : j = k
    ·subst hjk; exact hjun
    ·rw [getD_set_ne true hjk] at hun; exact hun
   have htl' : ∀ t, nt ≤ t → t < ops.size → (listed.setIfInBounds j true).getD t true = false := fun t h1 h2 => by
    rw [getD_set_ne true (by omega)]; exact htl t h1 h2
   refine wpOp_mono (fun a' w' h3 => ⟨h3.2.1, ih (listed.setIfInBounds j true) a' w' (inv.set hj) htl' hfree' (ready_mono hr (Ne.symm hji)) h3.1 (h3.2.1 hjn) ?_⟩) h2
   rw [Array.setIfInBounds_comm _ _ hji]
   exact h3.2.2

/-- the order that is walked: a number, and whether it only reads -/
abbrev Sched := List (Nat × Bool)

def goB (ops : Array Oper) (nt : Nat) : Array Bool → Sched → Bool
 | listed, [] => (Region.ready .any ops listed).isEmpty
 | listed, (i, true) :: r => Nat.blt i nt && (Region.ready .any ops listed).contains i && Region.free .any ops listed i
   && (List.range ops.size).all (fun t => Nat.blt t nt || !listed.getD t true) && goB ops nt (listed.setIfInBounds i true) r
 | listed, (i, false) :: r => (match Region.ready .any ops listed with | [j] => Nat.beq j i | _ => false) && goB ops nt (listed.setIfInBounds i true) r

def schedB (ops : Array Oper) (nt : Nat) (s : Sched) : Bool := tailB ops nt && Region.noSelect ops && Nat.beq s.length ops.size && goB ops nt (Array.replicate ops.size false) s

def wpS (P : Program) (ops : Array Oper) (Q : Exit → Act → World → Prop) (S : World → Prop) (nt : Nat) : Sched → Act → World → Prop
 | [], a, w => Q .normal a w
 | (i, true) :: r, a, w => ∃ o v, ops[i]? = some o ∧ YieldsIf P ops S o v a ∧ S w ∧ wpS P ops Q S nt r (a.put o.dst v) w
 | (i, false) :: r, a, w => wpOp P ops Q i (fun a' w' => (i < nt → S w') ∧ wpS P ops Q S nt r a' w') a w

theorem wpG_of_S (ht : tailB ops nt = true) (hsel : Region.noSelect ops = true) (hQ : ∀ c a a' w, Q (.panic c) a w → Q (.panic c) a' w) :
  ∀ (s : Sched) (listed : Array Bool) (a : Act) (w : World), Clo ops listed → goB ops nt listed s = true → wpS P ops Q S nt s a w → wpG P ops Q S nt s.length listed a w := by
 intro s
 induction s with
 | nil =>
  intro listed a w _ hg h
  exact ⟨by simpa [goB] using hg, h⟩
 | cons p r ih =>
  obtain ⟨i, t⟩ := p
  intro listed a w inv hg h
  cases t with
  | true =>
   simp only [goB, Bool.and_eq_true, Nat.blt_eq] at hg
   obtain ⟨⟨⟨⟨h1, h2⟩, h3⟩, h4⟩, h5⟩ := hg
   obtain ⟨o, v, ho, hy, hS, hrest⟩ := h
   have hmem : i ∈ Region.ready .any ops listed := by simpa using h2
   refine wpG_first ho (Region.noSelect_spec hsel) (fun c a w hq => hQ c _ _ w hq) ht h1 r.length listed a w inv ?_ (Region.free_spec ho h3) hmem hy hS ?_
   ·intro t h6 h7
    have := List.all_eq_true.1 h4 t (List.mem_range.2 h7)
    simp only [Bool.or_eq_true, Nat.blt_eq, Bool.not_eq_true'] at this
    rcases this with h8 | h8
    ·omega
    ·exact h8
   ·exact ih _ _ _ (inv.set hmem) h5 hrest
  | false =>
   simp only [goB, Bool.and_eq_true] at hg
   obtain ⟨h1, h2⟩ := hg
   have hrd : Region.ready .any ops listed = [i] := by
    split at h1
    ·rename_i j hj
     rw [hj, Nat.eq_of_beq_eq_true h1]
    ·exact absurd h1 (by simp)
   refine ⟨fun h0 => (by rw [hrd] at h0; cases h0), fun j hj => ?_⟩
   rw [hrd] at hj
   simp at hj
   subst hj
   exact wpOp_mono (fun a' w' h3 => ⟨h3.1, ih _ _ _ (inv.set (by rw [hrd]; simp)) h2 h3.2⟩) h

/-- as w, but for the tape's place -/
structure Dr (w w1 : World) : Prop where
 os : w1.os = w.os
 tape : w1.tape = w.tape
 output : w1.output = w.output
 heap : w1.heap = w.heap
theorem Dr.fr {w w1 : World} (h : Dr w w1) (B : Nat) (W : List Nat) : Fr B W w w1 := ⟨h.os, h.tape, h.output, by rw [h.heap]; exact Nat.le_refl _, fun b o hb _ => by rw [h.heap]; exact hb⟩
theorem Dr.blk {w w1 : World} {b T : Nat} {cs : List Value} (h : Dr w w1) (hb : Blk w b T cs) : Blk w1 b T cs := by unfold Blk; rw [h.heap]; exact hb
theorem Fr.dr {w0 w w1 : World} {B : Nat} {W : List Nat} (hf : Fr B W w0 w) (h : Dr w w1) : Fr B W w0 w1 := hf.trans (h.fr B W) (.inr ⟨Nat.le_refl _, fun _ hx => hx⟩)

def DS (P : Program) (ops : Array Oper) (Q : Exit → Act → World → Prop) (S : World → Prop) (nt : Nat) (n : Nat) (e : Env) (s : Sched) (w : World) : Prop := ∀ a, Sat n e a → wpS P ops Q S nt s a w

def NoP (Q : Exit → Act → World → Prop) : Exit → Act → World → Prop
 | .panic _, _, _ => False
 | x, a, w => Q x a w

variable {n : Nat} {e : Env} {w : World}

theorem c_draw {id : Nat} {l : List Oper} (nt : Nat) (s : Sched) (hm : P.follows .mixedOrders = true) (hs : schedB l.toArray nt s = true)
  (h : ∀ w1, Dr w w1 → ∃ S : World → Prop, DS P l.toArray (NoP Q) S nt n e s w1) : C P (.region id l.toArray true) Q n e w := fun a ha => by
 simp only [schedB, Bool.and_eq_true] at hs
 obtain ⟨⟨⟨h1, h2⟩, h3⟩, h4⟩ := hs
 obtain ⟨S, hS⟩ := h { w with drawn := w.drawn + 1 } ⟨rfl, rfl, rfl, rfl⟩
 have h5 : (Code.region id l.toArray true).wp P (NoP Q) a w := by
  have h6 := wpG_of_S (P := P) (Q := NoP Q) h1 h2 (fun _ _ _ _ hq => hq) s _ a _ ⟨by simp, by
   intro j oj _ hl
   rw [getD_replicate_false] at hl
   cases hl⟩ h4 (hS a ha)
  rw [Nat.eq_of_beq_eq_true h3] at h6
  exact wp_region_any hm (wpG_any _ _ _ _ h6)
 exact Code.wp_mono (fun x a w hq => by cases x <;> first | exact hq | exact hq.elim) h5

theorem d_light {i d ty : Nat} {op : Op} {pos : String} {af : Array Edge} {v : Value} {r : Sched} (hi : ops[i]? = some ⟨some d, op, ty, pos, af, none⟩) (hd : Nat.blt d n = true)
  (hr : ∀ a w, Sat n e a → S w → (execOp a.eval ⟨some d, op, ty, pos, af, none⟩).run P w = .ok (.value v) w) (hS : S w) (k : DS P ops Q S nt n ((d, v) :: e) r w) : DS P ops Q S nt n e ((i, true) :: r) w := fun a ha =>
 ⟨_, v, hi, .inl ⟨by simp [Region.wanted], fun w hw => hr a w ha hw⟩, hS, k _ (ha.put hd)⟩
theorem d_eff {i : Nat} {o : Oper} {r : Sched} (hi : ops[i]? = some o)
  (h : ∀ K : Act → World → Prop, (∀ e w, (i < nt → S w) → DS P ops Q S nt n e r w → N K n e w) → L P ops (Exit.then K Q) n e [o] w) : DS P ops Q S nt n e ((i, false) :: r) w := fun a ha => by
 have h1 := h (fun a w => (i < nt → S w) ∧ wpS P ops Q S nt r a w) (fun e w h2 h3 a ha => ⟨h2, h3 a ha⟩) a ha
 unfold wpS wpOp
 simp only [hi]
 simp only [wpList] at h1
 split
 ·rename_i hw
  rw [if_pos hw] at h1
  rcases h1 with h1 | ⟨h1, h2⟩
  ·left
   unfold Oper.wp at h1 ⊢
   generalize (execOp a.eval o).run P w = x at h1 ⊢
   cases x with
   | ok nx w' =>
    cases nx <;> simp only [Oper.upon] at h1 ⊢ <;> first
     | exact h1
     | exact Calls.mono h1 (fun x w'' hx => by cases x <;> first | exact hx | (obtain ⟨a, w, hq⟩ := hx; exact ⟨a, w, hq⟩))
     | exact Rows.mono h1 (fun _ _ hx => hx)
   | halt y w' => cases y <;> simp only [Oper.upon] at h1 ⊢ <;> exact h1
  ·right
   obtain ⟨a', w', hq⟩ := h2
   exact ⟨h1, a', w', hq⟩
 ·rename_i hw
  rw [if_neg hw] at h1
  exact h1
end
end Go.Fw
