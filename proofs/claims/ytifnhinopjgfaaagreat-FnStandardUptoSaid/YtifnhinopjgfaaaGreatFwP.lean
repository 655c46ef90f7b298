/-
  A region whose order is open and in which a new block may be made at any time: walked in one order, the block made as late as may be, or ahead of any one of the others. Conditions: the checks 'schedF' on the region's text.
-/
import Derived.Test.YtifnhinopjgfaaaGreatFwO
namespace Go.Fw
open Go
section
variable {P : Program} {ops : Array Oper} {Q : Exit → Act → World → Prop} {S : World → Prop} {nt al : Nat}
def rmS (al : Nat) (s : Sched) : Sched := s.filter fun p => !Nat.beq p.1 al
def goF (ops : Array Oper) (nt al : Nat) : Array Bool → Sched → Bool
 | _, [] => false
 | listed, (i, true) :: r => Nat.blt i nt && (Region.ready .any ops listed).contains i && Region.free .any ops listed i
   && (List.range ops.size).all (fun t => Nat.blt t nt || !listed.getD t true) && goF ops nt al (listed.setIfInBounds i true) r
 | listed, (i, false) :: r => bif Nat.beq i al then (match Region.ready .any ops listed with | [j] => Nat.beq j al | _ => false) && goB ops nt (listed.setIfInBounds al true) r
   else (Region.ready .any ops listed).contains i && (Region.ready .any ops listed).all (fun j => Nat.beq j i || Nat.beq j al) && Nat.beq ((rmS al r).length + 1) r.length
    && goF ops nt al (listed.setIfInBounds i true) r && (!(Region.ready .any ops listed).contains al || goB ops nt (listed.setIfInBounds al true) ((i, false) :: rmS al r))
def schedF (ops : Array Oper) (nt al : Nat) (s : Sched) : Bool := tailB ops nt && Region.noSelect ops && Nat.beq s.length ops.size && goF ops nt al (Array.replicate ops.size false) s
def wpF (P : Program) (ops : Array Oper) (Q : Exit → Act → World → Prop) (S : World → Prop) (nt al : Nat) : Sched → Act → World → Prop
 | [], _, _ => False
 | (i, true) :: r, a, w => ∃ o v, ops[i]? = some o ∧ YieldsIf P ops S o v a ∧ S w ∧ wpF P ops Q S nt al r (a.put o.dst v) w
 | (i, false) :: r, a, w => bif Nat.beq i al then wpOp P ops Q al (fun a' w' => (al < nt → S w') ∧ wpS P ops Q S nt r a' w') a w
   else wpOp P ops Q i (fun a' w' => (i < nt → S w') ∧ wpF P ops Q S nt al r a' w') a w ∧ wpOp P ops Q al (fun a' w' => (al < nt → S w') ∧ wpS P ops Q S nt ((i, false) :: rmS al r) a' w') a w
theorem wpG_of_F (ht : tailB ops nt = true) (hsel : Region.noSelect ops = true) (hQ : ∀ c a a' w, Q (.panic c) a w → Q (.panic c) a' w) :
  ∀ (s : Sched) (listed : Array Bool) (a : Act) (w : World), Clo ops listed → goF ops nt al listed s = true → wpF P ops Q S nt al s a w → wpG P ops Q S nt s.length listed a w := by
 intro s
 induction s with
 | nil => intro listed a w _ hg; cases hg
 | cons p r ih =>
  obtain ⟨i, t⟩ := p
  intro listed a w inv hg h
  cases t with
  | true =>
   simp only [goF, Bool.and_eq_true, Nat.blt_eq] at hg
   obtain ⟨⟨⟨⟨h1, h2⟩, h3⟩, h4⟩, h5⟩ := hg
   obtain ⟨o, v, ho, hy, hS, hrest⟩ := h
   have hmem : i ∈ Region.ready .any ops listed := by simpa using h2
   refine wpG_first ho (Region.noSelect_spec hsel) (fun c a w hq => hQ c _ _ w hq) ht h1 r.length listed a w inv ?_ (Region.free_spec ho h3) hmem hy hS ?_
   ·intro t h6 h7
    have := List.all_eq_true.1 h4 t (List.mem_range.2 h7)
    simp only [Bool.or_eq_true, Nat.blt_eq, Bool.not_eq_true'] at this
    rcases this with h8 | h8
    ·omega
    ·exact h8
   ·exact ih _ _ _ (inv.set hmem) h5 hrest
  | false =>
   by_cases hial : Nat.beq i al = true
   ·simp only [goF, wpF, hial, cond_true, Bool.and_eq_true] at hg h
    obtain ⟨h1, h2⟩ := hg
    have hrd : Region.ready .any ops listed = [al] := by
     split at h1
     ·rename_i j hj
      rw [hj, Nat.eq_of_beq_eq_true h1]
     ·exact absurd h1 (by simp)
    refine ⟨fun h0 => (by rw [hrd] at h0; cases h0), fun j hj => ?_⟩
    rw [hrd] at hj
    simp at hj
    subst hj
    exact wpOp_mono (fun a' w' h3 => ⟨h3.1, wpG_of_S ht hsel hQ _ _ _ _ (inv.set (by rw [hrd]; simp)) h2 h3.2⟩) h
   ·have hia : Nat.beq i al = false := by
     cases h : Nat.beq i al with
     | true => exact absurd h hial
     | false => rfl
    simp only [goF, wpF, hia, cond_false, Bool.and_eq_true, Bool.or_eq_true, Bool.not_eq_true'] at hg h
    obtain ⟨⟨⟨⟨h1, h2⟩, h3⟩, h4⟩, h5⟩ := hg
    have hmem : i ∈ Region.ready .any ops listed := by simpa using h1
    refine ⟨fun h0 => (by rw [h0] at hmem; cases hmem), fun j hj => ?_⟩
    have h6 := List.all_eq_true.1 h2 j hj
    simp only [Bool.or_eq_true] at h6
    rcases h6 with h6 | h6
    ·obtain rfl := Nat.eq_of_beq_eq_true h6
     exact wpOp_mono (fun a' w' h3 => ⟨h3.1, ih _ _ _ (inv.set hj) h4 h3.2⟩) h.1
    ·obtain rfl := Nat.eq_of_beq_eq_true h6
     have h7 : goB ops nt (listed.setIfInBounds j true) ((i, false) :: rmS j r) = true := by
      rcases h5 with h5 | h5
      ·have : (Region.ready .any ops listed).contains j = true := by simpa using hj
       rw [this] at h5; cases h5
      ·exact h5
     refine wpOp_mono (fun a' w' h3 => ⟨h3.1, ?_⟩) h.2
     have h8 := wpG_of_S (P := P) (Q := Q) (S := S) ht hsel hQ _ _ a' w' (inv.set hj) h7 h3.2
     rw [List.length_cons, Nat.eq_of_beq_eq_true (by assumption : Nat.beq ((rmS j r).length + 1) r.length = true)] at h8
     exact h8
def DSF (P : Program) (ops : Array Oper) (Q : Exit → Act → World → Prop) (S : World → Prop) (nt al : Nat) (n : Nat) (e : Env) (s : Sched) (w : World) : Prop := ∀ a, Sat n e a → wpF P ops Q S nt al s a w
variable {n : Nat} {e : Env} {w : World}
theorem c_drawF {id : Nat} {l : List Oper} (nt al : Nat) (s : Sched) (hm : P.follows .mixedOrders = true) (hs : schedF l.toArray nt al s = true)
  (h : ∀ w1, Dr w w1 → ∃ S : World → Prop, DSF P l.toArray (NoP Q) S nt al n e s w1) : C P (.region id l.toArray true) Q n e w := fun a ha => by
 simp only [schedF, Bool.and_eq_true] at hs
 obtain ⟨⟨⟨h1, h2⟩, h3⟩, h4⟩ := hs
 obtain ⟨S, hS⟩ := h { w with drawn := w.drawn + 1 } ⟨rfl, rfl, rfl, rfl⟩
 have h5 : (Code.region id l.toArray true).wp P (NoP Q) a w := by
  have h6 := wpG_of_F (P := P) (Q := NoP Q) h1 h2 (fun _ _ _ _ hq => hq) s _ a _ ⟨by simp, by
   intro j oj _ hl
   rw [getD_replicate_false] at hl
   cases hl⟩ h4 (hS a ha)
  rw [Nat.eq_of_beq_eq_true h3] at h6
  exact wp_region_any hm (wpG_any _ _ _ _ h6)
 exact Code.wp_mono (fun x a w hq => by cases x <;> first | exact hq | exact hq.elim) h5
/-- one operation's step, in either judgement -/
theorem op_step {i : Nat} {o : Oper} {K : Act → World → Prop} (hi : ops[i]? = some o) {a : Act} (h1 : L P ops (Exit.then K Q) n e [o] w) (ha : Sat n e a) : wpOp P ops Q i K a w := by
 have h1 := h1 a ha
 unfold wpOp
 simp only [hi]
 simp only [wpList] at h1
 split
 ·rename_i hw
  rw [if_pos hw] at h1
  rcases h1 with h1 | ⟨h1, h2⟩
  ·left
   unfold Oper.wp at h1 ⊢
   generalize (execOp a.eval o).run P w = x at h1 ⊢
   cases x with
   | ok nx w' =>
    cases nx <;> simp only [Oper.upon] at h1 ⊢ <;> first
     | exact h1
     | exact Calls.mono h1 (fun x w'' hx => by cases x <;> first | exact hx | (obtain ⟨a, w, hq⟩ := hx; exact ⟨a, w, hq⟩))
     | exact Rows.mono h1 (fun _ _ hx => hx)
   | halt y w' => cases y <;> simp only [Oper.upon] at h1 ⊢ <;> exact h1
  ·right
   obtain ⟨a', w', hq⟩ := h2
   exact ⟨h1, a', w', hq⟩
 ·rename_i hw
  rw [if_neg hw] at h1
  exact h1
end
section
variable {P : Program} {Q : Exit → Act → World → Prop} {n : Nat} {f : Fm} {e : Env} {H : Heap} {ops : Array Oper} {nt al : Nat} {HS : Heap} {r : Sched} {d ty : Nat} {pos : String} {af : Array Edge}
def DF (P : Program) (ops : Array Oper) (Q : Exit → Act → World → Prop) (f : Fm) (HS : Heap) (nt al n : Nat) (e : Env) (H : Heap) (s : Sched) : Prop :=
 ∀ w, Hp f w H → f.ok w → DSF P ops Q (Sx f HS) nt al n e s w
theorem cj_drawF {id : Nat} {l : List Oper} {HS : Heap} (nt al : Nat) (s : Sched) (idx : List Nat) (_ : pickH H idx = some HS) (hm : P.follows .mixedOrders = true) (hs : schedF l.toArray nt al s = true)
  (h : DF P l.toArray (NoP Q) f HS nt al n e H s) : CJ P (.region id l.toArray true) Q n f e H := fun w hH hf =>
 c_drawF nt al s hm hs fun w1 hD => ⟨_, h w1 (hH.mono fun _ _ _ o hb => by rw [hD.heap]; exact hb) (Fr.dr hf hD)⟩
theorem df_val {i : Nat} {op : Op} {v : Value} (hi : ops[i]? = some ⟨some d, op, ty, pos, af, none⟩) (hd : Nat.blt d n = true) (hS : ∀ x ∈ HS, x ∈ H)
  (hr : ∀ a w, Sat n e a → (execOp a.eval ⟨some d, op, ty, pos, af, none⟩).run P w = .ok (.value v) w) (k : DF P ops Q f HS nt al n ((d, v) :: e) H r) : DF P ops Q f HS nt al n e H ((i, true) :: r) := fun w hH hf a ha =>
 ⟨_, v, hi, .inl ⟨by simp [Region.wanted], fun w _ => hr a w ha⟩, ⟨fun x hx ho => hH.blk (hS x hx) ho, hf⟩, k w hH hf _ (ha.put hd)⟩
theorem df_ld {i : Nat} {op : Op} {v : Value} (hi : ops[i]? = some ⟨some d, op, ty, pos, af, none⟩) (hd : Nat.blt d n = true) (hS : ∀ x ∈ HS, x ∈ H)
  (hr : ∀ a w, Sat n e a → Sx f HS w → (execOp a.eval ⟨some d, op, ty, pos, af, none⟩).run P w = .ok (.value v) w) (k : DF P ops Q f HS nt al n ((d, v) :: e) H r) : DF P ops Q f HS nt al n e H ((i, true) :: r) := fun w hH hf a ha =>
 ⟨_, v, hi, .inl ⟨by simp [Region.wanted], fun w hw => hr a w ha hw⟩, ⟨fun x hx ho => hH.blk (hS x hx) ho, hf⟩, k w hH hf _ (ha.put hd)⟩
theorem df_eqv {v u : Value} (hp : v = u) (k : DF P ops Q f HS nt al n ((d, u) :: e) H r) : DF P ops Q f HS nt al n ((d, v) :: e) H r := by rw [hp]; exact k
/-- two may come: the one in turn, or the new block -/
theorem df_fork {i : Nat} {o oa : Oper} (hi : ops[i]? = some o) (hal : ops[al]? = some oa) (hne : Nat.beq i al = false)
  (h2 : ∀ K : Act → World → Prop, (∀ e H, (∀ x ∈ HS, x ∈ H) → DJ P ops Q f HS nt n e H ((i, false) :: rmS al r) → NJ K n f e H) → J P ops (Exit.then K Q) n f e H [oa])
  (h1 : ∀ K : Act → World → Prop, (∀ e H, (∀ x ∈ HS, x ∈ H) → DF P ops Q f HS nt al n e H r → NJ K n f e H) → J P ops (Exit.then K Q) n f e H [o]) : DF P ops Q f HS nt al n e H ((i, false) :: r) := fun w hH hf a ha => by
 unfold wpF
 rw [hne]
 exact ⟨op_step hi (h1 _ (fun e H hs hd w hH hf a ha => ⟨fun _ => ⟨fun x hx ho => hH.blk (hs x hx) ho, hf⟩, hd w hH hf a ha⟩) w hH hf) ha, op_step hal (h2 _ (fun e H hs hd w hH hf a ha => ⟨fun _ => ⟨fun x hx ho => hH.blk (hs x hx) ho, hf⟩, hd w hH hf a ha⟩) w hH hf) ha⟩
/-- the new block at last -/
theorem df_al {oa : Oper} (hal : ops[al]? = some oa)
  (h : ∀ K : Act → World → Prop, (∀ e H, (∀ x ∈ HS, x ∈ H) → DJ P ops Q f HS nt n e H r → NJ K n f e H) → J P ops (Exit.then K Q) n f e H [oa]) : DF P ops Q f HS nt al n e H ((al, false) :: r) := fun w hH hf a ha => by
 unfold wpF
 rw [Nat.beq_refl, cond_true]
 exact op_step hal (h _ (fun e H hs hd w hH hf a ha => ⟨fun _ => ⟨fun x hx ho => hH.blk (hs x hx) ho, hf⟩, hd w hH hf a ha⟩) w hH hf) ha
/-- the ways through what comes first meet in states of one kind -/
theorem cj_seqJ {ι : Type} {x y : Code} (en : ι → Env) (hp : ι → Heap) (h1 : ∀ K : Act → World → Prop, (∀ i e H, Sub e (en i) → (∀ w, Hp f w H → Hp f w (hp i)) → NJ K n f e H) → CJ P x (Exit.then K Q) n f e H) (h2 : ∀ i, CJ P y Q n f (en i) (hp i)) : CJ P (.seq x y) Q n f e H :=
 cj_seqF fun K hK => h1 K fun i e H hs hH w hw hf => N.sub' (hK f (en i) (hp i) (h2 i) w (hH w hw) hf) hs
end
end Go.Fw
