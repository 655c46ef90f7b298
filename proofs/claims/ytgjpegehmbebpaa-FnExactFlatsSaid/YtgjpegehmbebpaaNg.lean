/-
  The graph of a profile: its nodes' flat values. Conditions: the profile is well formed.
-/
import Derived.Test.YtgjpegehmbebpaaCn
namespace Go.Fw
open Go
theorem wrap64_small {z : Int} (h1 : -4611686018427387904 ≤ z) (h2 : z < 4611686018427387904) : IntKind.i64.wrap z = z := by
  simp [IntKind.wrap, IntKind.bits, IntKind.signed]; omega
theorem wrap64_idem (z : Int) : IntKind.i64.wrap (IntKind.i64.wrap z) = IntKind.i64.wrap z := by
  simp [IntKind.wrap, IntKind.bits, IntKind.signed]; omega
theorem N.sub' {K : Act → World → Prop} {n : Nat} {e e' : Env} {w : World} (h : N K n e' w) (hs : Sub e e') : N K n e w := fun a ha => h a (ha.sub hs)
section
variable {P : Program} {Q : Exit → Act → World → Prop} {n : Nat} {f : Fm} {e : Env} {H : Heap} {ops : Array Oper} {rest : List Oper} {d ty : Nat} {pos : String} {af : Array Edge}
/-- a call of a function value that only makes new memory, none of which is asked for -/
theorem j_callVQ {g : FuncId} {x : Operand} {args : Array Operand} {vs us : List Value} {tys : Array TypeId} {φ : Value → Prop} (hg : ∀ (az : Array Value) (w : World), (callFunc g az).run P w = .ok (.enter g az) w)
    (hx : ev e x = some (.func (.func g) #[] us.toArray)) (hargs : evL e args.toList = some vs) (hd : Nat.blt d n = true) (hc : ∀ w, Hp f w H → f.ok w → Calls P g (vs ++ us).toArray w (Ret fun v w' => φ v ∧ Fr 0 [] w w'))
    (k : ∀ v, φ v → J P ops Q n f ((d, v) :: e) H rest) : J P ops Q n f e H (⟨some d, .call ⟨.value x, args, tys⟩, ty, pos, af, none⟩ :: rest) :=
  j_callV hg hx hargs hd hc fun w v w' hH hf hR => k v hR.1 w' (hH.fr hR.2) (hf.fr hR.2)
theorem run_eqIn_ff (dd t : Nat) {ps rs : Array TypeId} {va : Bool} (hu : P.underlying t = some (.func ps rs va)) (w : World) : (Op.equalIn (dd + 1) t .nilFunc .nilFunc).run P w = .ok true w := by
  simp [Op.equalIn, run_underlying hu]
theorem r_fnnil {t t' : Nat} {x : Operand} {ps rs : Array TypeId} {va : Bool} (hu : P.underlying t = some (.func ps rs va)) (hx : ev e x = some .nilFunc) {a : Act} {w : World} (ha : Sat n e a) :
    (execOp a.eval ⟨some d, .binOp .neq t x (.const .nilFunc) t', ty, pos, af, none⟩).run P w = .ok (.value (.bool false)) w := by
  have h : (binOp .neq t .nilFunc .nilFunc).run P w = .ok (.bool false) w := by
    simp only [binOp]
    simp [Op.equal, Op.maxDepth, run_eqIn_ff 9999 t hu]
  simp only [execOp, ha.ev hx, eval_const]
  simp [eqGuard, h]
end
end Go.Fw
namespace Go.Proofs.Ytgjpegehmbebpaa
open Go Go.Fw Go.Proofs
def leafI (x : PProf) (s : PSample) : Option NI := match s.stack with
  | [] => none
  | k :: _ => (x.locs[k.toNat]?).bind fun l => (infos x.funcs l)[0]?
def flS (x : PProf) (kv k : Nat) (i : NI) : Int := (x.samples.take k).foldl (fun a s => if leafI x s = some i then IntKind.i64.wrap (a + s.values.getD kv 0) else a) 0
theorem flS_succ (x : PProf) (kv : Nat) {k : Nat} (hk : k < x.samples.length) (i : NI) : flS x kv (k + 1) i = if leafI x x.samples[k] = some i then IntKind.i64.wrap (flS x kv k i + x.samples[k].values.getD kv 0) else flS x kv k i := by
  unfold flS
  rw [← List.take_append_getElem hk, List.foldl_append]
  rfl
theorem flS_wrap (x : PProf) (kv : Nat) (i : NI) : ∀ k, IntKind.i64.wrap (flS x kv k i) = flS x kv k i
  | 0 => rfl
  | k + 1 => by
    by_cases hk : k < x.samples.length
    · rw [flS_succ x kv hk]
      split
      · exact wrap64_idem _
      · exact flS_wrap x kv i k
    · have : flS x kv (k + 1) i = flS x kv k i := by
        unfold flS
        rw [List.take_of_length_le (by omega), List.take_of_length_le (by omega)]
      rw [this]; exact flS_wrap x kv i k
abbrev wG : List Nat := [tNode, tEdge, pEdge, 1000000]
structure GC (B lb sm em : Nat) : Prop where
  s : B ≤ sm
  e : B ≤ em
  se : sm ≠ em
  ls : lb ≠ sm
  le : lb ≠ em
/-- what stays while the samples are gone through -/
structure GS (w0 : World) (x : PProf) (ns : List (NI × Nat)) (bs : List Nat) (nv : Value) (sb lb b6 : Nat) (tb : List (Int × Value)) (v : World) : Prop where
  fr : Fr 0 [] w0 v
  lm : LM v sb lb (x.locs.length + 1) tb
  tb : TBI v x ns tb x.locs.length
  os : OS pNode 1 v nv (bs.map ptr)
  r6 : Blk v b6 tLM [.slice (some ⟨sb, 0, none⟩) (x.locs.length + 1) (x.locs.length + 1), .map (some lb)]
theorem GS.step {w0 : World} {x : PProf} {ns : List (NI × Nat)} {bs : List Nat} {nv : Value} {sb lb b6 : Nat} {tb : List (Int × Value)} {v v' : World} (h : GS w0 x ns bs nv sb lb b6 tb v) (k : Fr w0.heap.size wG v v') (hl : ∀ es ck, v.heap[lb]? = some (.map es ck) → v'.heap[lb]? = some (.map es ck)) : GS w0 x ns bs nv sb lb b6 tb v' :=
  ⟨Fr.trans h.fr k (.inl (Nat.le_refl _)), h.lm.of (fun cs hc => fr_row k rfl _ _ hc) hl, h.tb.mono (fun b cs hc => fr_row k rfl _ _ hc) (fun p hp => hp), h.os.mono (fun b cs hc => fr_row k rfl _ _ hc), fr_row k rfl _ _ h.r6⟩
theorem GS.quiet {w0 : World} {x : PProf} {ns : List (NI × Nat)} {bs : List Nat} {nv : Value} {sb lb b6 : Nat} {tb : List (Int × Value)} {v v' : World} (h : GS w0 x ns bs nv sb lb b6 tb v) (k : Fr 0 [] v v') : GS w0 x ns bs nv sb lb b6 tb v' :=
  h.step (k.quiet _ _) (fr_map k rfl)
/-- what is turned while the samples are gone through -/
structure GD (B : Nat) (ns : List (NI × Nat)) (fl : NI → Int) (N sm em : Nat) (v : World) : Prop where
  nodes : ∀ p ∈ ns, ∃ cu, NodeAt B N v p.2 p.1 (fl p.1) cu
  sm : ∃ ms es ck, v.heap[sm]? = some (.map (List.toArray es) ck) ∧ MEnc (κ := Nat) ptr ms es ck ∧ ∀ p ∈ ms, IsNode v p.1
  em : ∃ ms es ck, v.heap[em]? = some (.map (List.toArray es) ck) ∧ MEnc encPP ms es ck ∧ ∀ p ∈ ms, (IsNode v p.1.1 ∧ ∀ y, p.1.2 = some y → IsNode v y) ∧ ∃ b, p.2 = .bool b
theorem GD.step {B : Nat} {ns : List (NI × Nat)} {fl fl' : NI → Int} {N N' sm em : Nat} {v v' : World} (h : GD B ns fl N sm em v) (hx : Ext B v v') (hn : ∀ p ∈ ns, ∃ cu, NodeAt B N' v' p.2 p.1 (fl' p.1) cu) (hm : ∀ b es ck, b = sm ∨ b = em → v.heap[b]? = some (.map es ck) → v'.heap[b]? = some (.map es ck)) : GD B ns fl' N' sm em v' := by
  obtain ⟨ms, es, ck, h1, h2, h3⟩ := h.sm
  obtain ⟨ms', es', ck', h1', h2', h3'⟩ := h.em
  exact ⟨hn, ⟨ms, es, ck, hm _ _ _ (.inl rfl) h1, h2, fun p hp => hx.node _ (h3 p hp)⟩, ⟨ms', es', ck', hm _ _ _ (.inr rfl) h1', h2', fun p hp => ⟨⟨hx.node _ (h3' p hp).1.1, fun y hy => hx.node _ ((h3' p hp).1.2 y hy)⟩, (h3' p hp).2⟩⟩⟩
theorem GD.quiet {B : Nat} {ns : List (NI × Nat)} {fl : NI → Int} {N sm em : Nat} {v v' : World} (h : GD B ns fl N sm em v) (k : Fr 0 [] v v') : GD B ns fl N sm em v' :=
  h.step (Fr.ext k) (fun p hp => by obtain ⟨cu, hc⟩ := h.nodes p hp; exact ⟨cu, hc.k3 (KG.fr k rfl)⟩) fun b es ck _ hb => fr_map k rfl es ck hb
theorem GD.mono {B : Nat} {ns : List (NI × Nat)} {fl : NI → Int} {N M sm em : Nat} {v : World} (h : GD B ns fl N sm em v) (hM : N ≤ M) : GD B ns fl M sm em v :=
  ⟨fun p hp => by obtain ⟨cu, hc⟩ := h.nodes p hp; exact ⟨cu, hc.mono hM⟩, h.sm, h.em⟩
theorem GD.node {B : Nat} {ns : List (NI × Nat)} {fl : NI → Int} {N sm em : Nat} {v : World} (h : GD B ns fl N sm em v) {p : NI × Nat} (hp : p ∈ ns) : IsNode v p.2 := by
  obtain ⟨cu, hc⟩ := h.nodes p hp
  obtain ⟨fn, fd, cd, ein, eout, h1, -⟩ := hc.ex
  exact ⟨_, h1⟩
/-- the two maps, and all the rest -/
theorem hpMaps {w : World} {B lb sm em ck ck' : Nat} {es es' : List MapEntry} (hC : GC B lb sm em) (hs : w.heap[sm]? = some (.map es.toArray ck)) (he : w.heap[em]? = some (.map es'.toArray ck')) : Hp ⟨w, B, [1000000]⟩ w (mpE sm es ck :: mpE em es' ck' :: restH w [sm, em]) :=
  ⟨⟨fun h => (by cases h), fun o ho => by cases ho; exact hs⟩, fun _ _ => .inr ⟨hC.s, mem_of_any rfl⟩, fun _ y hy he' => by
    rcases List.mem_cons.1 hy with rfl | hy
    · exact hC.se.symm
    · exact rest_ne (by simp) y hy he', ⟨fun h => (by cases h), fun o ho => by cases ho; exact he⟩, fun _ _ => .inr ⟨hC.e, mem_of_any rfl⟩, fun _ => rest_ne (by simp), Hp.rest _⟩
/-- behind a stretch that turned the two maps -/
theorem afterMaps {w0 : World} {x : PProf} {ns : List (NI × Nat)} {bs : List Nat} {nv : Value} {sb lb b6 : Nat} {tb : List (Int × Value)} {v w' : World} {fl : NI → Int} {N sm em ck ck' : Nat} {es es' : Array MapEntry} {es1 es2 : List MapEntry} {ck1 ck2 : Nat} {ms1 : List (Nat × Value)} {ms2 : List ((Nat × Option Nat) × Value)}
    (hC : GC w0.heap.size lb sm em) (hS : GS w0 x ns bs nv sb lb b6 tb v) (hD : GD w0.heap.size ns fl N sm em v) (hs : v.heap[sm]? = some (Obj.map es ck)) (he : v.heap[em]? = some (Obj.map es' ck'))
    (hH : Hp ⟨v, w0.heap.size, [1000000]⟩ w' (mpE sm es1 ck1 :: mpE em es2 ck2 :: restH v [sm, em])) (hf : Fm.ok ⟨v, w0.heap.size, [1000000]⟩ w') (m1 : MEnc ptr ms1 es1 ck1) (n1 : ∀ p ∈ ms1, IsNode v p.1) (m2 : MEnc encPP ms2 es2 ck2) (n2 : ∀ p ∈ ms2, (IsNode v p.1.1 ∧ ∀ y, p.1.2 = some y → IsNode v y) ∧ ∃ b, p.2 = .bool b) :
    GS w0 x ns bs nv sb lb b6 tb w' ∧ GD w0.heap.size ns fl N sm em w' := by
  have hk : KeepX [sm, em] v w' := Hp.keepX hH.2.2.2.2.2.2 hf
  have hg : NoGr [sm, em] v := (NoGr.map hs).cons (NoGr.map he)
  have hx : Ext w0.heap.size v w' := Ext.notag hk hg
  refine ⟨hS.step (hf.mono (.inr ⟨Nat.le_refl _, by simp⟩)) fun es ck h => hk.keep _ _ h (by simp; exact ⟨hC.ls, hC.le⟩), fun p hp => ?_, ⟨ms1, es1, ck1, hH.obj (i := 0) rfl rfl, m1, fun p hp => hx.node _ (n1 p hp)⟩, ⟨ms2, es2, ck2, hH.obj (i := 1) rfl rfl, m2, fun p hp => ⟨⟨hx.node _ (n2 p hp).1.1, fun y hy => hx.node _ ((n2 p hp).1.2 y hy)⟩, (n2 p hp).2⟩⟩⟩
  obtain ⟨cu, hc⟩ := hD.nodes p hp
  exact ⟨cu, hc.notag hk hg⟩
/-- behind a sample added to a node -/
theorem afterAdd {w0 : World} {x : PProf} {ns : List (NI × Nat)} {bs : List Nat} {nv : Value} {sb lb b6 : Nat} {tb : List (Int × Value)} {v w' : World} {fl fl' : NI → Int} {N sm em : Nat} {i : NI} {b : Nat} {cu' : Int} (hnd : (ns.map (·.2)).Nodup) (hnk : (ns.map (·.1)).Nodup)
    (hS : GS w0 x ns bs nv sb lb b6 tb v) (hD : GD w0.heap.size ns fl N sm em v) (hib : (i, b) ∈ ns) (hk : KeepX [b] v w') (hx : Ext w0.heap.size v w') (hn : NodeAt w0.heap.size N w' b i (fl' i) cu') (hfl : ∀ j, j ≠ i → fl' j = fl j) :
    GS w0 x ns bs nv sb lb b6 tb w' ∧ GD w0.heap.size ns fl' N sm em w' := by
  have hnode := hD.node hib
  obtain ⟨cs, hcs⟩ : ∃ cs, Blk v b tNode cs := hnode
  have hmap : ∀ (c : Nat) (es : Array MapEntry) (ck : Nat), v.heap[c]? = some (Obj.map es ck) → w'.heap[c]? = some (Obj.map es ck) := fun c es ck h => hk.keep _ _ h (by simp; rintro rfl; exact map_noBlk h _ _ hcs)
  refine ⟨hS.step (hk.fr fun c hc o ho => ?_) (hmap lb), hD.step hx (fun p hp => ?_) fun b es ck _ h => hmap b es ck h⟩
  · simp at hc; subst hc
    obtain ⟨cu, hc⟩ := hD.nodes _ hib
    have h1 : v.heap[c]? = some (.cells cs.toArray tNode (0, 0)) := hcs
    rw [h1] at ho; cases ho
    exact ⟨hc.ge, by simp [tagOf]⟩
  · by_cases hp2 : p.2 = b
    · have : p = (i, b) := map_inj_of_nodup hnd hp hib hp2
      subst this
      exact ⟨cu', hn⟩
    · obtain ⟨cu, hc⟩ := hD.nodes p hp
      have h1 := hc.ext hx fun cs h => hk.blk h (by simpa using hp2)
      by_cases hpi : p.1 = i
      · have : p = (i, b) := map_inj_of_nodup hnk hp hib hpi
        exact absurd (by rw [this]) hp2
      · rw [hfl _ hpi]; exact ⟨cu, h1⟩
theorem SamP.keep {w w' : World} {locs : List Nat} {b : Nat} {s : PSample} (k : Keep w w') (h : SamP w locs b s) : SamP w' locs b s := h.mono (fun _ _ h => k _ _ h) (fun _ _ h => k _ _ h) (fun _ _ h => k _ _ h) (fun _ _ h => k _ _ h) (fun _ _ _ h => k _ _ h)
theorem OfP.keep {B : Nat} {w w' : World} {x : PProf} {g : G} (h : OfP B w x g) (k : Keep w w') : OfP B w' x g := by
  obtain ⟨ty, sa, ma, lo, fu, co, h1, h2, h3, h4, h5, h6, h7⟩ := h.prof
  have q : ∀ {T sz : Nat} {v : Value} {xs : List Value}, OS T sz w v xs → OS T sz w' v xs := fun h => h.mono fun _ _ h => k _ _ h
  exact ⟨⟨ty, sa, ma, lo, fu, co, k.blk h1, q h2, q h3, q h4, q h5, q h6, q h7⟩, k.blk h.per, h.types.mono fun _ _ h => k.blk h, h.maps.mono fun _ _ h => k.blk h, h.funs.mono fun _ _ h => k.blk h, h.locs.mono fun _ _ h => h.mono (fun _ _ h => k _ _ h) (fun _ _ h => k _ _ h), h.sams.mono fun _ _ h => h.keep k, h.ntypes, h.nmaps, h.nfuns, h.nlocs, h.nsams, h.fresh⟩
theorem EdgeSl.zero {B N : Nat} {w : World} {v : Value} (h : EdgeSl B N w v) : EdgeSl 0 N w v := by
  obtain ⟨p, l, c, h1, h2, h3, h4⟩ := h.ex
  refine ⟨p, l, c, h1, h2, h3, h4.imp id fun ⟨b, cs, h5, _, h7, h8, h9⟩ => ⟨b, cs, h5, Nat.zero_le _, h7, h8, fun j hj => ?_⟩⟩
  obtain ⟨e, ha, _, hc⟩ := h9 j hj
  exact ⟨e, ha, Nat.zero_le _, hc⟩
theorem flS_zero {x : PProf} {kv : Nat} {i : NI} (h : ∀ s ∈ x.samples, leafI x s ≠ some i) (k : Nat) : flS x kv k i = 0 := by
  unfold flS
  have : ∀ (l : List PSample), (∀ s ∈ l, leafI x s ≠ some i) → l.foldl (fun a s => if leafI x s = some i then IntKind.i64.wrap (a + s.values.getD kv 0) else a) (0 : Int) = 0 := by
    intro l
    induction l with
    | nil => intro _; rfl
    | cons a r ih =>
      intro hh
      rw [List.foldl_cons, if_neg (hh a (by simp))]
      exact ih fun s hs => hh s (by simp [hs])
  exact this _ fun s hs => h s (List.mem_of_mem_take hs)
def pv (par : Option Nat) : Value := .pointer (par.map fun b => ⟨b, 0, none⟩)
/-- the leaf of a sample's locations, while they are gone through from the last to the first -/
def P1 (x : PProf) (ns : List (NI × Nat)) (s : PSample) (r : Nat) (par : Option Nat) : Prop := (par = none ∧ r = min 2 s.stack.length) ∨ (r < min 2 s.stack.length ∧ ∃ b i l, par = some b ∧ (i, b) ∈ ns ∧ (s.stack[r]?).bind (fun z => x.locs[z.toNat]?) = some l ∧ (infos x.funcs l)[0]? = some i)
theorem P1.mem {x : PProf} {ns : List (NI × Nat)} {s : PSample} {r : Nat} {par : Option Nat} (h : P1 x ns s r par) : par = none ∨ ∃ b i, par = some b ∧ (i, b) ∈ ns := by
  rcases h with ⟨h, -⟩ | ⟨-, b, i, l, h1, h2, -⟩
  · exact .inl h
  · exact .inr ⟨b, i, h1, h2⟩
def P2 (ns : List (NI × Nat)) (is : List NI) (L q : Nat) (par0 par : Option Nat) : Prop := (q = L ∧ par = par0) ∨ (q < L ∧ ∃ b i, par = some b ∧ (i, b) ∈ ns ∧ is[q]? = some i)
theorem P2.mem {ns : List (NI × Nat)} {is : List NI} {L q : Nat} {par0 par : Option Nat} (h : P2 ns is L q par0 par) (h0 : par0 = none ∨ ∃ b i, par0 = some b ∧ (i, b) ∈ ns) : par = none ∨ ∃ b i, par = some b ∧ (i, b) ∈ ns := by
  rcases h with ⟨-, rfl⟩ | ⟨-, b, i, h1, h2, -⟩
  · exact h0
  · exact .inr ⟨b, i, h1, h2⟩
theorem flats1_c (w : World) (vs : Value) (vals : List Int) (kv bk : Nat) (h : OS tI64 1 w vs (vals.map (.int .i64))) (hk : kv < vals.length) (hb : Blk w bk 3 [.int .i64 (kv : Nat)]) :
    Calls Try.prog 20 #[vs, ptr bk] w (Ret fun v w' => v = .int .i64 (vals.getD kv 0) ∧ Fr 0 [] w w') := by
  obtain ⟨p, l, c, rfl, hl, hlc, hx⟩ := h.openF
  obtain rfl : l = vals.length := by simpa using hl.symm
  obtain ⟨b, rfl, hcell⟩ := hx (by omega)
  have hcb := mc (f := ⟨w, 0, []⟩) hb rfl
  have hc2 : ∀ w', Fm.ok ⟨w, 0, []⟩ w' → ∀ (j : Nat) (u : Value), [.int .i64 (vals.getD kv 0)][j]? = some u → w'.cell? ⟨b, 0 + kv * 1 + j, none⟩ = some u := fun w' kp j u hu => by
    cases j with
    | zero => simp at hu; subst hu; simpa using hcell ⟨w, 0, []⟩ rfl rfl w' kp kv (.int .i64 (vals.getD kv 0)) (by simp [hk])
    | succ j => simp at hu
  refine startJ (args := [_, _]) [(0, _), (1, _)] 0 [] [] Try.func20 rfl Try.ntmps20 rfl rfl .nil ?_
  refine cj_seqF fun K1 hK1 => ?_
  refine cj_reg ?_
  refine j_val rfl (fun a w ha => r_assign rfl ha) ?_
  refine j_nil ?_
  refine ej_then (hK1 _ _ _ ?_); clear hK1
  refine CJ.sub (e' := [(0, _), (1, _)]) ⟨rfl, rfl, trivial⟩ ?_
  refine cj_seqF fun K2 hK2 => ?_
  refine cj_reg ?_
  refine j_val rfl (fun a w ha => r_move rfl ha) ?_
  refine j_valw rfl (fun a w ha hH hf => r_load Try.isAgg3 rfl (hcb w (hf) 0 _ rfl) ha) ?_
  refine j_val rfl (fun a w ha => r_idx Try.runUnderlying47 Try.sizeOf2 rfl rfl (by omega) ha) ?_
  refine j_valw rfl (fun a w ha hH hf => r_load Try.isAgg2 rfl (hc2 w (hf) 0 _ rfl) ha) ?_
  refine j_val rfl (fun a w ha => r_assign rfl ha) ?_
  refine j_nil ?_
  refine ej_then (hK2 _ _ _ ?_); clear hK2
  refine CJ.sub (e' := [(3, _)]) ⟨rfl, trivial⟩ ?_
  refine cj_ret (?_)
  exact ej_ret1 Try.results20 rfl fun w' hH hf => ⟨rfl, hf⟩
theorem nodeMset {v : World} {ms : List (Nat × Value)} {k : Nat} {u : Value} (h : ∀ p ∈ ms, IsNode v p.1) (hk : IsNode v k) : ∀ p ∈ mset ms k u, IsNode v p.1 := fun p hp => by
  have h1 : p.1 ∈ (mset ms k u).map (·.1) := List.mem_map.2 ⟨p, hp, rfl⟩
  rw [mset_keys] at h1
  split at h1
  · obtain ⟨q, hq, he⟩ := List.mem_map.1 h1; rw [← he]; exact h q hq
  · rcases List.mem_append.1 h1 with h1 | h1
    · obtain ⟨q, hq, he⟩ := List.mem_map.1 h1; rw [← he]; exact h q hq
    · simp at h1; rw [h1]; exact hk
theorem mem_mset {κ : Type} [DecidableEq κ] {k : κ} {u : Value} : ∀ {ms : List (κ × Value)} {p : κ × Value}, p ∈ mset ms k u → p ∈ ms ∨ p = (k, u)
  | [], p, h => by simp [mset] at h; exact .inr h
  | (k', y) :: r, p, h => by
    simp only [mset] at h
    split at h <;> rename_i he
    · rcases List.mem_cons.1 h with h | h
      · exact .inr (by rw [h, he])
      · exact .inl (by simp [h])
    · rcases List.mem_cons.1 h with h | h
      · exact .inl (by simp [h])
      · rcases mem_mset h with h | h
        · exact .inl (by simp [h])
        · exact .inr h
theorem pairMset {v : World} {ms : List ((Nat × Option Nat) × Value)} {k : Nat × Option Nat} {b : Bool} (h : ∀ p ∈ ms, (IsNode v p.1.1 ∧ ∀ y, p.1.2 = some y → IsNode v y) ∧ ∃ b, p.2 = .bool b) (hk : IsNode v k.1 ∧ ∀ y, k.2 = some y → IsNode v y) : ∀ p ∈ mset ms k (.bool b), (IsNode v p.1.1 ∧ ∀ y, p.1.2 = some y → IsNode v y) ∧ ∃ b, p.2 = .bool b := fun p hp => by
  rcases mem_mset hp with h1 | rfl
  · exact h p h1
  · exact ⟨hk, b, rfl⟩
abbrev fvOf (bk : Nat) : Value := .func (.func 20) #[] #[ptr bk]
set_option maxHeartbeats 4000000 in
theorem newGraph_c (w : World) (x : PProf) (g : G) (bo bk kv : Nat) (hG : OfP 0 w x g) (hx : WellP x) (ho : Blk w bo 66 (cOpt (fvOf bk))) (hbk : Blk w bk 3 [.int .i64 (kv : Nat)]) (hkv : kv < x.types.length) (hid : ∀ l ∈ x.locs, 0 ≤ l.id) :
    Calls Try.prog 18 #[ptr g.pb, ptr bo] w (Ret fun v w' => (∃ (gb : Nat) (v' : Value) (bs : List Nat) (inf : Nat → NI), v = ptr gb ∧ Blk w' gb tGraph [v'] ∧ OS pNode 1 w' v' (bs.map ptr) ∧ bs.length ≤ 12000 ∧
      (∀ b ∈ bs, ∃ cu N, NodeAt 0 N w' b (inf b) (flS x kv x.samples.length (inf b)) cu) ∧ (bs.map inf).Nodup ∧ (∀ i, flS x kv x.samples.length i ≠ 0 → ∃ b ∈ bs, inf b = i)) ∧ Fr 0 [] w w') := by
  have hco := mc (f := ⟨w, 0, []⟩) ho rfl
  refine startJ (args := [_, _]) [(0, _), (1, _)] 0 [] [] Try.func18 rfl Try.ntmps18 rfl rfl .nil ?_
  refine cj_seqF fun K1 hK1 => ?_
  refine cj_reg ?_
  refine j_val rfl (fun a w ha => r_assign rfl ha) ?_
  refine j_nil ?_
  refine ej_then (hK1 _ _ _ ?_); clear hK1
  refine CJ.sub (e' := [(0, _), (1, _)]) ⟨rfl, rfl, trivial⟩ ?_
  refine cj_seqF fun K2 hK2 => ?_
  refine cj_reg ?_
  refine j_val rfl (fun a w ha => r_move rfl ha) ?_
  refine j_val rfl (fun a w ha => r_move rfl ha) ?_
  refine j_callE (R := fun w1 v w2 => (∃ (nv : Value) (sb lb mb : Nat) (tb : List (Int × Value)) (ns : List (NI × Nat)) (bs : List Nat), v = .tuple #[nv, .agg #[.slice (some ⟨sb, 0, none⟩) (x.locs.length + 1) (x.locs.length + 1), .map (some lb)]] ∧
    LM w2 sb lb (x.locs.length + 1) tb ∧ TBI w2 x ns tb x.locs.length ∧ OS pNode 1 w2 nv (bs.map ptr) ∧ bs.Nodup ∧ (∀ b, b ∈ bs ↔ b ∈ ns.map (·.2)) ∧ NM w1.heap.size w2 mb ns ∧ ns.length ≤ 12000 ∧ w1.heap.size ≤ sb ∧ w1.heap.size ≤ lb) ∧ Fr 0 [] w1 w2) Try.call27 rfl rfl (fun w1 hH hf => create_c w1 x g bo _ (hG.keep (hf.keepAll (.inr rfl))) hx (hf.blk ho (.inr (by simp))) hid) fun w1 v w2 hH1 hf1 hR => ?_
  obtain ⟨⟨nv, sb, lb, mb, tb, ns, bs, rfl, hlm2, htb2, hos2, hnd2, hmem2, hnm2, hlen2, hsb2, hlb2⟩, hq2⟩ := hR
  have hKw1 : Keep w w1 := hf1.keepAll (.inr rfl)
  have hG1 := hG.keep hKw1
  have ho1 := hKw1.blk ho
  have hbk1 := hKw1.blk hbk
  obtain ⟨esm, ckm, hmb2, hM2⟩ := hnm2.map
  have hnk : (ns.map (·.1)).Nodup := by have := hM2.keys; simpa [Function.comp_def] using this
  have hnd := hnm2.nd
  obtain ⟨tyv, sav, mav, lov, fuv, cov, hpb, -, hsa, -, -, -, -⟩ := hG1.prof
  have hnsm : g.sams.length = x.samples.length := hG1.sams.1
  have hs60 := hx.nsam
  obtain ⟨psa, lsa, csa, rfl, hsal, hsac, hsax⟩ := hsa.openF
  obtain rfl : lsa = x.samples.length := by simpa [hnsm] using hsal.symm
  have hKw2 : Keep w1 w2 := hq2.keepAll (.inr rfl)
  have hcp := mc (f := ⟨w2, 0, []⟩) (hKw2.blk hpb) rfl
  refine J.begin ⟨w2, 0, []⟩ [] ok_refl .nil ?_
  refine j_val rfl (fun a w ha => r_move rfl ha) ?_
  refine j_val rfl (fun a w ha => r_extract rfl rfl ha) ?_
  refine j_val rfl (fun a w ha => r_extract rfl rfl ha) ?_
  refine j_allocA (zs := [(.slice none 0 0), (.map none)]) Try.zeroValue100 rfl fun b6 => ?_
  refine j_val rfl (fun a w ha => r_assign rfl ha) ?_
  refine j_storeN (cs' := [_, _]) (H' := [_]) 0 rfl rfl rfl rfl Try.sizeOf100 rfl rfl rfl rfl rfl rfl rfl ?_
  refine j_nil ?_
  refine ej_then (hK2 _ _ _ ?_); clear hK2
  refine CJ.sub (e' := [(0, _), (1, _), (5, _), (6, _)]) ⟨rfl, rfl, rfl, rfl, trivial⟩ ?_
  refine cj_seqF fun K3 hK3 => ?_
  refine cj_reg ?_
  refine j_mkmap (fun _ h => by cases h) rfl fun b29 => ?_
  refine j_val rfl (fun a w ha => r_assign rfl ha) ?_
  refine j_nil ?_
  refine ej_then (hK3 _ _ _ ?_); clear hK3
  refine CJ.sub (e' := [(0, _), (1, _), (5, _), (6, _), (7, _)]) ⟨rfl, rfl, rfl, rfl, rfl, trivial⟩ ?_
  refine cj_seqF fun K4 hK4 => ?_
  refine cj_reg ?_
  refine j_mkmap (fun _ h => by cases h) rfl fun b30 => ?_
  refine j_val rfl (fun a w ha => r_assign rfl ha) ?_
  refine j_nil ?_
  refine ej_then (hK4 _ _ _ ?_); clear hK4
  refine CJ.sub (e' := [(0, _), (1, _), (5, _), (6, _), (7, _), (8, _)]) ⟨rfl, rfl, rfl, rfl, rfl, rfl, trivial⟩ ?_
  refine cj_seqF fun K5 hK5 => ?_
  refine cj_seqF fun K6 hK6 => ?_
  refine cj_reg ?_
  refine j_val rfl (fun a w ha => r_move rfl ha) ?_
  refine j_val rfl (fun a w ha => r_nil rfl ha) ?_
  refine j_val rfl (fun a w ha => r_fl (q := 2) (ft := 106) Try.runUnderlying112 rfl Try.sizeOf106 rfl ha) ?_
  refine j_valw rfl (fun a w ha hH hf => r_load Try.isAgg106 rfl (hcp w (hf) 2 _ rfl) ha) ?_
  refine j_val rfl (fun a w ha => r_len Try.runUnderlying106 rfl ha) ?_
  refine j_val rfl (fun a w ha => r_move rfl ha) ?_
  refine j_nil ?_
  refine ej_then (hK6 _ _ _ ?_); clear hK6
  refine CJ.sub (e' := [(1, _), (5, _), (6, _), (7, _), (8, _), (34, _), (35, _), (36, _)]) ⟨rfl, rfl, rfl, rfl, rfl, rfl, rfl, rfl, trivial⟩ ?_
  refine cj_block ?_
  -- LOOP 0 live [1, 5, 6, 7, 8, 34, 35, 36]
  intro w3 hH3 hf3
  have hC : GC w1.heap.size lb b29 b30 := by
    have h1 : w2.heap.size ≤ b29 := hH3.freshX (i := 1) rfl rfl rfl
    have h2 : w2.heap.size ≤ b30 := hH3.freshX (i := 0) rfl rfl rfl
    have h3 : lb < w2.heap.size := by obtain ⟨es, ck, h⟩ := hlm2.map'; exact (Array.getElem?_eq_some_iff.1 h).1
    have h4 := hq2.size
    exact ⟨by omega, by omega, hH3.nex (i := 0) (j := 1) (by omega) rfl rfl rfl rfl, by omega, by omega⟩
  have hI0 : GS w1 x ns bs nv sb lb b6 tb w3 ∧ GD w1.heap.size ns (flS x kv 0) (480 * 0) b29 b30 w3 := by
    refine ⟨⟨Fr.trans hq2 hf3 (.inr ⟨Nat.le_refl _, fun _ h => h⟩), hlm2.of (fun cs h => hf3.blk h (.inr (by simp))) (fr_map hf3 rfl), htb2.mono (fun b cs h => hf3.blk h (.inr (by simp))) (fun p hp => hp), hos2.mono (fun b cs h => hf3.blk h (.inr (by simp))), hH3.get (i := 2) rfl rfl⟩, fun p hp => ⟨0, (hnm2.nodes p hp).k3 (KG.fr hf3 rfl)⟩, ⟨[], [], 0, hH3.obj (i := 1) rfl rfl, MEnc.nil, by simp⟩, ⟨[], [], 0, hH3.obj (i := 0) rfl rfl, MEnc.nil, by simp⟩⟩
  refine c_loop (σ := Nat) (fun k => [(1, ptr bo), (5, nv), (6, ptr b6), (7, .map (some b29)), (8, .map (some b30)), (34, .slice psa x.samples.length csa), (35, .int .i64 (x.samples.length : Nat)), (36, .int .i64 (k : Nat))]) (fun k v => k ≤ x.samples.length ∧ GS w1 x ns bs nv sb lb b6 tb v ∧ GD w1.heap.size ns (flS x kv k) (480 * k) b29 b30 v) (fun k => x.samples.length - k) 0 ⟨rfl, rfl, rfl, rfl, rfl, rfl, rfl, rfl, trivial⟩ ⟨Nat.zero_le _, hI0.1, hI0.2⟩ ?_
  rintro k v ⟨hk, hS, hD⟩ KL hKL
  have hKv : Keep w1 v := hS.fr.keepAll (.inr rfl)
  refine C.begin ⟨v, 0, []⟩ [] ok_refl .nil ?_
  refine cj_seqF fun K7 hK7 => ?_
  refine cj_reg ?_
  refine j_val rfl (fun a w ha => r_lss rfl rfl ha) ?_
  refine j_nil ?_
  refine ej_then (hK7 _ _ _ ?_); clear hK7
  refine CJ.sub (e' := [(1, _), (5, _), (6, _), (7, _), (8, _), (34, _), (35, _), (36, _), (37, _)]) ⟨rfl, rfl, rfl, rfl, rfl, rfl, rfl, rfl, rfl, trivial⟩ ?_
  refine cj_seqF fun K8 hK8 => ?_
  refine cj_dec rfl (fun h37 => ?_) (fun h37 => ?_)
  · have hk' : k < x.samples.length := by omega
    obtain ⟨bq, rfl, hsaq⟩ := hsax (by omega)
    have hkg : k < g.sams.length := by omega
    have hcell : ∀ w', Fm.ok ⟨v, 0, []⟩ w' → ∀ (j : Nat) (u : Value), [ptr g.sams[k]][j]? = some u → w'.cell? ⟨bq, 0 + k * 1 + j, none⟩ = some u := fun w' kp j u hu => by
      cases j with
      | zero => simp at hu; subst hu; simpa using hsaq ⟨w1, 0, []⟩ rfl rfl w' (Fr.trans hS.fr kp (.inr ⟨Nat.le_refl _, fun _ h => h⟩)) k (ptr g.sams[k]) (by simp [hkg])
      | succ j => simp at hu
    obtain ⟨lsv, vsv, lmv, nmv, hbs, hls, hvs, -, -⟩ := (hG1.sams.2 k g.sams[k] x.samples[k] (List.getElem?_eq_getElem hkg) (List.getElem?_eq_getElem hk')).ex
    have hws := hx.samples _ (List.getElem_mem hk')
    obtain ⟨pst, lst, cst, rfl, hstl, hstc, hstx⟩ := hls.openF
    obtain rfl : lst = x.samples[k].stack.length := by simpa using hstl.symm
    have hst60 := hws.2.2.1
    have hsc := mc (f := ⟨v, 0, []⟩) (hKv.blk hbs) rfl
    have hcov := mc (f := ⟨v, 0, []⟩) (hKv.blk ho1) rfl
    generalize hwv : x.samples[k].values.getD kv 0 = wv
    refine cj_skip (ej_then (hK8 _ _ _ ?_)); clear hK8
    refine CJ.sub (e' := [(1, _), (5, _), (6, _), (7, _), (8, _), (34, _), (35, _), (36, _)]) ⟨rfl, rfl, rfl, rfl, rfl, rfl, rfl, rfl, trivial⟩ ?_
    refine cj_seqF fun K9 hK9 => ?_
    refine cj_block ?_
    refine cj_seqF fun K10 hK10 => ?_
    refine cj_reg ?_
    refine j_val rfl (fun a w ha => r_idx Try.runUnderlying106 Try.sizeOf113 rfl rfl (by omega) ha) ?_
    refine j_valw rfl (fun a w ha hH hf => r_load Try.isAgg113 rfl (hcell w (hf) 0 _ rfl) ha) ?_
    refine j_val rfl (fun a w ha => r_assign rfl ha) ?_
    refine j_nil ?_
    refine ej_then (hK10 _ _ _ ?_); clear hK10
    refine CJ.sub (e' := [(1, _), (5, _), (6, _), (7, _), (8, _), (10, _), (34, _), (35, _), (36, _)]) ⟨rfl, rfl, rfl, rfl, rfl, rfl, rfl, rfl, rfl, trivial⟩ ?_
    refine cj_seqF fun K11 hK11 => ?_
    refine cj_reg ?_
    refine j_val rfl (fun a w ha => r_assign rfl ha) ?_
    refine j_val rfl (fun a w ha => r_assign rfl ha) ?_
    refine j_nil ?_
    refine ej_then (hK11 _ _ _ ?_); clear hK11
    refine CJ.sub (e' := [(1, _), (5, _), (6, _), (7, _), (8, _), (10, _), (12, _), (34, _), (35, _), (36, _)]) ⟨rfl, rfl, rfl, rfl, rfl, rfl, rfl, rfl, rfl, rfl, trivial⟩ ?_
    refine cj_seqF fun K12 hK12 => ?_
    refine cj_drawI 10 [(0, true), (1, true), (2, true), (3, true), (4, true), (5, true), (6, true), (7, true), (8, false), (9, true)] [] rfl (by kernel_rfl) (by kernel_rfl) ?_
    refine dj_val rfl rfl (sub_of [] rfl) (fun a w ha => r_move rfl ha) ?_
    refine dj_val rfl rfl (sub_of [] rfl) (fun a w ha => r_nil rfl ha) ?_
    refine dj_val rfl rfl (sub_of [] rfl) (fun a w ha => r_fl (q := 0) (ft := 62) Try.runUnderlying66 rfl Try.sizeOf62 rfl ha) ?_
    refine dj_ld rfl rfl (sub_of [] rfl) (fun a w ha hS => r_load Try.isAgg62 rfl (hcov w (hS.2) 0 _ rfl) ha) ?_
    refine dj_val rfl rfl (sub_of [] rfl) (fun a w ha => r_move rfl ha) ?_
    refine dj_val rfl rfl (sub_of [] rfl) (fun a w ha => r_nil rfl ha) ?_
    refine dj_val rfl rfl (sub_of [] rfl) (fun a w ha => r_fl (q := 1) (ft := 47) Try.runUnderlying118 rfl Try.sizeOf47 rfl ha) ?_
    refine dj_ld rfl rfl (sub_of [] rfl) (fun a w ha hS => r_load Try.isAgg47 rfl (hsc w (hS.2) 1 _ rfl) ha) ?_
    refine dj_eff rfl fun K2 hK2 => ?_
    refine j_callVQ (g := 20) (φ := fun u => u = .int .i64 wv) Try.call20 rfl rfl rfl (fun v' hH hf => by
      have hKv' : Keep w1 v' := hKv.trans (hf.keepAll (.inr rfl))
      have := flats1_c v' vsv x.samples[k].values kv bk (hvs.mono fun b cs h => hKv'.blk h) (by rw [hws.1]; exact hkv) (hKv'.blk hbk1)
      rw [hwv] at this
      exact this) ?_
    rintro _ rfl
    refine j_nil (ej_then (hK2 _ _ (.inr (sub_of [] rfl)) ?_)); clear hK2 K2
    refine dj_val rfl rfl (sub_of [] rfl) (fun a w ha => r_assign rfl ha) ?_
    refine dj_end ?_
    refine ej_then (hK12 _ _ _ ?_); clear hK12
    refine CJ.sub (e' := [(1, _), (5, _), (6, _), (7, _), (8, _), (10, _), (11, _), (12, _), (34, _), (35, _), (36, _)]) ⟨rfl, rfl, rfl, rfl, rfl, rfl, rfl, rfl, rfl, rfl, rfl, trivial⟩ ?_
    refine cj_seqF fun K13 hK13 => ?_
    refine cj_seqF fun K14 hK14 => ?_
    refine cj_reg ?_
    refine j_val rfl (fun a w ha => r_move rfl ha) ?_
    refine j_val rfl (fun a w ha => r_nil rfl ha) ?_
    refine j_val rfl (fun a w ha => r_fl (q := 1) (ft := 62) Try.runUnderlying66 rfl Try.sizeOf62 rfl ha) ?_
    refine j_valw rfl (fun a w ha hH hf => r_load Try.isAgg62 rfl (hcov w (hf) 1 _ rfl) ha) ?_
    refine j_val rfl (fun a w ha => r_fnnil Try.underlying62 rfl ha) ?_
    refine j_nil ?_
    refine ej_then (hK14 _ _ _ ?_); clear hK14
    refine CJ.sub (e' := [(1, _), (5, _), (6, _), (7, _), (8, _), (10, _), (11, _), (12, _), (34, _), (35, _), (36, _), (53, _)]) ⟨rfl, rfl, rfl, rfl, rfl, rfl, rfl, rfl, rfl, rfl, rfl, rfl, trivial⟩ ?_
    refine cj_if_f rfl ?_
    refine cj_skip (ej_then (hK13 _ _ _ ?_)); clear hK13
    refine CJ.sub (e' := [(1, _), (5, _), (6, _), (7, _), (8, _), (10, _), (11, _), (12, _), (34, _), (35, _), (36, _)]) ⟨rfl, rfl, rfl, rfl, rfl, rfl, rfl, rfl, rfl, rfl, rfl, trivial⟩ ?_
    refine cj_seqF fun K15 hK15 => ?_
    refine cj_seqF fun K16 hK16 => ?_
    refine cj_reg ?_
    refine j_val rfl (fun a w ha => r_move rfl ha) ?_
    refine j_val rfl (fun a w ha => r_eql rfl rfl ha) ?_
    refine j_true rfl ?_
    refine j_val rfl (fun a w ha => r_move rfl ha) ?_
    refine j_gt rfl rfl ?_
    refine j_val rfl (fun a w ha => r_move rfl ha) ?_
    refine j_gt rfl rfl ?_
    refine j_val rfl (fun a w ha => r_eql rfl rfl ha) ?_
    refine j_val rfl (fun a w ha => r_pick_t rfl rfl ha) ?_
    refine j_nil ?_
    refine ej_then (hK16 _ _ _ ?_); clear hK16
    refine CJ.sub (e' := [(1, _), (5, _), (6, _), (7, _), (8, _), (10, _), (11, _), (12, _), (34, _), (35, _), (36, _), (68, _)]) ⟨rfl, rfl, rfl, rfl, rfl, rfl, rfl, rfl, rfl, rfl, rfl, rfl, trivial⟩ ?_
    refine cj_if rfl (fun h68 => ?_) (fun h68 => ?_)
    · refine cj_exit (ej_then_exit (ej_blk_hit (ej_then (hK9 _ _ _ ?_)))); clear hK9
      refine CJ.sub (e' := [(1, _), (5, _), (6, _), (7, _), (8, _), (34, _), (35, _), (36, _)]) ⟨rfl, rfl, rfl, rfl, rfl, rfl, rfl, rfl, trivial⟩ ?_
      refine cj_reg ?_
      refine j_val rfl (fun a w ha => r_inc (by omega) rfl rfl ha) ?_
      refine j_val rfl (fun a w ha => r_move rfl ha) ?_
      refine j_nil ?_
      refine ej_then ?_
      intro v' hH hf
      first
        | exact hKL (k + 1) _ v' ⟨by show k + 1 ≤ _; omega, hA9.1.quiet hf, (hA9.2.quiet hf).mono (by show _ ≤ 480 * (k + 1); omega)⟩ (by show x.samples.length - (k + 1) < _; omega) ⟨rfl, rfl, rfl, rfl, rfl, rfl, rfl, rfl, trivial⟩
        | (have hfl : flS x kv (k + 1) = flS x kv k := by
             funext j
             rw [flS_succ x kv hk', hleaf]
             exact if_neg (by simp)
           exact hKL (k + 1) _ v' ⟨by show k + 1 ≤ _; omega, hS4.quiet hf, by show GD _ _ (flS x kv (k + 1)) _ _ _ _; rw [hfl]; exact (hD4.quiet hf).mono (by show _ ≤ 480 * (k + 1); omega)⟩ (by show x.samples.length - (k + 1) < _; omega) ⟨rfl, rfl, rfl, rfl, rfl, rfl, rfl, rfl, trivial⟩)
        | (have hfl : flS x kv (k + 1) = flS x kv k := by
             funext j
             have hw0 : wv = 0 := of_decide_eq_true h68
             rw [flS_succ x kv hk', hwv, hw0, Int.add_zero, flS_wrap]
             split <;> rfl
           exact hKL (k + 1) _ v' ⟨by show k + 1 ≤ _; omega, hS.quiet hf, by show GD _ _ (flS x kv (k + 1)) _ _ _ _; rw [hfl]; exact (hD.quiet hf).mono (by show _ ≤ 480 * (k + 1); omega)⟩ (by show x.samples.length - (k + 1) < _; omega) ⟨rfl, rfl, rfl, rfl, rfl, rfl, rfl, rfl, trivial⟩)
    · intro v1 hH1 hf1v
      have hS1 := hS.quiet hf1v
      have hD1 := hD.quiet hf1v
      have hKv1 : Keep w1 v1 := hS1.fr.keepAll (.inr rfl)
      obtain ⟨ms, es, ck, o1, m1, n1⟩ := hD1.sm
      obtain ⟨ms', es', ck', o2, m2, n2⟩ := hD1.em
      have hsc := mc (f := ⟨v1, w1.heap.size, [1000000]⟩) (hKv1.blk hbs) rfl
      refine C.begin ⟨v1, w1.heap.size, [1000000]⟩ _ ok_refl (hpMaps hC o1 o2) ?_
      refine cj_skip (ej_then (hK15 _ _ _ ?_)); clear hK15
      refine CJ.sub (e' := [(1, _), (5, _), (6, _), (7, _), (8, _), (10, _), (11, _), (12, _), (34, _), (35, _), (36, _)]) ⟨rfl, rfl, rfl, rfl, rfl, rfl, rfl, rfl, rfl, rfl, rfl, trivial⟩ ?_
      refine cj_seqF fun K17 hK17 => ?_
      refine cj_reg ?_
      refine j_val rfl (fun a w ha => r_move rfl ha) ?_
      refine j_clear 0 rfl Try.runUnderlying103 rfl ?_
      refine j_nil ?_
      refine ej_then (hK17 _ _ _ ?_); clear hK17
      refine CJ.sub (e' := [(1, _), (5, _), (6, _), (7, _), (8, _), (10, _), (11, _), (12, _), (34, _), (35, _), (36, _)]) ⟨rfl, rfl, rfl, rfl, rfl, rfl, rfl, rfl, rfl, rfl, rfl, trivial⟩ ?_
      refine cj_seqF fun K18 hK18 => ?_
      refine cj_reg ?_
      refine j_val rfl (fun a w ha => r_move rfl ha) ?_
      refine j_clear 1 rfl Try.runUnderlying104 rfl ?_
      refine j_nil ?_
      refine ej_then (hK18 _ _ _ ?_); clear hK18
      refine CJ.sub (e' := [(1, _), (5, _), (6, _), (7, _), (8, _), (10, _), (11, _), (12, _), (34, _), (35, _), (36, _)]) ⟨rfl, rfl, rfl, rfl, rfl, rfl, rfl, rfl, rfl, rfl, rfl, trivial⟩ ?_
      refine cj_seqF fun K19 hK19 => ?_
      refine cj_reg ?_
      refine j_val rfl (fun a w ha => r_assign rfl ha) ?_
      refine j_nil ?_
      refine ej_then (hK19 _ _ _ ?_); clear hK19
      refine CJ.sub (e' := [(1, _), (5, _), (6, _), (7, _), (8, _), (10, _), (11, _), (12, _), (13, _), (34, _), (35, _), (36, _)]) ⟨rfl, rfl, rfl, rfl, rfl, rfl, rfl, rfl, rfl, rfl, rfl, rfl, trivial⟩ ?_
      refine cj_seqF fun K20 hK20 => ?_
      refine cj_reg ?_
      refine j_val rfl (fun a w ha => r_assign rfl ha) ?_
      refine j_nil ?_
      refine ej_then (hK20 _ _ _ ?_); clear hK20
      refine CJ.sub (e' := [(1, _), (5, _), (6, _), (7, _), (8, _), (10, _), (11, _), (12, _), (13, _), (14, _), (34, _), (35, _), (36, _)]) ⟨rfl, rfl, rfl, rfl, rfl, rfl, rfl, rfl, rfl, rfl, rfl, rfl, rfl, trivial⟩ ?_
      refine cj_seqF fun K21 hK21 => ?_
      refine cj_reg ?_
      refine j_val rfl (fun a w ha => r_assign rfl ha) ?_
      refine j_nil ?_
      refine ej_then (hK21 _ _ _ ?_); clear hK21
      refine CJ.sub (e' := [(1, _), (5, _), (6, _), (7, _), (8, _), (10, _), (11, _), (12, _), (13, _), (14, _), (15, _), (34, _), (35, _), (36, _)]) ⟨rfl, rfl, rfl, rfl, rfl, rfl, rfl, rfl, rfl, rfl, rfl, rfl, rfl, rfl, trivial⟩ ?_
      refine cj_seqF fun K22 hK22 => ?_
      have hJ79 : ∀ v', GS w1 x ns bs nv sb lb b6 tb v' → GD w1.heap.size ns (flS x kv k) (480 * k) b29 b30 v' → N K22 177 [(1, ptr bo), (5, nv), (6, ptr b6), (7, .map (some b29)), (8, .map (some b30)), (10, ptr g.sams[k]), (11, .int .i64 wv), (12, .int .i64 0), (13, pv none), (14, .bool false), (15, .int .i64 (((min 2 x.samples[k].stack.length : Nat) : Int) - 1)), (34, .slice (some ⟨bq, 0, none⟩) x.samples.length csa), (35, .int .i64 (x.samples.length : Nat)), (36, .int .i64 (k : Nat))] v' := by
        rintro v2 hS2 hD2
        refine hK22 ⟨v2, 0, []⟩ _ [] ?_ v2 .nil ok_refl
        refine cj_seqF fun K23 hK23 => ?_
        refine cj_block ?_
        -- LOOP 1 live [1, 5, 6, 7, 8, 10, 11, 12, 13, 14, 15, 34, 35, 36]
        intro v3 hH3' hf3'
        refine c_loop (σ := Nat × Option Nat) (fun s => [(1, ptr bo), (5, nv), (6, ptr b6), (7, .map (some b29)), (8, .map (some b30)), (10, ptr g.sams[k]), (11, .int .i64 wv), (12, .int .i64 0), (13, pv s.2), (14, .bool false), (15, .int .i64 ((s.1 : Int) - 1)), (34, .slice (some ⟨bq, 0, none⟩) x.samples.length csa), (35, .int .i64 (x.samples.length : Nat)), (36, .int .i64 (k : Nat))])
          (fun s v' => s.1 ≤ min 2 x.samples[k].stack.length ∧ GS w1 x ns bs nv sb lb b6 tb v' ∧ GD w1.heap.size ns (flS x kv k) (480 * k + 120 * (2 - s.1)) b29 b30 v' ∧ P1 x ns x.samples[k] s.1 s.2) (fun s => s.1) (min 2 x.samples[k].stack.length, none) ⟨rfl, rfl, rfl, rfl, rfl, rfl, rfl, rfl, rfl, rfl, rfl, rfl, rfl, rfl, trivial⟩ ⟨Nat.le_refl _, hS2.quiet hf3', (hD2.quiet hf3').mono (Nat.le_add_right _ _), .inl ⟨rfl, rfl⟩⟩ ?_
        rintro ⟨r, par⟩ v4 ⟨hr, hS4, hD4, hP4⟩ KL1 hKL1
        have hr : r ≤ min 2 x.samples[k].stack.length := hr
        have hD4 : GD w1.heap.size ns (flS x kv k) (480 * k + 120 * (2 - r)) b29 b30 v4 := hD4
        have hP4 : P1 x ns x.samples[k] r par := hP4
        have hKv4 : Keep w1 v4 := hS4.fr.keepAll (.inr rfl)
        have hsc := mc (f := ⟨v4, 0, []⟩) (hKv4.blk hbs) rfl
        refine C.begin ⟨v4, 0, []⟩ [] ok_refl .nil ?_
        refine CJ.sub (e' := [(1, ptr bo), (5, nv), (6, ptr b6), (7, .map (some b29)), (8, .map (some b30)), (10, ptr g.sams[k]), (11, .int .i64 wv), (12, .int .i64 0), (13, pv par), (14, .bool false), (15, .int .i64 ((r : Int) - 1)), (34, .slice (some ⟨bq, 0, none⟩) x.samples.length csa), (35, .int .i64 (x.samples.length : Nat)), (36, .int .i64 (k : Nat))]) ⟨rfl, rfl, rfl, rfl, rfl, rfl, rfl, rfl, rfl, rfl, rfl, rfl, rfl, rfl, trivial⟩ ?_
        refine cj_seqF fun K24 hK24 => ?_
        refine cj_seqF fun K25 hK25 => ?_
        refine cj_reg ?_
        refine j_val rfl (fun a w ha => r_move rfl ha) ?_
        refine j_val rfl (fun a w ha => r_geq rfl rfl ha) ?_
        refine j_nil ?_
        refine ej_then (hK25 _ _ _ ?_); clear hK25
        refine CJ.sub (e' := [(1, _), (5, _), (6, _), (7, _), (8, _), (10, _), (11, _), (12, _), (13, _), (14, _), (15, _), (34, _), (35, _), (36, _), (82, _)]) ⟨rfl, rfl, rfl, rfl, rfl, rfl, rfl, rfl, rfl, rfl, rfl, rfl, rfl, rfl, rfl, trivial⟩ ?_
        refine cj_dec rfl (fun h82 => ?_) (fun h82 => ?_)
        · have hr0 : 0 < r := by omega
          have hr1 : r - 1 < x.samples[k].stack.length := by omega
          obtain ⟨bst, rfl, hstq⟩ := hstx (by omega)
          have hz := hws.2.2.2.2 _ (List.getElem_mem hr1)
          generalize hze : (x.samples[k].stack[r - 1]).toNat = z
          have hzl : z < x.locs.length := by omega
          have hzg : z < g.locs.length := by rw [hG1.locs.1]; exact hzl
          have hcell2 : ∀ w', Fm.ok ⟨v4, 0, []⟩ w' → ∀ (j : Nat) (u : Value), [ptr g.locs[z]][j]? = some u → w'.cell? ⟨bst, 0 + (r - 1) * 1 + j, none⟩ = some u := fun w' kp j u hu => by
            cases j with
            | zero =>
              simp at hu; subst hu
              have hp : ptrAt g.locs x.samples[k].stack[r - 1] = ptr g.locs[z] := by simp [ptrAt, hz.1, hze, hzg]
              simpa using hstq ⟨w1, 0, []⟩ rfl rfl w' (Fr.trans hS4.fr kp (.inr ⟨Nat.le_refl _, fun _ h => h⟩)) (r - 1) (ptr g.locs[z]) (by simp [hr1, hp])
            | succ j => simp at hu
          obtain ⟨llv, hbl, -⟩ := (hG1.locs.2 z g.locs[z] x.locs[z] (List.getElem?_eq_getElem hzg) (List.getElem?_eq_getElem hzl)).ex
          have hlc := mc (f := ⟨v4, 0, []⟩) (hKv4.blk hbl) rfl
          have hr6c := mc (f := ⟨v4, 0, []⟩) hS4.r6 rfl
          have htbl : z < tb.length := by have := congrArg List.length htb2.1; simp at this; omega
          have htid : tb[z].1 = x.locs[z].id := by
            have := congrArg (fun l => l[z]?) htb2.1
            simp [htbl, hzl] at this
            exact this
          have hnf := hS4.tb.2 z _ _ (List.getElem?_eq_getElem htbl) (List.getElem?_eq_getElem hzl)
          obtain ⟨bsl, hosl, hbsl, hbsm⟩ := hnf
          obtain ⟨pln, L, cln, hlne, hlnl, hlnc, hlnx⟩ := hosl.openF
          have hL : bsl.length = L := by simpa using hlnl
          have hLi : L = (lnsOf x.locs[z]).length := by rw [← hL, hbsl, infos_len]
          have hLp : 0 < L := by rw [hLi]; exact lnsOf_pos _
          have hL60 : L ≤ 60 := by rw [hLi]; exact lnsOf_le (hx.tab.locs _ (List.getElem_mem hzl)).2.1
          have htv : (x.locs[z].id, .slice pln L cln) ∈ tb := by rw [← hlne, ← htid]; exact List.getElem_mem htbl
          refine cj_skip (ej_then (hK24 _ _ _ ?_)); clear hK24
          refine CJ.sub (e' := [(1, _), (5, _), (6, _), (7, _), (8, _), (10, _), (11, _), (12, _), (13, _), (14, _), (15, _), (34, _), (35, _), (36, _)]) ⟨rfl, rfl, rfl, rfl, rfl, rfl, rfl, rfl, rfl, rfl, rfl, rfl, rfl, rfl, trivial⟩ ?_
          refine cj_seqF fun K26 hK26 => ?_
          refine cj_block ?_
          refine cj_seqF fun K27 hK27 => ?_
          refine cj_reg ?_
          refine j_val rfl (fun a w ha => r_move rfl ha) ?_
          refine j_val rfl (fun a w ha => r_nil rfl ha) ?_
          refine j_val rfl (fun a w ha => r_fl (q := 0) (ft := 108) Try.runUnderlying118 rfl Try.sizeOf108 rfl ha) ?_
          refine j_valw rfl (fun a w ha hH hf => r_load Try.isAgg108 rfl (hsc w (hf) 0 _ rfl) ha) ?_
          refine j_val rfl (fun a w ha => r_move rfl ha) ?_
          refine j_val rfl (fun a w ha => r_idxI (r - 1) Try.runUnderlying108 Try.sizeOf119 rfl rfl rfl (by omega) (by omega) ha) ?_
          refine j_valw rfl (fun a w ha hH hf => r_load Try.isAgg119 rfl (hcell2 w (hf) 0 _ rfl) ha) ?_
          refine j_val rfl (fun a w ha => r_assign rfl ha) ?_
          refine j_nil ?_
          refine ej_then (hK27 _ _ _ ?_); clear hK27
          refine CJ.sub (e' := [(1, _), (5, _), (6, _), (7, _), (8, _), (10, _), (11, _), (12, _), (13, _), (14, _), (15, _), (17, _), (34, _), (35, _), (36, _)]) ⟨rfl, rfl, rfl, rfl, rfl, rfl, rfl, rfl, rfl, rfl, rfl, rfl, rfl, rfl, rfl, trivial⟩ ?_
          refine cj_seqF fun K28 hK28 => ?_
          refine cj_drawI 7 [(0, true), (1, true), (2, true), (3, true), (4, true), (5, false), (6, true)] [] rfl (by kernel_rfl) (by kernel_rfl) ?_
          refine dj_ld rfl rfl (sub_of [] rfl) (fun a w ha hS => r_loadA Try.isAgg100 Try.sizeOf100 rfl rfl (hr6c w (hS.2)) ha) ?_
          refine dj_val rfl rfl (sub_of [] rfl) (fun a w ha => r_move rfl ha) ?_
          refine dj_val rfl rfl (sub_of [] rfl) (fun a w ha => r_nil rfl ha) ?_
          refine dj_val rfl rfl (sub_of [] rfl) (fun a w ha => r_fl (q := 0) (ft := 53) Try.runUnderlying124 rfl Try.sizeOf53 rfl ha) ?_
          refine dj_ld rfl rfl (sub_of [] rfl) (fun a w ha hS => r_load Try.isAgg53 rfl (hlc w (hS.2) 0 _ rfl) ha) ?_
          refine dj_eff rfl fun K2 hK2 => ?_
          refine j_callQ (φ := fun u => u = .slice pln L cln) Try.call28 rfl rfl (fun v' hH hf => lmGet_c v' sb lb (x.locs.length + 1) tb _ _ (hS4.quiet hf).lm (by have := hx.tab.l.2.2; simp at this; omega) (hid _ (List.getElem_mem hzl)) htv) ?_
          rintro _ rfl
          refine j_nil (ej_then (hK2 _ _ (.inr (sub_of [] rfl)) ?_)); clear hK2 K2
          refine dj_val rfl rfl (sub_of [] rfl) (fun a w ha => r_assign rfl ha) ?_
          refine dj_end ?_
          refine ej_then (hK28 _ _ _ ?_); clear hK28
          refine CJ.sub (e' := [(1, _), (5, _), (6, _), (7, _), (8, _), (10, _), (11, _), (12, _), (13, _), (14, _), (15, _), (18, _), (34, _), (35, _), (36, _)]) ⟨rfl, rfl, rfl, rfl, rfl, rfl, rfl, rfl, rfl, rfl, rfl, rfl, rfl, rfl, rfl, trivial⟩ ?_
          refine cj_seqF fun K29 hK29 => ?_
          refine cj_reg ?_
          refine j_val rfl (fun a w ha => r_move rfl ha) ?_
          refine j_val rfl (fun a w ha => r_len Try.runUnderlying68 rfl ha) ?_
          refine j_val rfl (fun a w ha => r_sub rfl rfl ha) ?_
          refine j_eqv (u := .int .i64 ((L : Int) - 1)) (by rw [wrap64_small (by omega) (by omega)]) ?_
          refine j_val rfl (fun a w ha => r_assign rfl ha) ?_
          refine j_nil ?_
          refine ej_then (hK29 _ _ _ ?_); clear hK29
          refine CJ.sub (e' := [(1, _), (5, _), (6, _), (7, _), (8, _), (10, _), (11, _), (12, _), (13, _), (14, _), (15, _), (18, _), (19, _), (34, _), (35, _), (36, _)]) ⟨rfl, rfl, rfl, rfl, rfl, rfl, rfl, rfl, rfl, rfl, rfl, rfl, rfl, rfl, rfl, rfl, trivial⟩ ?_
          refine cj_block ?_
          -- LOOP 2 live [1, 5, 6, 7, 8, 10, 11, 12, 13, 14, 15, 18, 19, 34, 35, 36]
          intro v5 hH5 hf5
          refine c_loop (σ := Nat × Option Nat) (fun s => [(1, ptr bo), (5, nv), (6, ptr b6), (7, .map (some b29)), (8, .map (some b30)), (10, ptr g.sams[k]), (11, .int .i64 wv), (12, .int .i64 0), (13, pv s.2), (14, .bool false), (15, .int .i64 ((r : Int) - 1)), (18, .slice pln L cln), (19, .int .i64 ((s.1 : Int) - 1)), (34, .slice (some ⟨bq, 0, none⟩) x.samples.length csa), (35, .int .i64 (x.samples.length : Nat)), (36, .int .i64 (k : Nat))])
            (fun s v' => s.1 ≤ L ∧ GS w1 x ns bs nv sb lb b6 tb v' ∧ GD w1.heap.size ns (flS x kv k) (480 * k + 120 * (2 - r) + 2 * (L - s.1)) b29 b30 v' ∧ P2 ns (infos x.funcs x.locs[z]) L s.1 par s.2 ) (fun s => s.1) (L, par) ⟨rfl, rfl, rfl, rfl, rfl, rfl, rfl, rfl, rfl, rfl, rfl, rfl, rfl, rfl, rfl, rfl, trivial⟩ ⟨Nat.le_refl _, hS4.quiet hf5, (hD4.quiet hf5).mono (Nat.le_add_right _ _), .inl ⟨rfl, rfl⟩⟩ ?_
          rintro ⟨q, par'⟩ v6 ⟨hq, hS6, hD6, hP6⟩ KL2 hKL2
          have hq : q ≤ L := hq
          have hD6 : GD w1.heap.size ns (flS x kv k) (480 * k + 120 * (2 - r) + 2 * (L - q)) b29 b30 v6 := hD6
          have hP6 : P2 ns (infos x.funcs x.locs[z]) L q par par' := hP6
          have hpm := hP6.mem hP4.mem
          refine C.begin ⟨v6, 0, []⟩ [] ok_refl .nil ?_
          refine CJ.sub (e' := [(1, ptr bo), (5, nv), (6, ptr b6), (7, .map (some b29)), (8, .map (some b30)), (10, ptr g.sams[k]), (11, .int .i64 wv), (12, .int .i64 0), (13, pv par'), (14, .bool false), (15, .int .i64 ((r : Int) - 1)), (18, .slice pln L cln), (19, .int .i64 ((q : Int) - 1)), (34, .slice (some ⟨bq, 0, none⟩) x.samples.length csa), (35, .int .i64 (x.samples.length : Nat)), (36, .int .i64 (k : Nat))]) ⟨rfl, rfl, rfl, rfl, rfl, rfl, rfl, rfl, rfl, rfl, rfl, rfl, rfl, rfl, rfl, rfl, trivial⟩ ?_
          refine cj_seqF fun K30 hK30 => ?_
          refine cj_seqF fun K31 hK31 => ?_
          refine cj_reg ?_
          refine j_val rfl (fun a w ha => r_move rfl ha) ?_
          refine j_val rfl (fun a w ha => r_geq rfl rfl ha) ?_
          refine j_nil ?_
          refine ej_then (hK31 _ _ _ ?_); clear hK31
          refine CJ.sub (e' := [(1, _), (5, _), (6, _), (7, _), (8, _), (10, _), (11, _), (12, _), (13, _), (14, _), (15, _), (18, _), (19, _), (34, _), (35, _), (36, _), (102, _)]) ⟨rfl, rfl, rfl, rfl, rfl, rfl, rfl, rfl, rfl, rfl, rfl, rfl, rfl, rfl, rfl, rfl, rfl, trivial⟩ ?_
          refine cj_dec rfl (fun h102 => ?_) (fun h102 => ?_)
          · have hq0 : 0 < q := by omega
            obtain ⟨bsl, hosl, hbsl, hbsm⟩ := hS6.tb.2 z _ _ (List.getElem?_eq_getElem htbl) (List.getElem?_eq_getElem hzl)
            rw [hlne] at hosl
            obtain ⟨p6, L6, c6, he6, hl6, -, hx6⟩ := hosl.openF
            injection he6 with e1 e2 e3
            subst e1; subst e2; subst e3
            have hL : bsl.length = L := by simpa using hl6
            obtain ⟨bln, rfl, hlnq⟩ := hx6 hLp
            have hqb : q - 1 < bsl.length := by omega
            have hqi : q - 1 < (infos x.funcs x.locs[z]).length := by rw [← hbsl]; exact hqb
            generalize hnbe : bsl[q - 1] = nb
            generalize hi0 : (infos x.funcs x.locs[z])[q - 1] = i0
            have hnbm : (i0, nb) ∈ ns := hbsm (q - 1) nb i0 (by rw [← hnbe]; exact List.getElem?_eq_getElem hqb) (by rw [← hi0]; exact List.getElem?_eq_getElem hqi)
            have hcell3 : ∀ w', Fm.ok ⟨v6, 0, []⟩ w' → ∀ (j : Nat) (u : Value), [ptr nb][j]? = some u → w'.cell? ⟨bln, 0 + (q - 1) * 1 + j, none⟩ = some u := fun w' kp j u hu => by
              cases j with
              | zero =>
                simp at hu; subst hu
                simpa using hlnq ⟨v6, 0, []⟩ rfl rfl w' kp (q - 1) (ptr nb) (by simp [hqb, hnbe])
              | succ j => simp at hu
            refine cj_skip (ej_then (hK30 _ _ _ ?_)); clear hK30
            refine CJ.sub (e' := [(1, _), (5, _), (6, _), (7, _), (8, _), (10, _), (11, _), (12, _), (13, _), (14, _), (15, _), (18, _), (19, _), (34, _), (35, _), (36, _)]) ⟨rfl, rfl, rfl, rfl, rfl, rfl, rfl, rfl, rfl, rfl, rfl, rfl, rfl, rfl, rfl, rfl, trivial⟩ ?_
            refine cj_seqF fun K32 hK32 => ?_
            refine cj_block ?_
            refine cj_seqF fun K33 hK33 => ?_
            refine cj_reg ?_
            refine j_val rfl (fun a w ha => r_move rfl ha) ?_
            refine j_val rfl (fun a w ha => r_move rfl ha) ?_
            refine j_val rfl (fun a w ha => r_idxI (q - 1) Try.runUnderlying68 Try.sizeOf71 rfl rfl rfl (by omega) (by omega) ha) ?_
            refine j_valw rfl (fun a w ha hH hf => r_load Try.isAgg71 rfl (hcell3 w (hf) 0 _ rfl) ha) ?_
            refine j_val rfl (fun a w ha => r_assign rfl ha) ?_
            refine j_nil ?_
            refine ej_then (hK33 _ _ _ ?_); clear hK33
            refine CJ.sub (e' := [(1, _), (5, _), (6, _), (7, _), (8, _), (10, _), (11, _), (12, _), (13, _), (14, _), (15, _), (18, _), (19, _), (20, _), (34, _), (35, _), (36, _)]) ⟨rfl, rfl, rfl, rfl, rfl, rfl, rfl, rfl, rfl, rfl, rfl, rfl, rfl, rfl, rfl, rfl, rfl, trivial⟩ ?_
            refine cj_seqF fun K34 hK34 => ?_
            refine cj_seqF fun K35 hK35 => ?_
            refine cj_reg ?_
            refine j_val rfl (fun a w ha => r_move rfl ha) ?_
            refine j_val rfl (fun a w ha => r_pneql Try.underlying71 rfl ha) ?_
            refine j_nil ?_
            refine ej_then (hK35 _ _ _ ?_); clear hK35
            refine CJ.sub (e' := [(1, _), (5, _), (6, _), (7, _), (8, _), (10, _), (11, _), (12, _), (13, _), (14, _), (15, _), (18, _), (19, _), (20, _), (34, _), (35, _), (36, _), (110, _)]) ⟨rfl, rfl, rfl, rfl, rfl, rfl, rfl, rfl, rfl, rfl, rfl, rfl, rfl, rfl, rfl, rfl, rfl, rfl, trivial⟩ ?_
            refine cj_if_f rfl ?_
            intro v7 hH7 hf7
            have hS7 := hS6.quiet hf7
            have hD7 := hD6.quiet hf7
            obtain ⟨ms, es, ck, o1, m1, n1⟩ := hD7.sm
            obtain ⟨ms', es', ck', o2, m2, n2⟩ := hD7.em
            have hn7 : IsNode v7 nb := hD7.node hnbm
            refine C.begin ⟨v7, w1.heap.size, [1000000]⟩ _ ok_refl (hpMaps hC o1 o2) ?_
            refine cj_skip (ej_then (hK34 _ _ _ ?_)); clear hK34
            refine CJ.sub (e' := [(1, _), (5, _), (6, _), (7, _), (8, _), (10, _), (11, _), (12, _), (13, _), (14, _), (15, _), (18, _), (19, _), (20, _), (34, _), (35, _), (36, _)]) ⟨rfl, rfl, rfl, rfl, rfl, rfl, rfl, rfl, rfl, rfl, rfl, rfl, rfl, rfl, rfl, rfl, rfl, trivial⟩ ?_
            refine cj_seqF fun K36 hK36 => ?_
            refine cj_reg ?_
            refine j_val rfl (fun a w ha => r_move rfl ha) ?_
            refine j_val rfl (fun a w ha => r_move rfl ha) ?_
            refine j_valw rfl (fun a w ha hH hf => r_mlook2 (k := nb) 0 rfl Try.runUnderlying103 keyPN m1 Try.zeroValue4 rfl rfl (fun _ _ hf => ⟨fun p hp => by obtain ⟨cs, h⟩ := n1 p hp; exact ⟨cs, fr_row hf rfl _ _ h⟩, by obtain ⟨cs, h⟩ := hn7; exact ⟨cs, fr_row hf rfl _ _ h⟩⟩) ha hH hf) ?_
            refine j_val rfl (fun a w ha => r_move rfl ha) ?_
            refine j_val rfl (fun a w ha => r_extract rfl rfl ha) ?_
            refine j_val rfl (fun a w ha => r_extract rfl rfl ha) ?_
            refine j_val rfl (fun a w ha => r_assign rfl ha) ?_
            refine j_val rfl (fun a w ha => r_assign rfl ha) ?_
            refine j_nil ?_
            refine ej_then (hK36 _ _ _ ?_); clear hK36
            refine CJ.sub (e' := [(1, _), (5, _), (6, _), (7, _), (8, _), (10, _), (11, _), (12, _), (13, _), (14, _), (15, _), (18, _), (19, _), (20, _), (22, _), (34, _), (35, _), (36, _)]) ⟨rfl, rfl, rfl, rfl, rfl, rfl, rfl, rfl, rfl, rfl, rfl, rfl, rfl, rfl, rfl, rfl, rfl, rfl, trivial⟩ ?_
            refine cj_seqF fun K37 hK37 => ?_
            have hJ118 : ∀ (saw : Bool) v', GS w1 x ns bs nv sb lb b6 tb v' → GD w1.heap.size ns (flS x kv k) (480 * k + 120 * (2 - r) + 2 * (L - q)) b29 b30 v' → N K37 177 [(1, ptr bo), (5, nv), (6, ptr b6), (7, .map (some b29)), (8, .map (some b30)), (10, ptr g.sams[k]), (11, .int .i64 wv), (12, .int .i64 0), (13, pv par'), (14, .bool false), (15, .int .i64 ((r : Int) - 1)), (18, .slice (some ⟨bln, 0, none⟩) L cln), (19, .int .i64 ((q : Int) - 1)), (20, ptr nb), (22, .bool saw), (34, .slice (some ⟨bq, 0, none⟩) x.samples.length csa), (35, .int .i64 (x.samples.length : Nat)), (36, .int .i64 (k : Nat))] v' := by
              rintro saw v8 hS8 hD8
              obtain ⟨ms, es, ck, o1, m1, n1⟩ := hD8.sm
              obtain ⟨ms', es', ck', o2, m2, n2⟩ := hD8.em
              have hn8 : IsNode v8 nb := hD8.node hnbm
              have hp8 : ∀ y, par' = some y → IsNode v8 y := fun y hy => by
                rcases hpm with h | ⟨b, i, h, hm⟩
                · rw [h] at hy; cases hy
                · rw [h] at hy; cases hy; exact hD8.node hm
              have hok8 : ∀ w', Fm.ok ⟨v8, w1.heap.size, [1000000]⟩ w' → (∀ p ∈ ms', IsNode w' p.1.1 ∧ ∀ y, p.1.2 = some y → IsNode w' y) ∧ (IsNode w' nb ∧ ∀ y, par' = some y → IsNode w' y) := fun w' hf => by
                have hh : ∀ b, IsNode v8 b → IsNode w' b := fun b ⟨cs, h⟩ => ⟨cs, fr_row hf rfl _ _ h⟩
                exact ⟨fun p hp => ⟨hh _ (n2 p hp).1.1, fun y hy => hh _ ((n2 p hp).1.2 y hy)⟩, hh _ hn8, fun y hy => hh _ (hp8 y hy)⟩
              refine hK37 ⟨v8, w1.heap.size, [1000000]⟩ _ _ ?_ v8 (hpMaps hC o1 o2) ok_refl
              refine cj_seqF fun K38 hK38 => ?_
              have hJ143 : ∀ v', GS w1 x ns bs nv sb lb b6 tb v' → GD w1.heap.size ns (flS x kv k) (480 * k + 120 * (2 - r) + 2 * (L - q) + 2) b29 b30 v' → N K38 177 [(1, ptr bo), (5, nv), (6, ptr b6), (7, .map (some b29)), (8, .map (some b30)), (10, ptr g.sams[k]), (11, .int .i64 wv), (12, .int .i64 0), (15, .int .i64 ((r : Int) - 1)), (18, .slice (some ⟨bln, 0, none⟩) L cln), (19, .int .i64 ((q : Int) - 1)), (20, ptr nb), (34, .slice (some ⟨bq, 0, none⟩) x.samples.length csa), (35, .int .i64 (x.samples.length : Nat)), (36, .int .i64 (k : Nat))] v' := by
                rintro v9 hS9 hD9
                refine hK38 ⟨v9, 0, []⟩ _ [] ?_ v9 .nil ok_refl
                refine cj_seqF fun K39 hK39 => ?_
                refine cj_reg ?_
                refine j_val rfl (fun a w ha => r_move rfl ha) ?_
                refine j_val rfl (fun a w ha => r_assign rfl ha) ?_
                refine j_nil ?_
                refine ej_then (hK39 _ _ _ ?_); clear hK39
                refine CJ.sub (e' := [(1, _), (5, _), (6, _), (7, _), (8, _), (10, _), (11, _), (12, _), (13, _), (15, _), (18, _), (19, _), (34, _), (35, _), (36, _)]) ⟨rfl, rfl, rfl, rfl, rfl, rfl, rfl, rfl, rfl, rfl, rfl, rfl, rfl, rfl, rfl, trivial⟩ ?_
                refine cj_reg ?_
                refine j_val rfl (fun a w ha => r_assign rfl ha) ?_
                refine j_nil ?_
                refine ej_blk (ej_then (hK32 _ _ _ ?_)); clear hK32
                refine CJ.sub (e' := [(1, _), (5, _), (6, _), (7, _), (8, _), (10, _), (11, _), (12, _), (13, _), (14, _), (15, _), (18, _), (19, _), (34, _), (35, _), (36, _)]) ⟨rfl, rfl, rfl, rfl, rfl, rfl, rfl, rfl, rfl, rfl, rfl, rfl, rfl, rfl, rfl, rfl, trivial⟩ ?_
                refine cj_reg ?_
                refine j_val rfl (fun a w ha => r_move rfl ha) ?_
                refine j_val rfl (fun a w ha => r_sub rfl rfl ha) ?_
                refine j_eqv (u := .int .i64 (((q - 1 : Nat) : Int) - 1)) (by rw [wrap64_small (by omega) (by omega)]; congr 1; omega) ?_
                refine j_val rfl (fun a w ha => r_assign rfl ha) ?_
                refine j_nil ?_
                refine ej_then ?_
                exact fun v' hH hf => hKL2 (q - 1, some nb) _ v' ⟨by show q - 1 ≤ L; omega, hS9.quiet hf, (hD9.quiet hf).mono (by show _ ≤ 480 * k + 120 * (2 - r) + 2 * (L - (q - 1)); omega), .inr ⟨by show q - 1 < L; omega, nb, i0, rfl, hnbm, by show _[q - 1]? = _; rw [← hi0]; exact List.getElem?_eq_getElem hqi⟩⟩ (by show q - 1 < q; omega) ⟨rfl, rfl, rfl, rfl, rfl, rfl, rfl, rfl, rfl, rfl, rfl, rfl, rfl, rfl, rfl, rfl, trivial⟩
              clear hK38
              refine cj_seqF fun K40 hK40 => ?_
              refine cj_reg ?_
              refine j_val rfl (fun a w ha => r_move rfl ha) ?_
              refine j_val rfl (fun a w ha => r_not rfl ha) ?_
              refine j_val rfl (fun a w ha => r_move rfl ha) ?_
              refine j_split (t := 127) rfl (fun hg127 => ?_) (fun hg127 => ?_)
              · refine j_gf rfl rfl rfl rfl ?_
                refine j_gf rfl rfl rfl rfl ?_
                refine j_gf rfl rfl rfl rfl ?_
                refine j_gf rfl rfl rfl rfl ?_
                refine j_gf rfl rfl rfl rfl ?_
                refine j_gf rfl rfl rfl rfl ?_
                refine j_val rfl (fun a w ha => r_pick_t rfl rfl ha) ?_
                refine j_val rfl (fun a w ha => r_move rfl ha) ?_
                refine j_gt rfl rfl ?_
                refine j_val rfl (fun a w ha => r_move rfl ha) ?_
                refine j_gt rfl rfl ?_
                refine j_val rfl (fun a w ha => r_pnneq Try.underlying71 rfl ha) ?_
                refine j_val rfl (fun a w ha => r_pick_t rfl rfl ha) ?_
                refine j_val rfl (fun a w ha => r_move rfl ha) ?_
                refine j_split (t := 139) rfl (fun hg139 => ?_) (fun hg139 => ?_)
                · obtain ⟨pb, rfl⟩ : ∃ pb, par' = some pb := by
                    cases par' with
                    | none => simp at hg139
                    | some pb => exact ⟨pb, rfl⟩
                  obtain ⟨ip, hpb'⟩ : ∃ ip, (ip, pb) ∈ ns := by
                    rcases hpm with h | ⟨b, i, h, hm⟩
                    · cases h
                    · cases h; exact ⟨i, hm⟩
                  obtain ⟨cpb, hcpb⟩ := hp8 pb rfl
                  obtain ⟨cnb, hcnb⟩ := hn8
                  refine j_gt rfl rfl ?_
                  refine j_val rfl (fun a w ha => r_move rfl ha) ?_
                  refine j_gt rfl rfl ?_
                  refine j_val rfl (fun a w ha => r_move rfl ha) ?_
                  refine j_gt rfl rfl ?_
                  refine j_valw rfl (fun a w ha hH hf => r_pneq Try.underlying71 nf77 ns77 rfl rfl (fr_row hf rfl _ _ hcnb) (fr_row hf rfl _ _ hcpb) ha) ?_
                  refine j_val rfl (fun a w ha => r_pick_t rfl rfl ha) ?_
                  refine j_nil ?_
                  refine ej_then (hK40 _ _ _ ?_); clear hK40
                  refine CJ.sub (e' := [(1, _), (5, _), (6, _), (7, _), (8, _), (10, _), (11, _), (12, _), (13, _), (14, _), (15, _), (18, _), (19, _), (20, _), (34, _), (35, _), (36, _), (143, _)]) ⟨rfl, rfl, rfl, rfl, rfl, rfl, rfl, rfl, rfl, rfl, rfl, rfl, rfl, rfl, rfl, rfl, rfl, rfl, trivial⟩ ?_
                  refine cj_if rfl (fun h143 => ?_) (fun h143 => ?_)
                  · refine cj_seqF fun K41 hK41 => ?_
                    refine cj_reg ?_
                    refine j_val rfl (fun a w ha => r_move rfl ha) ?_
                    refine j_val rfl (fun a w ha => r_move rfl ha) ?_
                    refine j_val rfl (fun a w ha => r_move rfl ha) ?_
                    refine j_val rfl (fun a w ha => r_build (cs := [_, _]) bt128 rfl rfl ha) ?_
                    refine j_mapupd (k := (nb, some pb)) 1 rfl Try.runUnderlying104 keyPP m2 rfl rfl rfl (fun _ _ hf => hok8 _ hf) fun es4 ck4 m4 => ?_
                    refine j_nil ?_
                    refine ej_then (hK41 _ _ _ ?_); clear hK41
                    refine CJ.sub (e' := [(1, _), (5, _), (6, _), (7, _), (8, _), (10, _), (11, _), (12, _), (13, _), (14, _), (15, _), (18, _), (19, _), (20, _), (34, _), (35, _), (36, _)]) ⟨rfl, rfl, rfl, rfl, rfl, rfl, rfl, rfl, rfl, rfl, rfl, rfl, rfl, rfl, rfl, rfl, rfl, trivial⟩ ?_
                    refine cj_reg ?_
                    refine j_val rfl (fun a w ha => r_move rfl ha) ?_
                    refine j_val rfl (fun a w ha => r_move rfl ha) ?_
                    refine j_val rfl (fun a w ha => r_move rfl ha) ?_
                    refine j_val rfl (fun a w ha => r_move rfl ha) ?_
                    refine j_val rfl (fun a w ha => r_move rfl ha) ?_
                    refine j_val rfl (fun a w ha => r_move rfl ha) ?_
                    refine j_val rfl (fun a w ha => r_move rfl ha) ?_
                    refine j_val rfl (fun a w ha => r_len Try.runUnderlying68 rfl ha) ?_
                    refine j_val rfl (fun a w ha => r_sub rfl rfl ha) ?_
                    refine j_val rfl (fun a w ha => r_neq rfl rfl ha) ?_
                    refine j_callE (R := fun v9 _ v10 => Fr w1.heap.size [tNode, tEdge, pEdge] v9 v10 ∧ Ext w1.heap.size v9 v10 ∧ ∀ c i f cu, NodeAt w1.heap.size (480 * k + 120 * (2 - r) + 2 * (L - q)) v9 c i f cu → NodeAt w1.heap.size (480 * k + 120 * (2 - r) + 2 * (L - q) + 2) v10 c i f cu) Try.call30 rfl rfl (fun v9 hH hf => by
                        have hA := afterMaps hC hS8 hD8 o1 o2 hH hf m1 n1 m4 (fun p hp => pairMset n2 ⟨hD8.node hnbm, fun y hy => by cases hy; exact hD8.node hpb'⟩ p hp)
                        obtain ⟨ca, ha⟩ := hA.2.nodes _ hpb'
                        obtain ⟨cb, hb⟩ := hA.2.nodes _ hnbm
                        exact addToEdge_c w1.heap.size _ v9 pb nb ip i0 _ _ _ _ 0 wv false _ ha hb (by omega) hA.1.fr.size) fun v9 _ v10 hH9 hf9 hR => ?_
                    have hA9 := afterMaps hC hS8 hD8 o1 o2 hH9 hf9 m1 n1 m4 (fun p hp => pairMset n2 ⟨hD8.node hnbm, fun y hy => by cases hy; exact hD8.node hpb'⟩ p hp)
                    have hS10 := hA9.1.step (hR.1.mono (.inr ⟨Nat.le_refl _, by simp⟩)) (fr_map hR.1 rfl)
                    have hD10 : GD w1.heap.size ns (flS x kv k) (480 * k + 120 * (2 - r) + 2 * (L - q) + 2) b29 b30 v10 := hA9.2.step hR.2.1 (fun p hp => by obtain ⟨cu, hc⟩ := hA9.2.nodes p hp; exact ⟨cu, hR.2.2 _ _ _ _ hc⟩) fun b es ck _ h => fr_map hR.1 rfl _ _ h
                    refine J.begin ⟨v10, 0, []⟩ [] ok_refl .nil ?_
                    refine j_nil ?_
                    refine ej_then ?_
                    intro v' hH hf
                    first
                      | exact N.sub' (hJ143 v' (hS10.quiet hf) (hD10.quiet hf)) ⟨rfl, rfl, rfl, rfl, rfl, rfl, rfl, rfl, rfl, rfl, rfl, rfl, rfl, rfl, rfl, trivial⟩
                      | (have hA := afterMaps hC hS8 hD8 o1 o2 hH hf m1 n1 m2 n2
                         exact N.sub' (hJ143 v' hA.1 (hA.2.mono (Nat.le_add_right _ _))) ⟨rfl, rfl, rfl, rfl, rfl, rfl, rfl, rfl, rfl, rfl, rfl, rfl, rfl, rfl, rfl, trivial⟩)
                  · refine cj_skip (ej_then ?_)
                    intro v' hH hf
                    first
                      | exact N.sub' (hJ143 v' (hS10.quiet hf) (hD10.quiet hf)) ⟨rfl, rfl, rfl, rfl, rfl, rfl, rfl, rfl, rfl, rfl, rfl, rfl, rfl, rfl, rfl, trivial⟩
                      | (have hA := afterMaps hC hS8 hD8 o1 o2 hH hf m1 n1 m2 n2
                         exact N.sub' (hJ143 v' hA.1 (hA.2.mono (Nat.le_add_right _ _))) ⟨rfl, rfl, rfl, rfl, rfl, rfl, rfl, rfl, rfl, rfl, rfl, rfl, rfl, rfl, rfl, trivial⟩)
                · refine j_gf rfl rfl rfl rfl ?_
                  refine j_gf rfl rfl rfl rfl ?_
                  refine j_gf rfl rfl rfl rfl ?_
                  refine j_val rfl (fun a w ha => r_pick_f rfl rfl ha) ?_
                  refine j_nil ?_
                  refine ej_then (hK40 _ _ _ ?_); clear hK40
                  refine CJ.sub (e' := [(1, _), (5, _), (6, _), (7, _), (8, _), (10, _), (11, _), (12, _), (13, _), (14, _), (15, _), (18, _), (19, _), (20, _), (34, _), (35, _), (36, _), (143, _)]) ⟨rfl, rfl, rfl, rfl, rfl, rfl, rfl, rfl, rfl, rfl, rfl, rfl, rfl, rfl, rfl, rfl, rfl, rfl, trivial⟩ ?_
                  refine cj_if_f rfl ?_
                  refine cj_skip (ej_then ?_)
                  intro v' hH hf
                  first
                    | exact N.sub' (hJ143 v' (hS10.quiet hf) (hD10.quiet hf)) ⟨rfl, rfl, rfl, rfl, rfl, rfl, rfl, rfl, rfl, rfl, rfl, rfl, rfl, rfl, rfl, trivial⟩
                    | (have hA := afterMaps hC hS8 hD8 o1 o2 hH hf m1 n1 m2 n2
                       exact N.sub' (hJ143 v' hA.1 (hA.2.mono (Nat.le_add_right _ _))) ⟨rfl, rfl, rfl, rfl, rfl, rfl, rfl, rfl, rfl, rfl, rfl, rfl, rfl, rfl, rfl, trivial⟩)
              · refine j_gt rfl rfl ?_
                refine j_val rfl (fun a w ha => r_move rfl ha) ?_
                refine j_gt rfl rfl ?_
                refine j_val rfl (fun a w ha => r_move rfl ha) ?_
                refine j_gt rfl rfl ?_
                refine j_val rfl (fun a w ha => r_move rfl ha) ?_
                refine j_gt rfl rfl ?_
                refine j_val rfl (fun a w ha => r_build (cs := [_, _]) bt128 rfl rfl ha) ?_
                refine j_gt rfl rfl ?_
                obtain ⟨bm, hbm⟩ : ∃ b, (mget ms' (nb, par')).getD (.bool false) = .bool b := by
                  cases hm : mget ms' (nb, par') with
                  | none => exact ⟨false, rfl⟩
                  | some u => obtain ⟨b, hb⟩ := (n2 _ (mget_mem hm)).2; exact ⟨b, hb⟩
                refine j_valw rfl (fun a w ha hH hf => r_mlook1 (k := (nb, par')) 1 rfl Try.runUnderlying104 keyPP m2 Try.zeroValue4 rfl rfl (fun _ _ hf => hok8 _ hf) ha hH hf) ?_
                refine j_eqv hbm ?_
                refine j_gt rfl rfl ?_
                refine j_val rfl (fun a w ha => r_not rfl ha) ?_
                refine j_val rfl (fun a w ha => r_pick_f rfl rfl ha) ?_
                refine j_val rfl (fun a w ha => r_move rfl ha) ?_
                refine j_split (t := 135) rfl (fun hg135 => ?_) (fun hg135 => ?_)
                · refine j_gt rfl rfl ?_
                  refine j_val rfl (fun a w ha => r_move rfl ha) ?_
                  refine j_gt rfl rfl ?_
                  refine j_val rfl (fun a w ha => r_pnneq Try.underlying71 rfl ha) ?_
                  refine j_val rfl (fun a w ha => r_pick_t rfl rfl ha) ?_
                  refine j_val rfl (fun a w ha => r_move rfl ha) ?_
                  refine j_split (t := 139) rfl (fun hg139 => ?_) (fun hg139 => ?_)
                  · obtain ⟨pb, rfl⟩ : ∃ pb, par' = some pb := by
                      cases par' with
                      | none => simp at hg139
                      | some pb => exact ⟨pb, rfl⟩
                    obtain ⟨ip, hpb'⟩ : ∃ ip, (ip, pb) ∈ ns := by
                      rcases hpm with h | ⟨b, i, h, hm⟩
                      · cases h
                      · cases h; exact ⟨i, hm⟩
                    obtain ⟨cpb, hcpb⟩ := hp8 pb rfl
                    obtain ⟨cnb, hcnb⟩ := hn8
                    refine j_gt rfl rfl ?_
                    refine j_val rfl (fun a w ha => r_move rfl ha) ?_
                    refine j_gt rfl rfl ?_
                    refine j_val rfl (fun a w ha => r_move rfl ha) ?_
                    refine j_gt rfl rfl ?_
                    refine j_valw rfl (fun a w ha hH hf => r_pneq Try.underlying71 nf77 ns77 rfl rfl (fr_row hf rfl _ _ hcnb) (fr_row hf rfl _ _ hcpb) ha) ?_
                    refine j_val rfl (fun a w ha => r_pick_t rfl rfl ha) ?_
                    refine j_nil ?_
                    refine ej_then (hK40 _ _ _ ?_); clear hK40
                    refine CJ.sub (e' := [(1, _), (5, _), (6, _), (7, _), (8, _), (10, _), (11, _), (12, _), (13, _), (14, _), (15, _), (18, _), (19, _), (20, _), (34, _), (35, _), (36, _), (143, _)]) ⟨rfl, rfl, rfl, rfl, rfl, rfl, rfl, rfl, rfl, rfl, rfl, rfl, rfl, rfl, rfl, rfl, rfl, rfl, trivial⟩ ?_
                    refine cj_if rfl (fun h143 => ?_) (fun h143 => ?_)
                    · refine cj_seqF fun K42 hK42 => ?_
                      refine cj_reg ?_
                      refine j_val rfl (fun a w ha => r_move rfl ha) ?_
                      refine j_val rfl (fun a w ha => r_move rfl ha) ?_
                      refine j_val rfl (fun a w ha => r_move rfl ha) ?_
                      refine j_val rfl (fun a w ha => r_build (cs := [_, _]) bt128 rfl rfl ha) ?_
                      refine j_mapupd (k := (nb, some pb)) 1 rfl Try.runUnderlying104 keyPP m2 rfl rfl rfl (fun _ _ hf => hok8 _ hf) fun es4 ck4 m4 => ?_
                      refine j_nil ?_
                      refine ej_then (hK42 _ _ _ ?_); clear hK42
                      refine CJ.sub (e' := [(1, _), (5, _), (6, _), (7, _), (8, _), (10, _), (11, _), (12, _), (13, _), (14, _), (15, _), (18, _), (19, _), (20, _), (34, _), (35, _), (36, _)]) ⟨rfl, rfl, rfl, rfl, rfl, rfl, rfl, rfl, rfl, rfl, rfl, rfl, rfl, rfl, rfl, rfl, rfl, trivial⟩ ?_
                      refine cj_reg ?_
                      refine j_val rfl (fun a w ha => r_move rfl ha) ?_
                      refine j_val rfl (fun a w ha => r_move rfl ha) ?_
                      refine j_val rfl (fun a w ha => r_move rfl ha) ?_
                      refine j_val rfl (fun a w ha => r_move rfl ha) ?_
                      refine j_val rfl (fun a w ha => r_move rfl ha) ?_
                      refine j_val rfl (fun a w ha => r_move rfl ha) ?_
                      refine j_val rfl (fun a w ha => r_move rfl ha) ?_
                      refine j_val rfl (fun a w ha => r_len Try.runUnderlying68 rfl ha) ?_
                      refine j_val rfl (fun a w ha => r_sub rfl rfl ha) ?_
                      refine j_val rfl (fun a w ha => r_neq rfl rfl ha) ?_
                      refine j_callE (R := fun v9 _ v10 => Fr w1.heap.size [tNode, tEdge, pEdge] v9 v10 ∧ Ext w1.heap.size v9 v10 ∧ ∀ c i f cu, NodeAt w1.heap.size (480 * k + 120 * (2 - r) + 2 * (L - q)) v9 c i f cu → NodeAt w1.heap.size (480 * k + 120 * (2 - r) + 2 * (L - q) + 2) v10 c i f cu) Try.call30 rfl rfl (fun v9 hH hf => by
                          have hA := afterMaps hC hS8 hD8 o1 o2 hH hf m1 n1 m4 (fun p hp => pairMset n2 ⟨hD8.node hnbm, fun y hy => by cases hy; exact hD8.node hpb'⟩ p hp)
                          obtain ⟨ca, ha⟩ := hA.2.nodes _ hpb'
                          obtain ⟨cb, hb⟩ := hA.2.nodes _ hnbm
                          exact addToEdge_c w1.heap.size _ v9 pb nb ip i0 _ _ _ _ 0 wv false _ ha hb (by omega) hA.1.fr.size) fun v9 _ v10 hH9 hf9 hR => ?_
                      have hA9 := afterMaps hC hS8 hD8 o1 o2 hH9 hf9 m1 n1 m4 (fun p hp => pairMset n2 ⟨hD8.node hnbm, fun y hy => by cases hy; exact hD8.node hpb'⟩ p hp)
                      have hS10 := hA9.1.step (hR.1.mono (.inr ⟨Nat.le_refl _, by simp⟩)) (fr_map hR.1 rfl)
                      have hD10 : GD w1.heap.size ns (flS x kv k) (480 * k + 120 * (2 - r) + 2 * (L - q) + 2) b29 b30 v10 := hA9.2.step hR.2.1 (fun p hp => by obtain ⟨cu, hc⟩ := hA9.2.nodes p hp; exact ⟨cu, hR.2.2 _ _ _ _ hc⟩) fun b es ck _ h => fr_map hR.1 rfl _ _ h
                      refine J.begin ⟨v10, 0, []⟩ [] ok_refl .nil ?_
                      refine j_nil ?_
                      refine ej_then ?_
                      intro v' hH hf
                      first
                        | exact N.sub' (hJ143 v' (hS10.quiet hf) (hD10.quiet hf)) ⟨rfl, rfl, rfl, rfl, rfl, rfl, rfl, rfl, rfl, rfl, rfl, rfl, rfl, rfl, rfl, trivial⟩
                        | (have hA := afterMaps hC hS8 hD8 o1 o2 hH hf m1 n1 m2 n2
                           exact N.sub' (hJ143 v' hA.1 (hA.2.mono (Nat.le_add_right _ _))) ⟨rfl, rfl, rfl, rfl, rfl, rfl, rfl, rfl, rfl, rfl, rfl, rfl, rfl, rfl, rfl, trivial⟩)
                    · refine cj_skip (ej_then ?_)
                      intro v' hH hf
                      first
                        | exact N.sub' (hJ143 v' (hS10.quiet hf) (hD10.quiet hf)) ⟨rfl, rfl, rfl, rfl, rfl, rfl, rfl, rfl, rfl, rfl, rfl, rfl, rfl, rfl, rfl, trivial⟩
                        | (have hA := afterMaps hC hS8 hD8 o1 o2 hH hf m1 n1 m2 n2
                           exact N.sub' (hJ143 v' hA.1 (hA.2.mono (Nat.le_add_right _ _))) ⟨rfl, rfl, rfl, rfl, rfl, rfl, rfl, rfl, rfl, rfl, rfl, rfl, rfl, rfl, rfl, trivial⟩)
                  · refine j_gf rfl rfl rfl rfl ?_
                    refine j_gf rfl rfl rfl rfl ?_
                    refine j_gf rfl rfl rfl rfl ?_
                    refine j_val rfl (fun a w ha => r_pick_f rfl rfl ha) ?_
                    refine j_nil ?_
                    refine ej_then (hK40 _ _ _ ?_); clear hK40
                    refine CJ.sub (e' := [(1, _), (5, _), (6, _), (7, _), (8, _), (10, _), (11, _), (12, _), (13, _), (14, _), (15, _), (18, _), (19, _), (20, _), (34, _), (35, _), (36, _), (143, _)]) ⟨rfl, rfl, rfl, rfl, rfl, rfl, rfl, rfl, rfl, rfl, rfl, rfl, rfl, rfl, rfl, rfl, rfl, rfl, trivial⟩ ?_
                    refine cj_if_f rfl ?_
                    refine cj_skip (ej_then ?_)
                    intro v' hH hf
                    first
                      | exact N.sub' (hJ143 v' (hS10.quiet hf) (hD10.quiet hf)) ⟨rfl, rfl, rfl, rfl, rfl, rfl, rfl, rfl, rfl, rfl, rfl, rfl, rfl, rfl, rfl, trivial⟩
                      | (have hA := afterMaps hC hS8 hD8 o1 o2 hH hf m1 n1 m2 n2
                         exact N.sub' (hJ143 v' hA.1 (hA.2.mono (Nat.le_add_right _ _))) ⟨rfl, rfl, rfl, rfl, rfl, rfl, rfl, rfl, rfl, rfl, rfl, rfl, rfl, rfl, rfl, trivial⟩)
                · refine j_gf rfl rfl rfl rfl ?_
                  refine j_gf rfl rfl rfl rfl ?_
                  refine j_val rfl (fun a w ha => r_pick_f rfl rfl ha) ?_
                  refine j_val rfl (fun a w ha => r_move rfl ha) ?_
                  refine j_gf rfl rfl rfl rfl ?_
                  refine j_gf rfl rfl rfl rfl ?_
                  refine j_gf rfl rfl rfl rfl ?_
                  refine j_val rfl (fun a w ha => r_pick_f rfl rfl ha) ?_
                  refine j_nil ?_
                  refine ej_then (hK40 _ _ _ ?_); clear hK40
                  refine CJ.sub (e' := [(1, _), (5, _), (6, _), (7, _), (8, _), (10, _), (11, _), (12, _), (13, _), (14, _), (15, _), (18, _), (19, _), (20, _), (34, _), (35, _), (36, _), (143, _)]) ⟨rfl, rfl, rfl, rfl, rfl, rfl, rfl, rfl, rfl, rfl, rfl, rfl, rfl, rfl, rfl, rfl, rfl, rfl, trivial⟩ ?_
                  refine cj_if_f rfl ?_
                  refine cj_skip (ej_then ?_)
                  intro v' hH hf
                  first
                    | exact N.sub' (hJ143 v' (hS10.quiet hf) (hD10.quiet hf)) ⟨rfl, rfl, rfl, rfl, rfl, rfl, rfl, rfl, rfl, rfl, rfl, rfl, rfl, rfl, rfl, trivial⟩
                    | (have hA := afterMaps hC hS8 hD8 o1 o2 hH hf m1 n1 m2 n2
                       exact N.sub' (hJ143 v' hA.1 (hA.2.mono (Nat.le_add_right _ _))) ⟨rfl, rfl, rfl, rfl, rfl, rfl, rfl, rfl, rfl, rfl, rfl, rfl, rfl, rfl, rfl, trivial⟩)
            clear hK37
            refine cj_seqF fun K43 hK43 => ?_
            refine cj_reg ?_
            refine j_val rfl (fun a w ha => r_move rfl ha) ?_
            refine j_val rfl (fun a w ha => r_not rfl ha) ?_
            refine j_nil ?_
            refine ej_then (hK43 _ _ _ ?_); clear hK43
            refine CJ.sub (e' := [(1, _), (5, _), (6, _), (7, _), (8, _), (10, _), (11, _), (12, _), (13, _), (14, _), (15, _), (18, _), (19, _), (20, _), (22, _), (34, _), (35, _), (36, _), (118, _)]) ⟨rfl, rfl, rfl, rfl, rfl, rfl, rfl, rfl, rfl, rfl, rfl, rfl, rfl, rfl, rfl, rfl, rfl, rfl, rfl, trivial⟩ ?_
            refine cj_if rfl (fun h118 => ?_) (fun h118 => ?_)
            · refine cj_seqF fun K44 hK44 => ?_
              refine cj_reg ?_
              refine j_val rfl (fun a w ha => r_move rfl ha) ?_
              refine j_val rfl (fun a w ha => r_move rfl ha) ?_
              refine j_mapupd (k := nb) 0 rfl Try.runUnderlying103 keyPN m1 rfl rfl rfl (fun _ _ hf => ⟨fun p hp => by obtain ⟨cs, h⟩ := n1 p hp; exact ⟨cs, fr_row hf rfl _ _ h⟩, by obtain ⟨cs, h⟩ := hn7; exact ⟨cs, fr_row hf rfl _ _ h⟩⟩) fun es3 ck3 m3 => ?_
              refine j_nil ?_
              refine ej_then (hK44 _ _ _ ?_); clear hK44
              refine CJ.sub (e' := [(1, _), (5, _), (6, _), (7, _), (8, _), (10, _), (11, _), (12, _), (13, _), (14, _), (15, _), (18, _), (19, _), (20, _), (22, _), (34, _), (35, _), (36, _)]) ⟨rfl, rfl, rfl, rfl, rfl, rfl, rfl, rfl, rfl, rfl, rfl, rfl, rfl, rfl, rfl, rfl, rfl, rfl, trivial⟩ ?_
              refine cj_reg ?_
              refine j_val rfl (fun a w ha => r_move rfl ha) ?_
              refine j_val rfl (fun a w ha => r_move rfl ha) ?_
              refine j_val rfl (fun a w ha => r_move rfl ha) ?_
              refine j_callE (R := fun v8 _ v9 => ∃ cu, KeepX [nb] v8 v9 ∧ Ext w1.heap.size v8 v9 ∧ NodeAt w1.heap.size (480 * k + 120 * (2 - r) + 2 * (L - q)) v9 nb i0 (flS x kv k i0) cu) Try.call29 rfl rfl (fun v8 hH hf => by
                  have hA := afterMaps hC hS7 hD7 o1 o2 hH hf m3 (fun p hp => nodeMset n1 (hD7.node hnbm) p hp) m2 n2
                  obtain ⟨cu, hc⟩ := hA.2.nodes _ hnbm
                  exact (addSample_c w1.heap.size _ v8 nb i0 _ _ 0 wv false hc).mono (Ret.mono fun _ _ h => ⟨_, h⟩)) fun v8 _ v9 hH8 hf8 hR => ?_
              obtain ⟨cu9, hR⟩ := hR
              have hA8 := afterMaps hC hS7 hD7 o1 o2 hH8 hf8 m3 (fun p hp => nodeMset n1 (hD7.node hnbm) p hp) m2 n2
              have hA9 := afterAdd (fl' := flS x kv k) hnd hnk hA8.1 hA8.2 hnbm hR.1 hR.2.1 hR.2.2 (fun _ _ => rfl)
              refine J.begin ⟨v9, 0, []⟩ [] ok_refl .nil ?_
              refine j_nil ?_
              refine ej_then ?_
              intro v' hH hf
              first
                | exact N.sub' (hJ118 _ v' (hA9.1.quiet hf) (hA9.2.quiet hf)) ⟨rfl, rfl, rfl, rfl, rfl, rfl, rfl, rfl, rfl, rfl, rfl, rfl, rfl, rfl, rfl, rfl, rfl, rfl, trivial⟩
                | (have hA := afterMaps hC hS7 hD7 o1 o2 hH hf m1 n1 m2 n2
                   exact N.sub' (hJ118 _ v' hA.1 hA.2) ⟨rfl, rfl, rfl, rfl, rfl, rfl, rfl, rfl, rfl, rfl, rfl, rfl, rfl, rfl, rfl, rfl, rfl, rfl, trivial⟩)
            · refine cj_skip (ej_then ?_)
              intro v' hH hf
              first
                | exact N.sub' (hJ118 _ v' (hA9.1.quiet hf) (hA9.2.quiet hf)) ⟨rfl, rfl, rfl, rfl, rfl, rfl, rfl, rfl, rfl, rfl, rfl, rfl, rfl, rfl, rfl, rfl, rfl, rfl, trivial⟩
                | (have hA := afterMaps hC hS7 hD7 o1 o2 hH hf m1 n1 m2 n2
                   exact N.sub' (hJ118 _ v' hA.1 hA.2) ⟨rfl, rfl, rfl, rfl, rfl, rfl, rfl, rfl, rfl, rfl, rfl, rfl, rfl, rfl, rfl, rfl, rfl, rfl, trivial⟩)
          · have hq0 : q = 0 := by omega
            subst hq0
            refine cj_exit (ej_then_exit (ej_then_exit (ej_blk_hit (ej_blk (ej_then (hK26 _ _ _ ?_)))))); clear hK26
            refine CJ.sub (e' := [(1, _), (5, _), (6, _), (7, _), (8, _), (10, _), (11, _), (12, _), (13, _), (14, _), (15, _), (34, _), (35, _), (36, _)]) ⟨rfl, rfl, rfl, rfl, rfl, rfl, rfl, rfl, rfl, rfl, rfl, rfl, rfl, rfl, trivial⟩ ?_
            refine cj_reg ?_
            refine j_val rfl (fun a w ha => r_move rfl ha) ?_
            refine j_val rfl (fun a w ha => r_sub rfl rfl ha) ?_
            refine j_eqv (u := .int .i64 (((r - 1 : Nat) : Int) - 1)) (by rw [wrap64_small (by omega) (by omega)]; congr 1; omega) ?_
            refine j_val rfl (fun a w ha => r_assign rfl ha) ?_
            refine j_nil ?_
            refine ej_then ?_
            exact fun v' hH hf => hKL1 (r - 1, par') _ v' ⟨by show r - 1 ≤ _; omega, hS6.quiet hf, (hD6.quiet hf).mono (by show _ ≤ 480 * k + 120 * (2 - (r - 1)); omega), .inr (by
              rcases hP6 with ⟨h, -⟩ | ⟨-, b, i, h1, h2, h3⟩
              · omega
              · exact ⟨by show r - 1 < _; omega, b, i, x.locs[z], h1, h2, by show (x.samples[k].stack[r - 1]?).bind _ = _; rw [List.getElem?_eq_getElem hr1]; simp [hze, hzl], h3⟩)⟩ (by show r - 1 < r; omega) ⟨rfl, rfl, rfl, rfl, rfl, rfl, rfl, rfl, rfl, rfl, rfl, rfl, rfl, rfl, trivial⟩
        · have hr0 : r = 0 := by omega
          subst hr0
          refine cj_exit (ej_then_exit (ej_then_exit (ej_blk_hit (ej_then (hK23 _ _ _ ?_))))); clear hK23
          refine CJ.sub (e' := [(1, _), (5, _), (6, _), (7, _), (8, _), (11, _), (12, _), (13, _), (14, _), (34, _), (35, _), (36, _)]) ⟨rfl, rfl, rfl, rfl, rfl, rfl, rfl, rfl, rfl, rfl, rfl, rfl, trivial⟩ ?_
          refine cj_seqF fun K45 hK45 => ?_
          refine cj_reg ?_
          refine j_val rfl (fun a w ha => r_move rfl ha) ?_
          refine j_val rfl (fun a w ha => r_pnneq Try.underlying71 rfl ha) ?_
          refine j_val rfl (fun a w ha => r_move rfl ha) ?_
          refine j_split (t := 162) rfl (fun hg162 => ?_) (fun hg162 => ?_)
          · obtain ⟨pb, rfl⟩ : ∃ pb, par = some pb := by
              cases par with
              | none => simp at hg162
              | some pb => exact ⟨pb, rfl⟩
            obtain ⟨ip, hpb', hleaf⟩ : ∃ ip, (ip, pb) ∈ ns ∧ leafI x x.samples[k] = some ip := by
              rcases hP4 with ⟨h, -⟩ | ⟨-, b, i, l, h1, h2, h3, h4⟩
              · cases h
              · cases h1
                refine ⟨i, h2, ?_⟩
                unfold leafI
                cases hst : x.samples[k].stack with
                | nil => rw [hst] at h3; simp at h3
                | cons z r => rw [hst] at h3; simp at h3; simp [h3, h4]
            refine j_gt rfl rfl ?_
            refine j_val rfl (fun a w ha => r_move rfl ha) ?_
            refine j_gt rfl rfl ?_
            refine j_val rfl (fun a w ha => r_not rfl ha) ?_
            refine j_val rfl (fun a w ha => r_pick_t rfl rfl ha) ?_
            refine j_nil ?_
            refine ej_then (hK45 _ _ _ ?_); clear hK45
            refine CJ.sub (e' := [(1, _), (5, _), (6, _), (7, _), (8, _), (11, _), (12, _), (13, _), (34, _), (35, _), (36, _), (165, _)]) ⟨rfl, rfl, rfl, rfl, rfl, rfl, rfl, rfl, rfl, rfl, rfl, rfl, trivial⟩ ?_
            refine cj_if_t rfl ?_
            refine cj_reg ?_
            refine j_val rfl (fun a w ha => r_move rfl ha) ?_
            refine j_val rfl (fun a w ha => r_move rfl ha) ?_
            refine j_val rfl (fun a w ha => r_move rfl ha) ?_
            refine j_callE (R := fun v8 _ v9 => ∃ cu, KeepX [pb] v8 v9 ∧ Ext w1.heap.size v8 v9 ∧ NodeAt w1.heap.size (480 * k + 120 * (2 - 0)) v9 pb ip (IntKind.i64.wrap (flS x kv k ip + wv)) cu) Try.call29 rfl rfl (fun v8 hH hf => by
                obtain ⟨cu, hc⟩ := (hD4.quiet hf).nodes _ hpb'
                exact (addSample_c w1.heap.size _ v8 pb ip _ _ 0 wv true hc).mono (Ret.mono fun _ _ h => ⟨_, by simpa using h⟩)) fun v8 _ v9 hH8 hf8 hR => ?_
            obtain ⟨cu9, hR⟩ := hR
            have hA9 := afterAdd (fl' := flS x kv (k + 1)) hnd hnk (hS4.quiet hf8) (hD4.quiet hf8) hpb' hR.1 hR.2.1 (by rw [flS_succ x kv hk', if_pos hleaf, hwv]; exact hR.2.2) (fun j hj => by rw [flS_succ x kv hk', if_neg (fun h => hj (by rw [hleaf] at h; cases h; rfl))])
            refine J.begin ⟨v9, 0, []⟩ [] ok_refl .nil ?_
            refine j_nil ?_
            refine ej_blk (ej_then (hK9 _ _ _ ?_)); clear hK9
            refine CJ.sub (e' := [(1, _), (5, _), (6, _), (7, _), (8, _), (34, _), (35, _), (36, _)]) ⟨rfl, rfl, rfl, rfl, rfl, rfl, rfl, rfl, trivial⟩ ?_
            refine cj_reg ?_
            refine j_val rfl (fun a w ha => r_inc (by omega) rfl rfl ha) ?_
            refine j_val rfl (fun a w ha => r_move rfl ha) ?_
            refine j_nil ?_
            refine ej_then ?_
            intro v' hH hf
            first
              | exact hKL (k + 1) _ v' ⟨by show k + 1 ≤ _; omega, hA9.1.quiet hf, (hA9.2.quiet hf).mono (by show _ ≤ 480 * (k + 1); omega)⟩ (by show x.samples.length - (k + 1) < _; omega) ⟨rfl, rfl, rfl, rfl, rfl, rfl, rfl, rfl, trivial⟩
              | (have hfl : flS x kv (k + 1) = flS x kv k := by
                   funext j
                   rw [flS_succ x kv hk', hleaf]
                   exact if_neg (by simp)
                 exact hKL (k + 1) _ v' ⟨by show k + 1 ≤ _; omega, hS4.quiet hf, by show GD _ _ (flS x kv (k + 1)) _ _ _ _; rw [hfl]; exact (hD4.quiet hf).mono (by show _ ≤ 480 * (k + 1); omega)⟩ (by show x.samples.length - (k + 1) < _; omega) ⟨rfl, rfl, rfl, rfl, rfl, rfl, rfl, rfl, trivial⟩)
              | (have hfl : flS x kv (k + 1) = flS x kv k := by
                   funext j
                   have hw0 : wv = 0 := of_decide_eq_true h68
                   rw [flS_succ x kv hk', hwv, hw0, Int.add_zero, flS_wrap]
                   split <;> rfl
                 exact hKL (k + 1) _ v' ⟨by show k + 1 ≤ _; omega, hS.quiet hf, by show GD _ _ (flS x kv (k + 1)) _ _ _ _; rw [hfl]; exact (hD.quiet hf).mono (by show _ ≤ 480 * (k + 1); omega)⟩ (by show x.samples.length - (k + 1) < _; omega) ⟨rfl, rfl, rfl, rfl, rfl, rfl, rfl, rfl, trivial⟩)
          · have hleaf : leafI x x.samples[k] = none := by
              rcases hP4 with ⟨h, h2⟩ | ⟨-, b, i, l, h1, h2, h3, h4⟩
              · have : x.samples[k].stack = [] := List.eq_nil_of_length_eq_zero (by omega)
                simp [leafI, this]
              · rw [h1] at hg162; simp at hg162
            refine j_gf rfl rfl rfl rfl ?_
            refine j_gf rfl rfl rfl rfl ?_
            refine j_val rfl (fun a w ha => r_pick_f rfl rfl ha) ?_
            refine j_nil ?_
            refine ej_then (hK45 _ _ _ ?_); clear hK45
            refine CJ.sub (e' := [(1, _), (5, _), (6, _), (7, _), (8, _), (11, _), (12, _), (13, _), (34, _), (35, _), (36, _), (165, _)]) ⟨rfl, rfl, rfl, rfl, rfl, rfl, rfl, rfl, rfl, rfl, rfl, rfl, trivial⟩ ?_
            refine cj_if_f rfl ?_
            refine cj_skip (ej_blk (ej_then (hK9 _ _ _ ?_))); clear hK9
            refine CJ.sub (e' := [(1, _), (5, _), (6, _), (7, _), (8, _), (34, _), (35, _), (36, _)]) ⟨rfl, rfl, rfl, rfl, rfl, rfl, rfl, rfl, trivial⟩ ?_
            refine cj_reg ?_
            refine j_val rfl (fun a w ha => r_inc (by omega) rfl rfl ha) ?_
            refine j_val rfl (fun a w ha => r_move rfl ha) ?_
            refine j_nil ?_
            refine ej_then ?_
            intro v' hH hf
            first
              | exact hKL (k + 1) _ v' ⟨by show k + 1 ≤ _; omega, hA9.1.quiet hf, (hA9.2.quiet hf).mono (by show _ ≤ 480 * (k + 1); omega)⟩ (by show x.samples.length - (k + 1) < _; omega) ⟨rfl, rfl, rfl, rfl, rfl, rfl, rfl, rfl, trivial⟩
              | (have hfl : flS x kv (k + 1) = flS x kv k := by
                   funext j
                   rw [flS_succ x kv hk', hleaf]
                   exact if_neg (by simp)
                 exact hKL (k + 1) _ v' ⟨by show k + 1 ≤ _; omega, hS4.quiet hf, by show GD _ _ (flS x kv (k + 1)) _ _ _ _; rw [hfl]; exact (hD4.quiet hf).mono (by show _ ≤ 480 * (k + 1); omega)⟩ (by show x.samples.length - (k + 1) < _; omega) ⟨rfl, rfl, rfl, rfl, rfl, rfl, rfl, rfl, trivial⟩)
              | (have hfl : flS x kv (k + 1) = flS x kv k := by
                   funext j
                   have hw0 : wv = 0 := of_decide_eq_true h68
                   rw [flS_succ x kv hk', hwv, hw0, Int.add_zero, flS_wrap]
                   split <;> rfl
                 exact hKL (k + 1) _ v' ⟨by show k + 1 ≤ _; omega, hS.quiet hf, by show GD _ _ (flS x kv (k + 1)) _ _ _ _; rw [hfl]; exact (hD.quiet hf).mono (by show _ ≤ 480 * (k + 1); omega)⟩ (by show x.samples.length - (k + 1) < _; omega) ⟨rfl, rfl, rfl, rfl, rfl, rfl, rfl, rfl, trivial⟩)
      clear hK22
      refine cj_seqF fun K46 hK46 => ?_
      refine cj_reg ?_
      refine j_val rfl (fun a w ha => r_move rfl ha) ?_
      refine j_val rfl (fun a w ha => r_nil rfl ha) ?_
      refine j_val rfl (fun a w ha => r_fl (q := 0) (ft := 108) Try.runUnderlying118 rfl Try.sizeOf108 rfl ha) ?_
      refine j_valw rfl (fun a w ha hH hf => r_load Try.isAgg108 rfl (hsc w (hf) 0 _ rfl) ha) ?_
      refine j_val rfl (fun a w ha => r_len Try.runUnderlying108 rfl ha) ?_
      refine j_val rfl (fun a w ha => r_sub rfl rfl ha) ?_
      refine j_eqv (u := .int .i64 ((x.samples[k].stack.length : Int) - 1)) (by rw [wrap64_small (by omega) (by omega)]) ?_
      refine j_val rfl (fun a w ha => r_assign rfl ha) ?_
      refine j_nil ?_
      refine ej_then (hK46 _ _ _ ?_); clear hK46
      refine CJ.sub (e' := [(1, _), (5, _), (6, _), (7, _), (8, _), (10, _), (11, _), (12, _), (13, _), (14, _), (15, _), (16, _), (34, _), (35, _), (36, _)]) ⟨rfl, rfl, rfl, rfl, rfl, rfl, rfl, rfl, rfl, rfl, rfl, rfl, rfl, rfl, rfl, trivial⟩ ?_
      refine cj_seqF fun K47 hK47 => ?_
      refine cj_reg ?_
      refine j_val rfl (fun a w ha => r_move rfl ha) ?_
      refine j_val rfl (fun a w ha => r_move rfl ha) ?_
      refine j_val rfl (fun a w ha => r_lss rfl rfl ha) ?_
      refine j_nil ?_
      refine ej_then (hK47 _ _ _ ?_); clear hK47
      refine CJ.sub (e' := [(1, _), (5, _), (6, _), (7, _), (8, _), (10, _), (11, _), (12, _), (13, _), (14, _), (15, _), (16, _), (34, _), (35, _), (36, _), (79, _)]) ⟨rfl, rfl, rfl, rfl, rfl, rfl, rfl, rfl, rfl, rfl, rfl, rfl, rfl, rfl, rfl, rfl, trivial⟩ ?_
      refine cj_dec rfl (fun h79 => ?_) (fun h79 => ?_)
      · refine cj_reg ?_
        refine j_val rfl (fun a w ha => r_move rfl ha) ?_
        refine j_val rfl (fun a w ha => r_assign rfl ha) ?_
        refine j_nil ?_
        refine ej_then ?_
        intro v' hH hf
        have hA := afterMaps hC hS1 hD1 o1 o2 hH hf (MEnc.nil' (enc := ptr)) (by simp) (MEnc.nil' (enc := encPP)) (by simp)
        have hj := hJ79 v' hA.1 hA.2
        first
          | (rw [show ((min 2 x.samples[k].stack.length : Nat) : Int) - 1 = (x.samples[k].stack.length : Int) - 1 by omega] at hj; exact N.sub' hj ⟨rfl, rfl, rfl, rfl, rfl, rfl, rfl, rfl, rfl, rfl, rfl, rfl, rfl, rfl, trivial⟩)
          | (rw [show ((min 2 x.samples[k].stack.length : Nat) : Int) - 1 = 1 by omega] at hj; exact N.sub' hj ⟨rfl, rfl, rfl, rfl, rfl, rfl, rfl, rfl, rfl, rfl, rfl, rfl, rfl, rfl, trivial⟩)
      · refine cj_skip (ej_then ?_)
        intro v' hH hf
        have hA := afterMaps hC hS1 hD1 o1 o2 hH hf (MEnc.nil' (enc := ptr)) (by simp) (MEnc.nil' (enc := encPP)) (by simp)
        have hj := hJ79 v' hA.1 hA.2
        first
          | (rw [show ((min 2 x.samples[k].stack.length : Nat) : Int) - 1 = (x.samples[k].stack.length : Int) - 1 by omega] at hj; exact N.sub' hj ⟨rfl, rfl, rfl, rfl, rfl, rfl, rfl, rfl, rfl, rfl, rfl, rfl, rfl, rfl, trivial⟩)
          | (rw [show ((min 2 x.samples[k].stack.length : Nat) : Int) - 1 = 1 by omega] at hj; exact N.sub' hj ⟨rfl, rfl, rfl, rfl, rfl, rfl, rfl, rfl, rfl, rfl, rfl, rfl, rfl, rfl, trivial⟩)
  · have hke : k = x.samples.length := by omega
    subst hke
    have hcov := mc (f := ⟨v, 0, []⟩) (hKv.blk ho1) rfl
    obtain ⟨infb, hinfb⟩ : ∃ infb : Nat → NI, ∀ p ∈ ns, infb p.2 = p.1 := by
      refine ⟨fun b => ((ns.find? fun p => p.2 = b).map (·.1)).getD ⟨⟨#[]⟩, 0, 0, 0⟩, fun p hp => ?_⟩
      cases hfd : ns.find? (fun q => decide (q.2 = p.2)) with
      | none => exact absurd (List.find?_eq_none.1 hfd p hp) (by simp)
      | some q =>
        have h1 : q.2 = p.2 := by simpa using List.find?_some hfd
        have h2 := List.mem_of_find?_eq_some hfd
        have h3 := map_inj_of_nodup hnd h2 hp h1
        show ((ns.find? fun q => decide (q.2 = p.2)).map (·.1)).getD _ = p.1
        rw [hfd, h3]; rfl
    have hbs : ∀ b ∈ bs, (infb b, b) ∈ ns := fun b hb => by
      obtain ⟨p, hp, rfl⟩ := List.mem_map.1 ((hmem2 b).1 hb)
      rw [hinfb p hp]; exact hp
    refine cj_exit (ej_then_exit (ej_then_exit (ej_blk_hit (ej_then (hK5 _ _ _ ?_))))); clear hK5
    refine CJ.sub (e' := [(1, _), (5, _)]) ⟨rfl, rfl, trivial⟩ ?_
    refine cj_seqF fun K48 hK48 => ?_
    refine cj_reg ?_
    refine j_val rfl (fun a w ha => r_move rfl ha) ?_
    refine j_val rfl (fun a w ha => r_move rfl ha) ?_
    refine j_val rfl (fun a w ha => r_nil rfl ha) ?_
    refine j_val rfl (fun a w ha => r_fl (q := 2) (ft := 4) Try.runUnderlying66 rfl Try.sizeOf4 rfl ha) ?_
    refine j_valw rfl (fun a w ha hH hf => r_load Try.isAgg4 rfl (hcov w (hf) 2 _ rfl) ha) ?_
    refine j_callE (R := fun v8 u v9 => (∃ (gb : Nat) (v' : Value) (bs' : List Nat), u = ptr gb ∧ Blk v9 gb tGraph [v'] ∧ OS pNode 1 v9 v' (bs'.map ptr) ∧ bs'.Nodup ∧ bs'.length ≤ bs.length ∧ (∀ b ∈ bs', b ∈ bs) ∧ ∀ b ∈ bs, flS x kv x.samples.length (infb b) ≠ 0 → b ∈ bs') ∧ Fr 0 [] v8 v9) Try.call31 rfl rfl (fun v8 hH hf => by
        refine select_c w1.heap.size (480 * x.samples.length) v8 nv bs (fun b => flS x kv x.samples.length (infb b)) (hS.quiet hf).os ?_ hnd2 fun b hb => ?_
        · have h1 := nodup_len hnd2 (m := ns.map (·.2)) fun b hb => (hmem2 b).1 hb
          simp at h1; omega
        · obtain ⟨cu, hc⟩ := (hD.quiet hf).nodes _ (hbs b hb)
          exact ⟨infb b, cu, hc⟩) fun v8 u v9 hH8 hf8 hR => ?_
    obtain ⟨⟨gb, v', bs', rfl, hg1, hg2, hg3, hg4, hg5, hg6⟩, hq9⟩ := hR
    refine J.begin ⟨v9, 0, []⟩ [] ok_refl .nil ?_
    refine j_val rfl (fun a w ha => r_assign rfl ha) ?_
    refine j_nil ?_
    refine ej_then (hK48 _ _ _ ?_); clear hK48
    refine CJ.sub (e' := [(4, _)]) ⟨rfl, trivial⟩ ?_
    refine cj_ret (?_)
    refine ej_ret1 Try.results18 rfl fun w' hH hf => ?_
    have hD9 := ((hD.quiet hf8).quiet hq9).quiet hf
    have hS9 := ((hS.quiet hf8).quiet hq9).quiet hf
    have hkw : ∀ b T cs, Blk v9 b T cs → Blk w' b T cs := fun b T cs h => hf.blk h (.inr (by simp))
    refine ⟨⟨gb, v', bs', infb, rfl, hkw _ _ _ hg1, hg2.mono fun b cs h => hkw _ _ _ h, ?_, fun b hb => ?_, ?_, fun i hi => ?_⟩, Fr.trans hf1 hS9.fr (.inr ⟨Nat.le_refl _, fun _ h => h⟩)⟩
    · have h1 := nodup_len hnd2 (m := ns.map (·.2)) fun b hb => (hmem2 b).1 hb
      simp at h1; omega
    · obtain ⟨cu, hc⟩ := hD9.nodes _ (hbs b (hg5 b hb))
      obtain ⟨fn, fd, cd, ein, eout, q1, q2, q3⟩ := hc.ex
      refine ⟨cu, _, Nat.zero_le _, fn, fd, cd, ein, eout, q1, q2.zero, q3.zero⟩
    · refine nodup_map_on hg3 fun a ha b hb he => ?_
      have h1 := hbs a (hg5 a ha)
      have h2 := hbs b (hg5 b hb)
      rw [he] at h1
      have := map_inj_of_nodup hnk h1 h2 rfl
      injection this
    · have hex : ∃ s ∈ x.samples, leafI x s = some i := by
        refine Classical.byContradiction fun hn => hi ?_
        exact flS_zero (fun s hs h => hn ⟨s, hs, h⟩) _
      obtain ⟨s, hs, hl⟩ := hex
      have hin : ∃ b, (i, b) ∈ ns := by
        unfold leafI at hl
        cases hst : s.stack with
        | nil => rw [hst] at hl; cases hl
        | cons z r =>
          rw [hst] at hl
          simp only at hl
          cases hlz : x.locs[z.toNat]? with
          | none => rw [hlz] at hl; cases hl
          | some l =>
            rw [hlz] at hl
            simp only [Option.bind_some] at hl
            have hzl := (List.getElem?_eq_some_iff.1 hlz).1
            have htbl : z.toNat < tb.length := by have := congrArg List.length hS9.tb.1; simp at this; omega
            obtain ⟨bsl, -, hbsl, hbsm⟩ := hS9.tb.2 z.toNat _ _ (List.getElem?_eq_getElem htbl) hlz
            have h0 := (List.getElem?_eq_some_iff.1 hl).1
            exact ⟨_, hbsm 0 _ _ (List.getElem?_eq_getElem (by omega)) hl⟩
      obtain ⟨b, hb⟩ := hin
      have hbb : b ∈ bs := (hmem2 b).2 (List.mem_map.2 ⟨_, hb, rfl⟩)
      have hib : infb b = i := hinfb _ hb
      exact ⟨b, hg6 b hbb (by rw [hib]; exact hi), hib⟩
end Go.Proofs.Ytgjpegehmbebpaa
