/-
  The nodes of a graph, made of a profile's locations. Conditions: the profile is well formed.
-/
import Derived.Test.YtgjpegehmbebpaaNl
namespace Go.Fw
open Go
/-- cells of a block that a stretch leaves as it is -/
theorem mc {f : Fm} {b T : Nat} {cs : List Value} (hb : Blk f.ws b T cs) (hT : f.W.all (fun t => !Nat.beq t T) = true) : ∀ w', f.ok w' → ∀ (j : Nat) (u : Value), cs[j]? = some u → w'.cell? ⟨b, 0 + j, none⟩ = some u := fun w' hf j u hj => by
  have h := hf.keep b _ hb (.inr (not_mem_of_all (T := T) hT))
  have h : Blk w' b T cs := h
  rw [h.cell, Nat.zero_add]; exact hj
/-- cells of an owned slice, from a stretch on that leaves its kind as it is -/
theorem OS.openF {T sz : Nat} {w : World} {v : Value} {xs : List Value} (h : OS T sz w v xs) : ∃ p l c, v = .slice p l c ∧ xs.length = l * sz ∧ l ≤ c ∧ (0 < l → ∃ b, p = some ⟨b, 0, none⟩ ∧ ∀ f : Fm, f.ws = w → f.W.all (fun t => !Nat.beq t T) = true → ∀ w', f.ok w' → ∀ (j : Nat) (u : Value), xs[j]? = some u → w'.cell? ⟨b, j, none⟩ = some u) := by
  obtain ⟨y, p, l, c, h1, h2, h3⟩ := h
  refine ⟨p, l, c, h1, h2.sl.1, h2.sl.2.1, fun hl => ?_⟩
  obtain ⟨-, -, h4⟩ := h2.sl
  rcases h4 with ⟨h5, h6, ⟨ex, h7⟩, -⟩ | ⟨h5, h6, h7⟩
  · refine ⟨y.b, h6, fun f hf hT w' k j u hj => ?_⟩
    have hb := h3 h5
    subst hf
    have hk := k.keep y.b _ hb (.inr (not_mem_of_all (T := T) hT))
    have hk : Blk w' y.b T y.cs := hk
    rw [hk.cell, h7, List.getElem?_append_left (List.getElem?_eq_some_iff.1 hj).1]
    exact hj
  · have := h2.sl.2.1; omega
theorem Hp.freshX {w0 w : World} {B : Nat} {H : Heap} (h : Hp ⟨w0, B, []⟩ w H) {i : Nat} {x : Ent} (hx : H[i]? = some x) (he : x.ex = true) (hw : x.wr = true) : w0.heap.size ≤ x.b := by
  rcases h.mayx (List.mem_of_getElem? hx) he hw with h | ⟨-, h⟩
  · exact h
  · cases h
theorem Hp.nex {f : Fm} {w : World} : ∀ {H : Heap}, Hp f w H → ∀ {i j : Nat} {x y : Ent}, i < j → H[i]? = some x → H[j]? = some y → x.ex = true → y.ex = true → y.b ≠ x.b
  | [], _, _, _, _, _, _, hx, _, _, _ => by simp at hx
  | z :: r, h, 0, j, x, y, hij, hx, hy, he, hey => by
    simp at hx; subst hx
    obtain ⟨j, rfl⟩ : ∃ k, j = k + 1 := ⟨j - 1, by omega⟩
    simp at hy
    exact h.2.2.1 he y (List.mem_of_getElem? hy) hey
  | z :: r, h, i + 1, j, x, y, hij, hx, hy, he, hey => by
    obtain ⟨j, rfl⟩ : ∃ k, j = k + 1 := ⟨j - 1, by omega⟩
    simp at hx hy
    exact Hp.nex h.2.2.2 (by omega) hx hy he hey
theorem KeepX.keep' {w0 w1 w2 : World} {l : List Nat} (h : Keep w0 w1) (k : KeepX l w1 w2) (hl : ∀ b ∈ l, w0.heap.size ≤ b) : Keep w0 w2 := fun b o hb => k.keep b o (h b o hb) fun hm => by
  have h1 := hl b hm
  have h2 : b < w0.heap.size := (Array.getElem?_eq_some_iff.1 hb).1
  omega
theorem Keep.blk {w w' : World} (k : Keep w w') {b T : Nat} {cs : List Value} (h : Blk w b T cs) : Blk w' b T cs := k _ _ h
theorem Fr.keepB {W : List Nat} {w0 w w' : World} {B : Nat} (k : Keep w0 w) (h : Fr B W w w') (hW : W = []) : Keep w0 w' := k.trans (h.keepAll (.inr hW))
theorem okX {w0 w1 w2 : World} {l : List Nat} (h : Fm.ok ⟨w0, 0, []⟩ w1) (k : KeepX l w1 w2) (hl : ∀ b ∈ l, w0.heap.size ≤ b) : Fm.ok ⟨w0, 0, []⟩ w2 :=
  ⟨k.os.trans h.os, k.tape.trans h.tape, k.output.trans h.output, Nat.le_trans h.size k.size, fun b o hb hc => k.keep b o (h.keep b o hb hc) fun hm => by
    have h1 := hl b hm
    have h2 : b < w0.heap.size := (Array.getElem?_eq_some_iff.1 hb).1
    omega⟩
section
variable {P : Program} {Q : Exit → Act → World → Prop} {n : Nat} {f : Fm} {e : Env} {H : Heap} {ops : Array Oper} {rest : List Oper} {d ty : Nat} {pos : String} {af : Array Edge}
/-- a call that makes new memory, and returns a slice of it -/
theorem j_callS {g : FuncId} {args : Array Operand} {vs : List Value} {tys : Array TypeId} {T sz : Nat} {φ : List Value → Prop} (hg : ∀ (az : Array Value) (w : World), (callFunc g az).run P w = .ok (.enter g az) w)
    (hargs : evL e args.toList = some vs) (hd : Nat.blt d n = true)
    (hc : ∀ w, Hp f w H → f.ok w → Calls P g vs.toArray w (Ret fun v w' => (∃ xs, (∃ y p l c, v = .slice p l c ∧ Own T sz y p l c xs ∧ (y.on = true → Blk w' y.b T y.cs ∧ w.heap.size ≤ y.b)) ∧ φ xs) ∧ Fr 0 [] w w'))
    (k : ∀ y p l c xs, Own T sz y p l c xs → φ xs → J P ops Q n f ((d, .slice p l c) :: e) (y :: H) rest) : J P ops Q n f e H (⟨some d, .call ⟨.value (.func g), args, tys⟩, ty, pos, af, none⟩ :: rest) :=
  j_callE hg hargs hd hc fun w v w' hH hf hR => by
    obtain ⟨⟨xs, ⟨y, p, l, c, rfl, hO, hy⟩, hφ⟩, h3⟩ := hR
    refine k y p l c xs hO hφ w' ⟨⟨fun ho => ?_, fun o ho => by rw [hO.ho] at ho; cases ho⟩, fun he _ => .inl ?_, fun he z hz hze => ?_, hH.fr h3⟩ (hf.fr h3)
    · rw [hO.hT]; exact (hy ho).1
    · have : y.on = true := by simpa [Ent.ex, hO.ho] using he
      exact Nat.le_trans hf.size (hy this).2
    · have : y.on = true := by simpa [Ent.ex, hO.ho] using he
      have h4 := hH.lt hz hze
      have h5 := (hy this).2
      omega
end
end Go.Fw
namespace Go.Proofs.Ytgjpegehmbebpaa
open Go Go.Fw Go.Proofs
def niOf (funs : List PFunc) (l : PLoc) (n : PLine) : NI := if 0 ≤ n.fn then (match funs[n.fn.toNat]? with | some f => ⟨f.name, l.addr, f.start, n.line⟩ | none => ⟨⟨#[]⟩, l.addr, 0, 0⟩) else ⟨⟨#[]⟩, l.addr, 0, 0⟩
def lnsOf (l : PLoc) : List PLine := if l.lines = [] then [⟨-1, 0⟩] else l.lines
def infos (funs : List PFunc) (l : PLoc) : List NI := (lnsOf l).map (niOf funs l)
theorem infos_len (funs : List PFunc) (l : PLoc) : (infos funs l).length = (lnsOf l).length := by simp [infos]
theorem lnsOf_pos (l : PLoc) : 0 < (lnsOf l).length := by
  unfold lnsOf; split
  · simp
  · rename_i h; exact List.length_pos_iff.2 h
theorem lnsOf_le {l : PLoc} (h : l.lines.length ≤ 60) : (lnsOf l).length ≤ 60 := by
  unfold lnsOf; split
  · simp
  · exact h
theorem lineI_of {B : Nat} {w : World} {x : PProf} {g : G} (hG : OfP B w x g) (hx : WellP x) {l : PLoc} (hl : l ∈ x.locs) {n : PLine} (hn : n ∈ lnsOf l) : ∃ p, ptrAt g.funs n.fn = .pointer p ∧ LineI w l p n.line (niOf x.funcs l n) := by
  refine ⟨_, rfl, ?_⟩
  by_cases h0 : 0 ≤ n.fn
  · have hm : n ∈ l.lines := by
      unfold lnsOf at hn
      split at hn
      · simp at hn; subst hn; simp at h0
      · exact hn
    have hlt := (hx.tab.locs l hl).2.2 n hm
    have h1 : n.fn.toNat < x.funcs.length := by omega
    have h2 : n.fn.toNat < g.funs.length := by rw [hG.funs.1]; exact h1
    refine .inr ⟨g.funs[n.fn.toNat], x.funcs[n.fn.toNat], by simp [h0, h2], hG.funs.2 _ _ _ (List.getElem?_eq_getElem h2) (List.getElem?_eq_getElem h1), by simp [niOf, h0, h1]⟩
  · exact .inl ⟨by simp [h0], by simp [niOf, h0]⟩
theorem LineI.mono {w w' : World} {l : PLoc} {p : Option Addr} {ln : Int} {i : NI} (h : LineI w l p ln i) (k : Keep w w') : LineI w' l p ln i := h.imp id fun ⟨bf, f, h1, h2, h3⟩ => ⟨bf, f, h1, k.blk h2, h3⟩
def NodesFor (w : World) (v : Value) (ns : List (NI × Nat)) (is : List NI) : Prop := ∃ bs : List Nat, OS pNode 1 w v (bs.map ptr) ∧ bs.length = is.length ∧ ∀ (j : Nat) b i, bs[j]? = some b → is[j]? = some i → (i, b) ∈ ns
theorem NodesFor.mono {w w' : World} {v : Value} {ns ns' : List (NI × Nat)} {is : List NI} (h : NodesFor w v ns is) (k : ∀ b cs, Blk w b pNode cs → Blk w' b pNode cs) (hs : ∀ p ∈ ns, p ∈ ns') : NodesFor w' v ns' is := by
  obtain ⟨bs, h1, h2, h3⟩ := h
  exact ⟨bs, h1.mono k, h2, fun j b i hb hi => hs _ (h3 j b i hb hi)⟩
/-- the nodes of the locations so far, by the locations' numbers -/
def TBI (w : World) (x : PProf) (ns : List (NI × Nat)) (tb : List (Int × Value)) (k : Nat) : Prop := tb.map (·.1) = (x.locs.take k).map (·.id) ∧ ∀ (i : Nat) q l, tb[i]? = some q → x.locs[i]? = some l → NodesFor w q.2 ns (infos x.funcs l)
theorem TBI.mono {w w' : World} {x : PProf} {ns ns' : List (NI × Nat)} {tb : List (Int × Value)} {k : Nat} (h : TBI w x ns tb k) (hk : ∀ b cs, Blk w b pNode cs → Blk w' b pNode cs) (hs : ∀ p ∈ ns, p ∈ ns') : TBI w' x ns' tb k :=
  ⟨h.1, fun i q l hq hl => (h.2 i q l hq hl).mono hk hs⟩
theorem TBI.push {w : World} {x : PProf} {ns : List (NI × Nat)} {tb : List (Int × Value)} {k : Nat} {v : Value} (hk : k < x.locs.length) (h : TBI w x ns tb k) (hv : NodesFor w v ns (infos x.funcs x.locs[k])) : TBI w x ns (tb ++ [(x.locs[k].id, v)]) (k + 1) := by
  have hl : tb.length = k := by have := congrArg List.length h.1; simp at this; omega
  refine ⟨by rw [List.map_append, h.1, ← List.take_append_getElem hk, List.map_append]; rfl, fun i q l hq hl' => ?_⟩
  by_cases hi : i < k
  · rw [List.getElem?_append_left (by omega)] at hq
    exact h.2 i q l hq hl'
  · have hlt := (List.getElem?_eq_some_iff.1 hq).1
    simp at hlt
    have : i = k := by omega
    subst this
    rw [List.getElem?_append_right (by omega)] at hq
    simp [hl] at hq
    subst hq
    rw [List.getElem?_eq_getElem hk] at hl'
    cases hl'
    exact hv
/-- a change of blocks that are no nodes, edges, or arrays of edges -/
theorem _root_.Go.Fw.KeepX.notag {l : List Nat} {w w' : World} (k : KeepX l w w') {U : Nat} (hl : ∀ c ∈ l, ∀ T cs, Blk w c T cs → T ≠ U) {b : Nat} {cs : List Value} (h : Blk w b U cs) : Blk w' b U cs := k.blk h fun hc => hl b hc U cs h rfl
structure NoGr (l : List Nat) (w : World) : Prop where
  no : ∀ c ∈ l, ∀ T cs, Blk w c T cs → T ≠ tNode ∧ T ≠ tEdge ∧ T ≠ pEdge
theorem Ext.notag {B : Nat} {l : List Nat} {w w' : World} (k : KeepX l w w') (hl : NoGr l w) : Ext B w w' := by
  have h1 : ∀ b cs, Blk w b tNode cs → Blk w' b tNode cs := fun b cs h => k.notag (fun c hc T cs hb => (hl.no c hc T cs hb).1) h
  have h2 : ∀ b cs, Blk w b tEdge cs → Blk w' b tEdge cs := fun b cs h => k.notag (fun c hc T cs hb => (hl.no c hc T cs hb).2.1) h
  have h3 : ∀ b cs, Blk w b pEdge cs → Blk w' b pEdge cs := fun b cs h => k.notag (fun c hc T cs hb => (hl.no c hc T cs hb).2.2) h
  have hn : ∀ b, IsNode w b → IsNode w' b := fun b ⟨cs, hb⟩ => ⟨cs, h1 _ _ hb⟩
  have he : ∀ e, IsEdge w e → IsEdge w' e := fun e ⟨s, d, wt, wd, r, i, g1, g2⟩ => ⟨s, d, wt, wd, r, i, h2 _ _ g1, hn d g2⟩
  refine ⟨hn, he, fun N v ⟨p, l, c, g1, g2, g3, g4⟩ => ⟨p, l, c, g1, g2, g3, ?_⟩⟩
  rcases g4 with g4 | ⟨b, cs, g5, g6, g7, g8, g9⟩
  · exact .inl g4
  · refine .inr ⟨b, cs, g5, g6, h3 _ _ g7, g8, fun j hj => ?_⟩
    obtain ⟨e, ha, hb, hc⟩ := g9 j hj
    exact ⟨e, ha, hb, he e hc⟩
theorem NodeAt.notag {B N : Nat} {l : List Nat} {w w' : World} {b : Nat} {i : NI} {fl cu : Int} (h : NodeAt B N w b i fl cu) (k : KeepX l w w') (hl : NoGr l w) : NodeAt B N w' b i fl cu :=
  h.ext (Ext.notag k hl) fun cs hb => k.notag (fun c hc T cs hb => (hl.no c hc T cs hb).1) hb
theorem NM.notag {B : Nat} {l : List Nat} {w w' : World} {mb : Nat} {ns : List (NI × Nat)} (h : NM B w mb ns) (k : KeepX l w w') (hl : NoGr l w) (hm : mb ∉ l) : NM B w' mb ns := by
  obtain ⟨es, ck, h1, h2⟩ := h.map
  exact ⟨h.ge, ⟨es, ck, k.keep _ _ h1 hm, h2⟩, fun p hp => (h.nodes p hp).notag k hl, h.nd⟩
theorem NoGr.row {w : World} {b T : Nat} {cs : List Value} (h : Blk w b T cs) (hT : T ≠ tNode ∧ T ≠ tEdge ∧ T ≠ pEdge) : NoGr [b] w := ⟨fun c hc U ds hd => by
  simp at hc; subst hc
  rw [Blk.tag_ne hd h]; exact hT⟩
theorem NoGr.map {w : World} {b : Nat} {es : Array MapEntry} {ck : Nat} (h : w.heap[b]? = some (.map es ck)) : NoGr [b] w := ⟨fun c hc U ds hd => by
  simp at hc; subst hc
  exact absurd hd (map_noBlk h _ _)⟩
theorem NoGr.cons {w : World} {b : Nat} {l : List Nat} (h : NoGr [b] w) (k : NoGr l w) : NoGr (b :: l) w := ⟨fun c hc => by
  rcases List.mem_cons.1 hc with rfl | hc
  · exact h.no c (by simp)
  · exact k.no c hc⟩
theorem NoGr.nil {w : World} : NoGr [] w := ⟨fun _ h => by cases h⟩
theorem LM.mono {w w' : World} {sb lb n : Nat} {tb : List (Int × Value)} (h : LM w sb lb n tb) {l : List Nat} (k : KeepX l w w') (h1 : sb ∉ l) (h2 : lb ∉ l) : LM w' sb lb n tb := by
  obtain ⟨cs, q1, q2, q3⟩ := h.arr
  obtain ⟨es, ck, ms, q4, q5, q6⟩ := h.map
  exact ⟨⟨cs, k.blk q1 h1, q2, q3⟩, ⟨es, ck, ms, k.keep _ _ q4 h2, q5, q6⟩⟩
theorem LM.map' {w : World} {sb lb n : Nat} {tb : List (Int × Value)} (h : LM w sb lb n tb) : ∃ es ck, w.heap[lb]? = some (.map es ck) := by
  obtain ⟨es, ck, ms, q4, q5, q6⟩ := h.map
  exact ⟨_, _, q4⟩
theorem LM.row' {w : World} {sb lb n : Nat} {tb : List (Int × Value)} (h : LM w sb lb n tb) : ∃ cs, Blk w sb tNodes cs := by
  obtain ⟨cs, q1, q2, q3⟩ := h.arr
  exact ⟨cs, q1⟩
theorem Blk.ne' {w : World} {b c T U : Nat} {cs ds : List Value} (h : Blk w b T cs) (k : Blk w c U ds) (hT : Nat.beq T U = false) : b ≠ c := by
  rintro rfl
  rw [Blk.tag_ne h k, Nat.beq_refl] at hT
  cases hT
abbrev tLMz : List Value := [.slice none 0 0, .map none]
structure CI (B b5 b6 sb lb mb n : Nat) (x : PProf) (w : World) (k : Nat) (ns : List (NI × Nat)) (tb : List (Int × Value)) : Prop where
  le : k ≤ x.locs.length
  r5 : Blk w b5 tLM tLMz
  r6 : Blk w b6 tLM [.slice (some ⟨sb, 0, none⟩) n n, .map (some lb)]
  nm : NM B w mb ns
  lm : LM w sb lb n tb
  tb : TBI w x ns tb k
  len : ns.length ≤ 200 * k
  ne : b5 ≠ b6 ∧ mb ≠ lb
  ge : B ≤ b5 ∧ B ≤ b6 ∧ B ≤ sb ∧ B ≤ lb ∧ B ≤ mb
/-- what keeps the rows of nodes, edges, and arrays of edges -/
structure KG (w w' : World) : Prop where
  nd : ∀ b cs, Blk w b tNode cs → Blk w' b tNode cs
  ed : ∀ b cs, Blk w b tEdge cs → Blk w' b tEdge cs
  pe : ∀ b cs, Blk w b pEdge cs → Blk w' b pEdge cs
theorem KG.ext {B : Nat} {w w' : World} (k : KG w w') : Ext B w w' := by
  have hn : ∀ b, IsNode w b → IsNode w' b := fun b ⟨cs, hb⟩ => ⟨cs, k.nd _ _ hb⟩
  have he : ∀ e, IsEdge w e → IsEdge w' e := fun e ⟨s, d, wt, wd, r, i, g1, g2⟩ => ⟨s, d, wt, wd, r, i, k.ed _ _ g1, hn d g2⟩
  refine ⟨hn, he, fun N v ⟨p, l, c, g1, g2, g3, g4⟩ => ⟨p, l, c, g1, g2, g3, ?_⟩⟩
  rcases g4 with g4 | ⟨b, cs, g5, g6, g7, g8, g9⟩
  · exact .inl g4
  · refine .inr ⟨b, cs, g5, g6, k.pe _ _ g7, g8, fun j hj => ?_⟩
    obtain ⟨e, ha, hb, hc⟩ := g9 j hj
    exact ⟨e, ha, hb, he e hc⟩
theorem KG.fr {B : Nat} {W : List Nat} {w w' : World} (h : Fr B W w w') (hW : W.all (fun t => !Nat.beq t tNode && !Nat.beq t tEdge && !Nat.beq t pEdge) = true) : KG w w' := by
  have q : ∀ t ∈ W, Nat.beq t tNode = false ∧ Nat.beq t tEdge = false ∧ Nat.beq t pEdge = false := fun t ht => by
    have := List.all_eq_true.1 hW t ht
    simp only [Bool.and_eq_true, Bool.not_eq_true'] at this
    exact ⟨this.1.1, this.1.2, this.2⟩
  refine ⟨fun b cs hb => h.blk hb (.inr fun hm => ?_), fun b cs hb => h.blk hb (.inr fun hm => ?_), fun b cs hb => h.blk hb (.inr fun hm => ?_)⟩
  · have := (q _ hm).1; rw [Nat.beq_refl] at this; cases this
  · have := (q _ hm).2.1; rw [Nat.beq_refl] at this; cases this
  · have := (q _ hm).2.2; rw [Nat.beq_refl] at this; cases this
theorem NodeAt.k3 {B N : Nat} {w w' : World} {b : Nat} {i : NI} {fl cu : Int} (h : NodeAt B N w b i fl cu) (k : KG w w') : NodeAt B N w' b i fl cu := h.ext k.ext fun cs hb => k.nd _ _ hb
theorem NM.k3 {B : Nat} {w w' : World} {mb : Nat} {ns : List (NI × Nat)} (h : NM B w mb ns) (k : KG w w') (hm : ∀ es ck, w.heap[mb]? = some (.map es ck) → w'.heap[mb]? = some (.map es ck)) : NM B w' mb ns := by
  obtain ⟨es, ck, h1, h2⟩ := h.map
  exact ⟨h.ge, ⟨es, ck, hm _ _ h1, h2⟩, fun p hp => (h.nodes p hp).k3 k, h.nd⟩
theorem LM.of {w w' : World} {sb lb n : Nat} {tb : List (Int × Value)} (h : LM w sb lb n tb) (k1 : ∀ cs, Blk w sb tNodes cs → Blk w' sb tNodes cs) (k2 : ∀ es ck, w.heap[lb]? = some (.map es ck) → w'.heap[lb]? = some (.map es ck)) : LM w' sb lb n tb := by
  obtain ⟨cs, q1, q2, q3⟩ := h.arr
  obtain ⟨es, ck, ms, q4, q5, q6⟩ := h.map
  exact ⟨⟨cs, k1 _ q1, q2, q3⟩, ⟨es, ck, ms, k2 _ _ q4, q5, q6⟩⟩
theorem fr_map {W : List Nat} {B : Nat} {w w' : World} (h : Fr B W w w') (hT : W.all (fun t => !Nat.beq t 1000000) = true) {b : Nat} : ∀ es ck, w.heap[b]? = some (.map es ck) → w'.heap[b]? = some (.map es ck) := fun es ck hb => h.keep _ _ hb (.inr (not_mem_of_all (T := 1000000) hT))
theorem fr_row {W : List Nat} {B : Nat} {w w' : World} (h : Fr B W w w') {T : Nat} (hT : W.all (fun t => !Nat.beq t T) = true) : ∀ b cs, Blk w b T cs → Blk w' b T cs := fun b cs hb => h.blk hb (.inr (not_mem_of_all hT))
/-- a slice of nodes that is full -/
theorem osFull {w : World} {b : Nat} {bs : List Nat} (h : Blk w b pNode (bs.map ptr)) : OS pNode 1 w (.slice (some ⟨b, 0, none⟩) bs.length bs.length) (bs.map ptr) :=
  ⟨⟨b, pNode, bs.map ptr, true, true, none⟩, _, _, _, rfl, ⟨rfl, rfl, rfl, by simp, Nat.le_refl _, .inl ⟨rfl, rfl, ⟨[], by simp⟩, by simp⟩⟩, fun _ => h⟩
/-- a round of the lines of a location: what is so while its nodes are made -/
structure LI (B b48 : Nat) (x : PProf) (l : PLoc) (gf : List Nat) (mb : Nat) (ns0 : List (NI × Nat)) (w1 w : World) (j : Nat) (ns : List (NI × Nat)) (bs : List Nat) (pl : Option Addr) (cl L : Nat) : Prop where
  le : j ≤ L
  hL : L = (lnsOf l).length
  k : KeepX [mb] w1 w
  nm : NM B w mb ns
  ex : ∃ e, ns = ns0 ++ e ∧ e.length ≤ 2 * j
  row : ∃ cs, Blk w b48 pNode cs ∧ cs.length = L ∧ cs.take j = bs.map ptr
  bl : bs.length = j
  ok : ∀ (q : Nat) b i, bs[q]? = some b → (infos x.funcs l)[q]? = some i → (i, b) ∈ ns
  os : OS tLine 3 w (.slice pl L cl) ((lnsOf l).flatMap (cLine gf))
theorem take_set_step {α : Type} {cs : List α} {j : Nat} (hj : j < cs.length) (v : α) : (cs.set j v).take (j + 1) = cs.take j ++ [v] := by
  have h : j < (cs.set j v).length := by simpa using hj
  rw [← List.take_append_getElem h]
  simp [List.take_set_of_le]
theorem flatMap_get {α : Type} {c : α → List Value} {sz : Nat} (hc : ∀ a, (c a).length = sz) : ∀ {xs : List α} {j : Nat} {a : α}, xs[j]? = some a → ∀ (i : Nat) u, (c a)[i]? = some u → (xs.flatMap c)[j * sz + i]? = some u
  | [], _, _, h, _, _, _ => by simp at h
  | x :: r, 0, a, h, i, u, hu => by
    simp at h; subst h
    have := (List.getElem?_eq_some_iff.1 hu).1
    rw [List.flatMap_cons, List.getElem?_append_left (by omega)]
    simpa using hu
  | x :: r, j + 1, a, h, i, u, hu => by
    simp at h
    rw [List.flatMap_cons, List.getElem?_append_right (by rw [hc, Nat.succ_mul]; omega), hc, show (j + 1) * sz + i - sz = j * sz + i by rw [Nat.succ_mul]; omega]
    exact flatMap_get hc h i u hu
theorem flatMap_len {α : Type} {c : α → List Value} {sz : Nat} (hc : ∀ a, (c a).length = sz) : ∀ (xs : List α), (xs.flatMap c).length = xs.length * sz
  | [] => by simp
  | x :: r => by rw [List.flatMap_cons, List.length_append, hc, flatMap_len hc r, List.length_cons, Nat.succ_mul]; omega
theorem cLine_len (gf : List Nat) (n : PLine) : (cLine gf n).length = 3 := rfl
set_option maxHeartbeats 1000000 in
theorem create_c (w : World) (x : PProf) (g : G) (bo : Nat) (fv : Value) (hG : OfP 0 w x g) (hx : WellP x) (ho : Blk w bo 66 (cOpt fv)) (hid : ∀ l ∈ x.locs, 0 ≤ l.id) :
    Calls Try.prog 27 #[ptr g.pb, ptr bo] w (Ret fun v w' => (∃ (nv : Value) (sb lb mb : Nat) (tb : List (Int × Value)) (ns : List (NI × Nat)) (bs : List Nat), v = .tuple #[nv, .agg #[.slice (some ⟨sb, 0, none⟩) (x.locs.length + 1) (x.locs.length + 1), .map (some lb)]] ∧
      LM w' sb lb (x.locs.length + 1) tb ∧ TBI w' x ns tb x.locs.length ∧ OS pNode 1 w' nv (bs.map ptr) ∧ bs.Nodup ∧ (∀ b, b ∈ bs ↔ b ∈ ns.map (·.2)) ∧ NM w.heap.size w' mb ns ∧ ns.length ≤ 12000 ∧ w.heap.size ≤ sb ∧ w.heap.size ≤ lb) ∧ Fr 0 [] w w') := by
  obtain ⟨tyv, sav, mav, lov, fuv, cov, hpb, -, -, -, hlo, -, -⟩ := hG.prof
  have hcp := mc (f := ⟨w, 0, []⟩) hpb rfl
  have hnl : g.locs.length = x.locs.length := hG.locs.1
  have hl60 : x.locs.length ≤ 60 := by have := hx.tab.l.2.2; simpa using this
  obtain ⟨plo, llo, clo, rfl, hlol, hloc, hlox⟩ := hlo.openF
  obtain rfl : llo = x.locs.length := by simpa [hnl] using hlol.symm
  refine startJ (args := [_, _]) [(0, _), (1, _)] 0 [] [] Try.func27 rfl Try.ntmps27 rfl rfl .nil ?_
  refine cj_seqF fun K1 hK1 => ?_
  refine cj_reg ?_
  refine j_val rfl (fun a w ha => r_assign rfl ha) ?_
  refine j_allocA (zs := [(.slice none 0 0), (.map none)]) Try.zeroValue100 rfl fun b5 => ?_
  refine j_nil ?_
  refine ej_then (hK1 _ _ _ ?_); clear hK1
  refine CJ.sub (e' := [(0, _), (1, _), (5, _)]) ⟨rfl, rfl, rfl, trivial⟩ ?_
  refine cj_seqF fun K2 hK2 => ?_
  refine cj_reg ?_
  refine j_val rfl (fun a w ha => r_move rfl ha) ?_
  refine j_val rfl (fun a w ha => r_nil rfl ha) ?_
  refine j_val rfl (fun a w ha => r_fl (q := 4) (ft := 108) Try.runUnderlying112 rfl Try.sizeOf108 rfl ha) ?_
  refine j_valw rfl (fun a w ha hH hf => r_load Try.isAgg108 rfl (hcp w (hf) 4 _ rfl) ha) ?_
  refine j_val rfl (fun a w ha => r_len Try.runUnderlying108 rfl ha) ?_
  refine j_val rfl (fun a w ha => r_inc (by omega) rfl rfl ha) ?_
  refine j_make (l := x.locs.length + 1) Try.runUnderlying97 el68 rfl rfl rfl (Nat.le_refl _) (by omega) rfl fun b19 cs19 hcs19 _ => ?_
  refine j_mkmap (fun _ h => by cases h) rfl fun b20 => ?_
  refine j_val rfl (fun a w ha => r_build (cs := [_, _]) bt100 rfl rfl ha) ?_
  refine j_allocA (zs := [(.slice none 0 0), (.map none)]) Try.zeroValue100 rfl fun b6 => ?_
  refine j_storeN (cs' := [_, _]) (H' := [_, _, _, _]) 0 rfl rfl rfl rfl Try.sizeOf100 rfl rfl rfl rfl rfl rfl rfl ?_
  refine j_nil ?_
  refine ej_then (hK2 _ _ _ ?_); clear hK2
  refine CJ.sub (e' := [(0, _), (1, _), (5, _), (6, _)]) ⟨rfl, rfl, rfl, rfl, trivial⟩ ?_
  refine cj_seqF fun K3 hK3 => ?_
  refine cj_reg ?_
  refine j_val rfl (fun a w ha => r_move rfl ha) ?_
  refine j_val rfl (fun a w ha => r_nil rfl ha) ?_
  refine j_val rfl (fun a w ha => r_fl (q := 4) (ft := 108) Try.runUnderlying112 rfl Try.sizeOf108 rfl ha) ?_
  refine j_valw rfl (fun a w ha hH hf => r_load Try.isAgg108 rfl (hcp w (hf) 4 _ rfl) ha) ?_
  refine j_val rfl (fun a w ha => r_len Try.runUnderlying108 rfl ha) ?_
  refine j_mkmap (fun _ h => by cases h; exact ⟨⟨_, _, Try.runUnderlying145⟩, _, _, rfl⟩) rfl fun b27 => ?_
  refine j_val rfl (fun a w ha => r_assign rfl ha) ?_
  refine j_nil ?_
  refine ej_then (hK3 _ _ _ ?_); clear hK3
  refine CJ.sub (e' := [(0, _), (1, _), (5, _), (6, _), (7, _)]) ⟨rfl, rfl, rfl, rfl, rfl, trivial⟩ ?_
  refine cj_seqF fun K4 hK4 => ?_
  refine cj_seqF fun K5 hK5 => ?_
  refine cj_reg ?_
  refine j_val rfl (fun a w ha => r_move rfl ha) ?_
  refine j_val rfl (fun a w ha => r_nil rfl ha) ?_
  refine j_val rfl (fun a w ha => r_fl (q := 4) (ft := 108) Try.runUnderlying112 rfl Try.sizeOf108 rfl ha) ?_
  refine j_valw rfl (fun a w ha hH hf => r_load Try.isAgg108 rfl (hcp w (hf) 4 _ rfl) ha) ?_
  refine j_val rfl (fun a w ha => r_len Try.runUnderlying108 rfl ha) ?_
  refine j_val rfl (fun a w ha => r_move rfl ha) ?_
  refine j_nil ?_
  refine ej_then (hK5 _ _ _ ?_); clear hK5
  refine CJ.sub (e' := [(1, _), (5, _), (6, _), (7, _), (31, _), (32, _), (33, _)]) ⟨rfl, rfl, rfl, rfl, rfl, rfl, rfl, trivial⟩ ?_
  refine cj_block ?_
  -- LOOP 0 live [1, 5, 6, 7, 31, 32, 33]
  refine cj_loop (σ := Nat × List (NI × Nat) × List (Int × Value)) (fun s => [(1, ptr bo), (5, ptr b5), (6, ptr b6), (7, .map (some b27)), (31, .slice plo x.locs.length clo), (32, .int .i64 (x.locs.length : Nat)), (33, .int .i64 (s.1 : Nat))])
    (fun _ => []) (fun s w1 => CI w.heap.size b5 b6 b19 b20 b27 (x.locs.length + 1) x w1 s.1 s.2.1 s.2.2) (fun s => x.locs.length - s.1)
    (0, [], []) ⟨rfl, rfl, rfl, rfl, rfl, rfl, rfl, trivial⟩ (fun w' hH hf => ⟨.nil, ?_⟩) ?_
  · refine ⟨Nat.zero_le _, hH.get (i := 4) rfl rfl, hH.get (i := 1) rfl rfl, ⟨hH.freshX (i := 0) rfl rfl rfl, ⟨[], 0, hH.obj (i := 0) rfl rfl, MEnc.nil⟩, by simp, by simp⟩, ⟨⟨cs19, hH.get (i := 3) rfl rfl, by simpa using hcs19, by simp⟩, ⟨[], 0, [], hH.obj (i := 2) rfl rfl, MEnc.nil, by simp⟩⟩, ⟨by simp, by simp⟩, by simp, ⟨hH.nex (i := 1) (j := 4) (by omega) rfl rfl rfl rfl, (hH.nex (i := 0) (j := 2) (by omega) rfl rfl rfl rfl).symm⟩,
      hH.freshX (i := 4) rfl rfl rfl, hH.freshX (i := 1) rfl rfl rfl, hH.freshX (i := 3) rfl rfl rfl, hH.freshX (i := 2) rfl rfl rfl, hH.freshX (i := 0) rfl rfl rfl⟩
  rintro ⟨k, ns, tb⟩ w1 hI hf1 hH1 KL hKL
  have hI : CI w.heap.size b5 b6 b19 b20 b27 (x.locs.length + 1) x w1 k ns tb := hI
  have hK1 : Keep w w1 := hf1.keepAll (.inr rfl)
  have hkle := hI.le
  refine C.begin ⟨w1, 0, []⟩ [] ok_refl .nil ?_
  refine CJ.sub (e' := [(1, ptr bo), (5, ptr b5), (6, ptr b6), (7, .map (some b27)), (31, .slice plo x.locs.length clo), (32, .int .i64 (x.locs.length : Nat)), (33, .int .i64 (k : Nat))]) ⟨rfl, rfl, rfl, rfl, rfl, rfl, rfl, trivial⟩ ?_
  refine cj_seqF fun K6 hK6 => ?_
  refine cj_reg ?_
  refine j_val rfl (fun a w ha => r_lss rfl rfl ha) ?_
  refine j_nil ?_
  refine ej_then (hK6 _ _ _ ?_); clear hK6
  refine CJ.sub (e' := [(1, _), (5, _), (6, _), (7, _), (31, _), (32, _), (33, _), (34, _)]) ⟨rfl, rfl, rfl, rfl, rfl, rfl, rfl, rfl, trivial⟩ ?_
  refine cj_seqF fun K7 hK7 => ?_
  refine cj_dec rfl (fun h34 => ?_) (fun h34 => ?_)
  · have hk : k < x.locs.length := by omega
    obtain ⟨bq, rfl, hloq⟩ := hlox (by omega)
    have hkg : k < g.locs.length := by omega
    have hcell : ∀ w', Fm.ok ⟨w1, 0, []⟩ w' → ∀ (j : Nat) (u : Value), [ptr g.locs[k]][j]? = some u → w'.cell? ⟨bq, 0 + k * 1 + j, none⟩ = some u := fun w' kp j u hu => by
      cases j with
      | zero => simp at hu; subst hu; simpa using hloq ⟨w, 0, []⟩ rfl rfl w' (Fr.trans hf1 kp (.inr ⟨Nat.le_refl _, fun _ h => h⟩)) k (ptr g.locs[k]) (by simp [hkg])
      | succ j => simp at hu
    obtain ⟨lsv, hbl, hlines⟩ := (hG.locs.2 k g.locs[k] x.locs[k] (List.getElem?_eq_getElem hkg) (List.getElem?_eq_getElem hk)).ex
    have hlm : x.locs[k] ∈ x.locs := List.getElem_mem hk
    have hwl := hx.tab.locs _ hlm
    have hcl := mc (f := ⟨w1, 0, []⟩) (hK1.blk hbl) rfl
    obtain ⟨pls, lls, cls, rfl, hlsl, hlsc, hlsx⟩ := hlines.openF
    have hlls : lls = x.locs[k].lines.length := by
      have := flatMap_len (cLine_len g.funs) x.locs[k].lines
      omega
    subst hlls
    refine cj_skip (ej_then (hK7 _ _ _ ?_)); clear hK7
    refine CJ.sub (e' := [(1, _), (5, _), (6, _), (7, _), (31, _), (32, _), (33, _)]) ⟨rfl, rfl, rfl, rfl, rfl, rfl, rfl, trivial⟩ ?_
    refine cj_seqF fun K8 hK8 => ?_
    refine cj_block ?_
    refine cj_seqF fun K9 hK9 => ?_
    refine cj_reg ?_
    refine j_val rfl (fun a w ha => r_idx Try.runUnderlying108 Try.sizeOf119 rfl rfl (by omega) ha) ?_
    refine j_valw rfl (fun a w ha hH hf => r_load Try.isAgg119 rfl (hcell w (hf) 0 _ rfl) ha) ?_
    refine j_val rfl (fun a w ha => r_assign rfl ha) ?_
    refine j_nil ?_
    refine ej_then (hK9 _ _ _ ?_); clear hK9
    refine CJ.sub (e' := [(1, _), (5, _), (6, _), (7, _), (9, _), (31, _), (32, _), (33, _)]) ⟨rfl, rfl, rfl, rfl, rfl, rfl, rfl, rfl, trivial⟩ ?_
    refine cj_seqF fun K10 hK10 => ?_
    refine cj_reg ?_
    refine j_val rfl (fun a w ha => r_move rfl ha) ?_
    refine j_val rfl (fun a w ha => r_nil rfl ha) ?_
    refine j_val rfl (fun a w ha => r_fl (q := 3) (ft := 122) Try.runUnderlying124 rfl Try.sizeOf122 rfl ha) ?_
    refine j_valw rfl (fun a w ha hH hf => r_load Try.isAgg122 rfl (hcl w (hf) 3 _ rfl) ha) ?_
    refine j_val rfl (fun a w ha => r_assign rfl ha) ?_
    refine j_nil ?_
    refine ej_then (hK10 _ _ _ ?_); clear hK10
    refine CJ.sub (e' := [(1, _), (5, _), (6, _), (7, _), (9, _), (10, _), (31, _), (32, _), (33, _)]) ⟨rfl, rfl, rfl, rfl, rfl, rfl, rfl, rfl, rfl, trivial⟩ ?_
    refine cj_seqF fun K11 hK11 => ?_
    refine cj_seqF fun K12 hK12 => ?_
    refine cj_reg ?_
    refine j_val rfl (fun a w ha => r_move rfl ha) ?_
    refine j_val rfl (fun a w ha => r_len Try.runUnderlying122 rfl ha) ?_
    refine j_val rfl (fun a w ha => r_eql rfl rfl ha) ?_
    refine j_nil ?_
    refine ej_then (hK12 _ _ _ ?_); clear hK12
    refine CJ.sub (e' := [(1, _), (5, _), (6, _), (7, _), (9, _), (10, _), (31, _), (32, _), (33, _), (43, _)]) ⟨rfl, rfl, rfl, rfl, rfl, rfl, rfl, rfl, rfl, rfl, trivial⟩ ?_
    refine cj_dec rfl (fun h43 => ?_) (fun h43 => ?_)
    · have hlen0 : x.locs[k].lines = [] := List.eq_nil_of_length_eq_zero (by omega)
      refine cj_reg ?_
      refine j_val rfl (fun a w ha => r_build (cs := [(.pointer none), (.int .i64 0), (.int .u64 0)]) bt138 rfl rfl ha) ?_
      refine j_bslice1 Try.runUnderlying122 Try.sizeOf138 Try.zeroValue138 rfl rfl rfl rfl rfl fun b45 => ?_
      refine j_val rfl (fun a w ha => r_assign rfl ha) ?_
      refine j_nil ?_
      refine ej_then (hK11 _ _ _ ?_); clear hK11
      refine CJ.sub (e' := [(1, _), (5, _), (6, _), (7, _), (9, _), (10, _), (31, _), (32, _), (33, _)]) ⟨rfl, rfl, rfl, rfl, rfl, rfl, rfl, rfl, rfl, trivial⟩ ?_
      refine cj_seqF fun K13 hK13 => ?_
      refine cj_reg ?_
      refine j_val rfl (fun a w ha => r_move rfl ha) ?_
      refine j_val rfl (fun a w ha => r_len Try.runUnderlying122 rfl ha) ?_
      first
      | refine j_make (l := 1) Try.runUnderlying68 el71 rfl rfl rfl (Nat.le_refl _) (by omega) rfl fun b48 cs48 hcs48 _ => ?_
      | refine j_make (l := x.locs[k].lines.length) Try.runUnderlying68 el71 rfl rfl rfl (Nat.le_refl _) (by omega) rfl fun b48 cs48 hcs48 _ => ?_
      refine j_val rfl (fun a w ha => r_assign rfl ha) ?_
      refine j_nil ?_
      refine ej_then (hK13 _ _ _ ?_); clear hK13
      refine CJ.sub (e' := [(1, _), (5, _), (6, _), (7, _), (9, _), (10, _), (11, _), (31, _), (32, _), (33, _)]) ⟨rfl, rfl, rfl, rfl, rfl, rfl, rfl, rfl, rfl, rfl, trivial⟩ ?_
      refine cj_seqF fun K14 hK14 => ?_
      refine cj_seqF fun K15 hK15 => ?_
      refine cj_reg ?_
      refine j_val rfl (fun a w ha => r_move rfl ha) ?_
      refine j_val rfl (fun a w ha => r_len Try.runUnderlying122 rfl ha) ?_
      refine j_val rfl (fun a w ha => r_move rfl ha) ?_
      refine j_nil ?_
      refine ej_then (hK15 _ _ _ ?_); clear hK15
      refine CJ.sub (e' := [(1, _), (5, _), (6, _), (7, _), (9, _), (10, _), (11, _), (31, _), (32, _), (33, _), (50, _), (51, _)]) ⟨rfl, rfl, rfl, rfl, rfl, rfl, rfl, rfl, rfl, rfl, rfl, rfl, trivial⟩ ?_
      refine cj_block ?_
      -- LOOP 1 live [1, 5, 6, 7, 9, 10, 11, 31, 32, 33, 50, 51]
      intro w2 hH2 hf2
      have hst : ∀ (L : Nat) pl cl, L = (lnsOf x.locs[k]).length → Blk w2 b48 pNode cs48 → cs48.length = L * 1 → OS tLine 3 w2 (.slice pl L cl) ((lnsOf x.locs[k]).flatMap (cLine g.funs)) → LI w.heap.size b48 x x.locs[k] g.funs b27 ns w1 w2 0 ns [] pl cl L := fun L pl cl h1 h2 h3 h4 =>
        ⟨Nat.zero_le _, h1, (KeepX.of hf2).drop (by simp), hI.nm.notag (KeepX.of hf2) NoGr.nil (by simp), ⟨[], by simp, by simp⟩, ⟨cs48, h2, by omega, by simp⟩, rfl, by simp, h4⟩
      have hb48 : w1.heap.size ≤ b48 := hH2.freshX (i := 0) rfl rfl rfl
      have hr48 : Blk w2 b48 pNode cs48 := hH2.get (i := 0) rfl rfl
      refine c_loop (σ := Nat × List (NI × Nat) × List Nat × Option Addr × Nat × Nat) (fun s => [(1, ptr bo), (5, ptr b5), (6, ptr b6), (7, .map (some b27)), (9, ptr g.locs[k]), (10, .slice s.2.2.2.1 s.2.2.2.2.2 s.2.2.2.2.1), (11, .slice (some ⟨b48, 0, none⟩) s.2.2.2.2.2 s.2.2.2.2.2), (31, .slice (some ⟨bq, 0, none⟩) x.locs.length clo), (32, .int .i64 (x.locs.length : Nat)), (33, .int .i64 (k : Nat)), (50, .int .i64 (s.2.2.2.2.2 : Nat)), (51, .int .i64 (s.1 : Nat))])
        (fun s w' => LI w.heap.size b48 x x.locs[k] g.funs b27 ns w1 w' s.1 s.2.1 s.2.2.1 s.2.2.2.1 s.2.2.2.2.1 s.2.2.2.2.2) (fun s => s.2.2.2.2.2 - s.1) (0, ns, [], _, _, _) ⟨rfl, rfl, rfl, rfl, rfl, rfl, rfl, rfl, rfl, rfl, rfl, rfl, trivial⟩ ?_ ?_
      · first
          | exact hst 1 _ _ (by rw [lnsOf, if_pos hlen0]; rfl) hr48 hcs48 ⟨⟨b45, tLine, cLine g.funs ⟨-1, 0⟩, true, true, none⟩, _, _, _, rfl, ⟨rfl, rfl, rfl, by rw [lnsOf, if_pos hlen0]; rfl, Nat.le_refl _, .inl ⟨rfl, rfl, ⟨[], by rw [lnsOf, if_pos hlen0]; simp⟩, rfl⟩⟩, fun _ => hH2.get (i := 1) rfl rfl⟩
          | exact hst _ _ _ (by rw [lnsOf, if_neg hlen0]) hr48 hcs48 (by rw [lnsOf, if_neg hlen0]; exact hlines.mono fun b cs h => hf2.blk (hK1.blk h) (.inr (by simp)))
      rintro ⟨j, ns2, bs, pl, cl, L⟩ w3 hL KL2 hKL2
      have hL : LI w.heap.size b48 x x.locs[k] g.funs b27 ns w1 w3 j ns2 bs pl cl L := hL
      have hjL := hL.le
      have hKw3 : Keep w w3 := KeepX.keep' hK1 hL.k (by simp; exact hI.ge.2.2.2.2)
      refine C.begin ⟨w3, 0, []⟩ [] ok_refl .nil ?_
      refine CJ.sub (e' := [(1, ptr bo), (5, ptr b5), (6, ptr b6), (7, .map (some b27)), (9, ptr g.locs[k]), (10, .slice pl L cl), (11, .slice (some ⟨b48, 0, none⟩) L L), (31, .slice (some ⟨bq, 0, none⟩) x.locs.length clo), (32, .int .i64 (x.locs.length : Nat)), (33, .int .i64 (k : Nat)), (50, .int .i64 (L : Nat)), (51, .int .i64 (j : Nat))]) ⟨rfl, rfl, rfl, rfl, rfl, rfl, rfl, rfl, rfl, rfl, rfl, rfl, trivial⟩ ?_
      refine cj_seqF fun K16 hK16 => ?_
      refine cj_reg ?_
      refine j_val rfl (fun a w ha => r_lss rfl rfl ha) ?_
      refine j_nil ?_
      refine ej_then (hK16 _ _ _ ?_); clear hK16
      refine CJ.sub (e' := [(1, _), (5, _), (6, _), (7, _), (9, _), (10, _), (11, _), (31, _), (32, _), (33, _), (50, _), (51, _), (52, _)]) ⟨rfl, rfl, rfl, rfl, rfl, rfl, rfl, rfl, rfl, rfl, rfl, rfl, rfl, trivial⟩ ?_
      refine cj_seqF fun K17 hK17 => ?_
      refine cj_dec rfl (fun h52 => ?_) (fun h52 => ?_)
      · have hj : j < L := by omega
        have hLl := hL.hL
        have hL60 : L ≤ 60 := by rw [hLl]; exact lnsOf_le hwl.2.1
        have hjl : j < (lnsOf x.locs[k]).length := by omega
        obtain ⟨p0, l0, c0, he0, -, -, hlx⟩ := hL.os.openF
        injection he0 with e1 e2 e3
        subst e1; subst e2; subst e3
        obtain ⟨bln, rfl, hlnc⟩ := hlx (by omega)
        have hlm2 : (lnsOf x.locs[k])[j] ∈ lnsOf x.locs[k] := List.getElem_mem hjl
        obtain ⟨pf, hpf, hLI⟩ := lineI_of hG hx hlm hlm2
        have hcell2 : ∀ w', Fm.ok ⟨w3, 0, []⟩ w' → ∀ (i : Nat) (u : Value), [.pointer pf, .int .i64 (lnsOf x.locs[k])[j].line, .int .u64 0][i]? = some u → w'.cell? ⟨bln, 0 + j * 3 + i, none⟩ = some u := fun w' kp i u hu => by
          refine hlnc ⟨w3, 0, []⟩ rfl rfl w' kp _ u ?_
          rw [Nat.zero_add]
          exact flatMap_get (cLine_len g.funs) (List.getElem?_eq_getElem hjl) i u (by rw [cLine, hpf]; exact hu)
        obtain ⟨cs, hcs, hcsl, hcst⟩ := hL.row
        obtain ⟨ex0, rfl, hex0⟩ := hL.ex
        refine cj_skip (ej_then (hK17 _ _ _ ?_)); clear hK17
        refine CJ.sub (e' := [(1, _), (5, _), (6, _), (7, _), (9, _), (10, _), (11, _), (31, _), (32, _), (33, _), (50, _), (51, _)]) ⟨rfl, rfl, rfl, rfl, rfl, rfl, rfl, rfl, rfl, rfl, rfl, rfl, trivial⟩ ?_
        refine cj_seqF fun K18 hK18 => ?_
        refine cj_block ?_
        refine cj_seqF fun K19 hK19 => ?_
        refine cj_reg ?_
        refine j_val rfl (fun a w ha => r_move rfl ha) ?_
        refine j_val rfl (fun a w ha => r_assign rfl ha) ?_
        refine j_nil ?_
        refine ej_then (hK19 _ _ _ ?_); clear hK19
        refine CJ.sub (e' := [(1, _), (5, _), (6, _), (7, _), (9, _), (10, _), (11, _), (12, _), (31, _), (32, _), (33, _), (50, _), (51, _)]) ⟨rfl, rfl, rfl, rfl, rfl, rfl, rfl, rfl, rfl, rfl, rfl, rfl, rfl, trivial⟩ ?_
        refine cj_reg ?_
        refine j_val rfl (fun a w ha => r_move rfl ha) ?_
        refine j_val rfl (fun a w ha => r_move rfl ha) ?_
        refine j_val rfl (fun a w ha => r_move rfl ha) ?_
        refine j_val rfl (fun a w ha => r_move rfl ha) ?_
        refine j_val rfl (fun a w ha => r_move rfl ha) ?_
        refine j_val rfl (fun a w ha => r_move rfl ha) ?_
        refine j_val rfl (fun a w ha => r_idx Try.runUnderlying122 Try.sizeOf138 rfl rfl (by omega) ha) ?_
        refine j_valw rfl (fun a w ha hH hf => r_loadA Try.isAgg138 Try.sizeOf138 rfl rfl (hcell2 w (hf)) ha) ?_
        refine j_val rfl (fun a w ha => r_move rfl ha) ?_
        refine j_callE (R := fun w4 v w5 => ∃ b ns' ex, v = ptr b ∧ NM w.heap.size w5 b27 ns' ∧ (niOf x.funcs x.locs[k] (lnsOf x.locs[k])[j], b) ∈ ns' ∧ ns' = (ns ++ ex0) ++ ex ∧ ex.length ≤ 2 ∧ KeepX [b27] w4 w5) Try.call38 rfl rfl (fun w4 hH4 hf4 => by
            have hKw4 : Keep w w4 := hKw3.trans (hf4.keepAll (.inr rfl))
            refine foil_c w.heap.size w4 b27 (ns ++ ex0) g.locs[k] bo g.maps x.locs[k] _ fv _ pf (lnsOf x.locs[k])[j].line 0 _ (hL.nm.notag (KeepX.of hf4) NoGr.nil (by simp)) (hKw4.blk hbl) rfl ?_ (hLI.mono hKw4) (hKw4.blk ho)
            by_cases h0 : 0 ≤ x.locs[k].mapping
            · have h1 : x.locs[k].mapping.toNat < x.mappings.length := by have := hwl.1.2; omega
              have h2 : x.locs[k].mapping.toNat < g.maps.length := by rw [hG.maps.1]; exact h1
              exact .inr ⟨g.maps[x.locs[k].mapping.toNat], x.mappings[x.locs[k].mapping.toNat], by simp [h0, h2], hKw4.blk (hG.maps.2 _ _ _ (List.getElem?_eq_getElem h2) (List.getElem?_eq_getElem h1))⟩
            · exact .inl (by simp [h0])) fun w4 v w5 hH4 hf4 hR => ?_
        obtain ⟨b, ns5, ex5, rfl, hn5, hb5, rfl, hex5, hk5⟩ := hR
        have hb27 : b48 ≠ b27 := fun h => by
          obtain ⟨es, ck, hm, -⟩ := hL.nm.map
          rw [← h] at hm
          exact map_noBlk hm _ _ hcs
        have hcs5 : Blk w5 b48 pNode cs := hk5.blk (hf4.blk hcs (.inr (by simp))) (by simpa using hb27)
        refine J.begin ⟨w5, 0, [pNode]⟩ _ ok_refl (Hp.one hcs5 (Nat.zero_le _) rfl) ?_
        refine j_val rfl (fun a w ha => r_idx Try.runUnderlying68 Try.sizeOf71 rfl rfl (by omega) ha) ?_
        refine j_store 0 rfl rfl rfl rfl Try.sizeOf71 rfl rfl rfl rfl (by show Nat.ble (0 + j * 1 + 1) cs.length = true; simp; omega) ?_
        refine j_nil ?_
        refine ej_blk (ej_then (hK18 _ _ _ ?_)); clear hK18
        refine CJ.sub (e' := [(1, _), (5, _), (6, _), (7, _), (9, _), (10, _), (11, _), (31, _), (32, _), (33, _), (50, _), (51, _)]) ⟨rfl, rfl, rfl, rfl, rfl, rfl, rfl, rfl, rfl, rfl, rfl, rfl, trivial⟩ ?_
        refine cj_reg ?_
        refine j_val rfl (fun a w ha => r_inc (by omega) rfl rfl ha) ?_
        refine j_val rfl (fun a w ha => r_move rfl ha) ?_
        refine j_nil ?_
        refine ej_then ?_
        intro w6 hH6 hf6
        have hr6 : Blk w6 b48 pNode (cs.set (0 + j * 1) (ptr b)) := hH6.get (i := 0) rfl rfl
        rw [Nat.zero_add, Nat.mul_one] at hr6
        have hk6 : KeepX [b48] w5 w6 := Hp.keepX hH6.2.2.2 hf6
        have hng : NoGr [b48] w5 := NoGr.row hcs5 (by decide)
        refine hKL2 (j + 1, ns ++ ex0 ++ ex5, bs ++ [b], _, cl, L) _ w6 ⟨hj, hLl, ?_, hn5.notag hk6 hng (by simpa using hb27.symm), ⟨ex0 ++ ex5, by simp, by simp; omega⟩, ⟨_, hr6, by simpa using hcsl, ?_⟩, by simp [hL.bl], ?_, ?_⟩ (by simp only; omega) ⟨rfl, rfl, rfl, rfl, rfl, rfl, rfl, rfl, rfl, rfl, rfl, rfl, trivial⟩
        · refine ((((hL.k).trans (KeepX.of hf4)).trans hk5).trans hk6).drop fun c hc => ?_
          simp at hc
          rcases hc with rfl | rfl
          · exact .inl (by simp)
          · exact .inr hb48
        · rw [take_set_step (by omega), hcst]; simp
        · intro q b' i hb' hi
          by_cases hq : q < j
          · rw [List.getElem?_append_left (by rw [hL.bl]; exact hq)] at hb'
            exact List.mem_append_left _ (hL.ok q b' i hb' hi)
          · have hlt := (List.getElem?_eq_some_iff.1 hb').1
            have hqj : q = j := by simp [hL.bl] at hlt; omega
            subst hqj
            rw [List.getElem?_append_right (by rw [hL.bl]; exact Nat.le_refl _), hL.bl] at hb'
            simp at hb'
            subst hb'
            rw [infos, List.getElem?_map, List.getElem?_eq_getElem hjl] at hi
            cases hi
            exact hb5
        · exact hL.os.mono fun b0 cs0 h0 => hk6.blk (hk5.blk (hf4.blk h0 (.inr (by simp))) (by simp; rintro rfl; obtain ⟨es, ck, hm, -⟩ := hL.nm.map; exact map_noBlk hm _ _ h0)) (by simp; rintro rfl; exact absurd (Blk.tag_ne h0 hcs) (by decide))
      · have hjL2 : j = L := by omega
        subst hjL2
        have hLl := hL.hL
        obtain ⟨cs, hcs, hcsl, hcst⟩ := hL.row
        obtain ⟨ex0, rfl, hex0⟩ := hL.ex
        rw [List.take_of_length_le (by omega)] at hcst
        subst hcst
        have hcl3 := mc (f := ⟨w3, 0, []⟩) (hKw3.blk hbl) rfl
        have hnb : ∀ b cs T, Blk w1 b T cs → Blk w3 b T cs := fun b cs T h => hL.k.blk h (by simp; rintro rfl; obtain ⟨es, ck, hm, -⟩ := hI.nm.map; exact map_noBlk hm _ _ h)
        have hnf : NodesFor w3 (.slice (some ⟨b48, 0, none⟩) j j) (ns ++ ex0) (infos x.funcs x.locs[k]) := ⟨bs, by have := osFull hcs; rwa [hL.bl] at this, by rw [hL.bl, hLl, infos_len], fun q b i h1 h2 => hL.ok q b i h1 h2⟩
        have hlm3 : LM w3 b19 b20 (x.locs.length + 1) tb := hI.lm.mono hL.k (by simp; rintro rfl; obtain ⟨c, h⟩ := hI.lm.row'; obtain ⟨es, ck, hm, -⟩ := hI.nm.map; exact map_noBlk hm _ _ h) (by simpa using hI.ne.2.symm)
        have hids : tb.map (·.1) = (x.locs.take k).map (·.id) := hI.tb.1
        have hnew : x.locs[k].id ∉ tb.map (·.1) := by
          rw [hids]
          intro hm
          obtain ⟨l, hl, he⟩ := List.mem_map.1 hm
          obtain ⟨i, hi⟩ := List.mem_iff_getElem?.1 hl
          have hil := (List.getElem?_eq_some_iff.1 hi).1
          have hil : i < k ∧ i < x.locs.length := by simp at hil; omega
          rw [List.getElem?_take, if_pos hil.1, List.getElem?_eq_getElem hil.2] at hi
          cases hi
          have := (List.getElem_inj (xs := x.locs.map (·.id)) (i := i) (j := k) (h₀ := by simp; omega) (h₁ := by simp; omega) hx.tab.l.2.1).1 (by simpa using he)
          omega
        have hidt : ∀ q ∈ tb, 0 ≤ q.1 := fun q hq => by
          have : q.1 ∈ tb.map (·.1) := List.mem_map.2 ⟨q, hq, rfl⟩
          rw [hids] at this
          obtain ⟨l, hl, he⟩ := List.mem_map.1 this
          rw [← he]; exact hid l (List.mem_of_mem_take hl)
        refine cj_exit (ej_then_exit (ej_then_exit (ej_blk_hit (ej_then (hK14 _ _ _ ?_))))); clear hK14
        refine CJ.sub (e' := [(1, _), (5, _), (6, _), (7, _), (9, _), (11, _), (31, _), (32, _), (33, _)]) ⟨rfl, rfl, rfl, rfl, rfl, rfl, rfl, rfl, rfl, trivial⟩ ?_
        refine cj_reg ?_
        refine j_val rfl (fun a w ha => r_move rfl ha) ?_
        refine j_val rfl (fun a w ha => r_nil rfl ha) ?_
        refine j_val rfl (fun a w ha => r_fl (q := 0) (ft := 53) Try.runUnderlying124 rfl Try.sizeOf53 rfl ha) ?_
        refine j_valw rfl (fun a w ha hH hf => r_load Try.isAgg53 rfl (hcl3 w (hf) 0 _ rfl) ha) ?_
        refine j_val rfl (fun a w ha => r_move rfl ha) ?_
        refine j_callE (R := fun w4 _ w5 => LM w5 b19 b20 (x.locs.length + 1) (tb ++ [(x.locs[k].id, .slice (some ⟨b48, 0, none⟩) j j)]) ∧ KeepX [b19, b20] w4 w5) Try.call39 rfl rfl (fun w4 hH4 hf4 => lmAdd_c w.heap.size w4 b6 b19 b20 (x.locs.length + 1) tb x.locs[k].id _ j j (hlm3.mono (KeepX.of hf4) (by simp) (by simp)) (by omega) (hid _ hlm) hnew hidt (hf4.blk (hnb _ _ _ hI.r6) (.inr (by simp))) hI.ge.2.2.1 hI.ge.2.2.2.1) fun w4 v w5 hH4 hf4 hR => ?_
        obtain ⟨hlm5, hk5⟩ := hR
        refine J.begin ⟨w5, 0, []⟩ [] ok_refl .nil ?_
        refine j_nil ?_
        refine ej_blk (ej_then (hK8 _ _ _ ?_)); clear hK8
        refine CJ.sub (e' := [(1, _), (5, _), (6, _), (7, _), (31, _), (32, _), (33, _)]) ⟨rfl, rfl, rfl, rfl, rfl, rfl, rfl, trivial⟩ ?_
        refine cj_reg ?_
        refine j_val rfl (fun a w ha => r_inc (by omega) rfl rfl ha) ?_
        refine j_val rfl (fun a w ha => r_move rfl ha) ?_
        refine j_nil ?_
        refine ej_then ?_
        intro w6 hH6 hf6
        have hrow5 : ∃ cs, Blk w4 b19 tNodes cs := (hlm3.mono (KeepX.of hf4) (l := []) (by simp) (by simp)).row'
        have hmap5 : ∃ es ck, w4.heap[b20]? = some (.map es ck) := (hlm3.mono (KeepX.of hf4) (l := []) (by simp) (by simp)).map'
        obtain ⟨cr, hrow5⟩ := hrow5
        obtain ⟨es5, ck5, hmap5⟩ := hmap5
        have hn4 : NM w.heap.size w4 b27 (ns ++ ex0) := hL.nm.notag (KeepX.of hf4) NoGr.nil (by simp)
        have hmb : b27 ∉ [b19, b20] := by
          simp only [List.mem_cons, List.not_mem_nil, or_false, not_or]
          exact ⟨by rintro rfl; obtain ⟨es, ck, hm, -⟩ := hn4.map; exact map_noBlk hm _ _ hrow5, hI.ne.2⟩
        have hb : ∀ b cs T, T ≠ tNodes → Blk w4 b T cs → Blk w6 b T cs := fun b cs T hT h => hf6.blk (hk5.blk h (by
          simp only [List.mem_cons, List.not_mem_nil, or_false, not_or]
          exact ⟨by rintro rfl; exact hT (Blk.tag_ne h hrow5), by rintro rfl; exact map_noBlk hmap5 _ _ h⟩)) (.inr (by simp))
        have hb3 : ∀ b cs T, T ≠ tNodes → Blk w3 b T cs → Blk w6 b T cs := fun b cs T hT h => hb b cs T hT (hf4.blk h (.inr (by simp)))
        have hfok : Fm.ok ⟨w, 0, []⟩ w6 := okX hf1 ((((hL.k).trans (KeepX.of hf4)).trans hk5).trans (KeepX.of hf6)) (by
          simp
          exact ⟨hI.ge.2.2.2.2, hI.ge.2.2.1, hI.ge.2.2.2.1⟩)
        refine hKL (k + 1, ns ++ ex0, tb ++ [(x.locs[k].id, .slice (some ⟨b48, 0, none⟩) j j)]) _ w6 ⟨hk, hb3 _ _ _ (by decide) (hnb _ _ _ hI.r5), hb3 _ _ _ (by decide) (hnb _ _ _ hI.r6), ((hn4.notag hk5 ((NoGr.row hrow5 (by decide)).cons (NoGr.map hmap5)) hmb).notag (KeepX.of hf6) NoGr.nil (by simp)), hlm5.mono (KeepX.of hf6) (by simp) (by simp), ?_, ?_, hI.ne, hI.ge⟩ hfok .nil (by simp only; omega) ⟨rfl, rfl, rfl, rfl, rfl, rfl, rfl, trivial⟩
        · refine TBI.push hk (hI.tb.mono (fun b cs h => hb3 b cs _ (by decide) (hnb _ _ _ h)) fun p hp => List.mem_append_left _ hp) (hnf.mono (fun b cs h => hb3 b cs _ (by decide) h) fun p hp => hp)
        · have := hI.len
          have h60 : j ≤ 60 := by rw [hLl]; exact lnsOf_le hwl.2.1
          simp; omega
    · have hlen0 : x.locs[k].lines ≠ [] := fun h => h43 (by rw [h]; rfl)
      refine cj_skip (ej_then (hK11 _ _ _ ?_)); clear hK11
      refine CJ.sub (e' := [(1, _), (5, _), (6, _), (7, _), (9, _), (10, _), (31, _), (32, _), (33, _)]) ⟨rfl, rfl, rfl, rfl, rfl, rfl, rfl, rfl, rfl, trivial⟩ ?_
      refine cj_seqF fun K20 hK20 => ?_
      refine cj_reg ?_
      refine j_val rfl (fun a w ha => r_move rfl ha) ?_
      refine j_val rfl (fun a w ha => r_len Try.runUnderlying122 rfl ha) ?_
      first
      | refine j_make (l := 1) Try.runUnderlying68 el71 rfl rfl rfl (Nat.le_refl _) (by omega) rfl fun b48 cs48 hcs48 _ => ?_
      | refine j_make (l := x.locs[k].lines.length) Try.runUnderlying68 el71 rfl rfl rfl (Nat.le_refl _) (by omega) rfl fun b48 cs48 hcs48 _ => ?_
      refine j_val rfl (fun a w ha => r_assign rfl ha) ?_
      refine j_nil ?_
      refine ej_then (hK20 _ _ _ ?_); clear hK20
      refine CJ.sub (e' := [(1, _), (5, _), (6, _), (7, _), (9, _), (10, _), (11, _), (31, _), (32, _), (33, _)]) ⟨rfl, rfl, rfl, rfl, rfl, rfl, rfl, rfl, rfl, rfl, trivial⟩ ?_
      refine cj_seqF fun K21 hK21 => ?_
      refine cj_seqF fun K22 hK22 => ?_
      refine cj_reg ?_
      refine j_val rfl (fun a w ha => r_move rfl ha) ?_
      refine j_val rfl (fun a w ha => r_len Try.runUnderlying122 rfl ha) ?_
      refine j_val rfl (fun a w ha => r_move rfl ha) ?_
      refine j_nil ?_
      refine ej_then (hK22 _ _ _ ?_); clear hK22
      refine CJ.sub (e' := [(1, _), (5, _), (6, _), (7, _), (9, _), (10, _), (11, _), (31, _), (32, _), (33, _), (50, _), (51, _)]) ⟨rfl, rfl, rfl, rfl, rfl, rfl, rfl, rfl, rfl, rfl, rfl, rfl, trivial⟩ ?_
      refine cj_block ?_
      -- LOOP 1 live [1, 5, 6, 7, 9, 10, 11, 31, 32, 33, 50, 51]
      intro w2 hH2 hf2
      have hst : ∀ (L : Nat) pl cl, L = (lnsOf x.locs[k]).length → Blk w2 b48 pNode cs48 → cs48.length = L * 1 → OS tLine 3 w2 (.slice pl L cl) ((lnsOf x.locs[k]).flatMap (cLine g.funs)) → LI w.heap.size b48 x x.locs[k] g.funs b27 ns w1 w2 0 ns [] pl cl L := fun L pl cl h1 h2 h3 h4 =>
        ⟨Nat.zero_le _, h1, (KeepX.of hf2).drop (by simp), hI.nm.notag (KeepX.of hf2) NoGr.nil (by simp), ⟨[], by simp, by simp⟩, ⟨cs48, h2, by omega, by simp⟩, rfl, by simp, h4⟩
      have hb48 : w1.heap.size ≤ b48 := hH2.freshX (i := 0) rfl rfl rfl
      have hr48 : Blk w2 b48 pNode cs48 := hH2.get (i := 0) rfl rfl
      refine c_loop (σ := Nat × List (NI × Nat) × List Nat × Option Addr × Nat × Nat) (fun s => [(1, ptr bo), (5, ptr b5), (6, ptr b6), (7, .map (some b27)), (9, ptr g.locs[k]), (10, .slice s.2.2.2.1 s.2.2.2.2.2 s.2.2.2.2.1), (11, .slice (some ⟨b48, 0, none⟩) s.2.2.2.2.2 s.2.2.2.2.2), (31, .slice (some ⟨bq, 0, none⟩) x.locs.length clo), (32, .int .i64 (x.locs.length : Nat)), (33, .int .i64 (k : Nat)), (50, .int .i64 (s.2.2.2.2.2 : Nat)), (51, .int .i64 (s.1 : Nat))])
        (fun s w' => LI w.heap.size b48 x x.locs[k] g.funs b27 ns w1 w' s.1 s.2.1 s.2.2.1 s.2.2.2.1 s.2.2.2.2.1 s.2.2.2.2.2) (fun s => s.2.2.2.2.2 - s.1) (0, ns, [], _, _, _) ⟨rfl, rfl, rfl, rfl, rfl, rfl, rfl, rfl, rfl, rfl, rfl, rfl, trivial⟩ ?_ ?_
      · first
          | exact hst 1 _ _ (by rw [lnsOf, if_pos hlen0]; rfl) hr48 hcs48 ⟨⟨b45, tLine, cLine g.funs ⟨-1, 0⟩, true, true, none⟩, _, _, _, rfl, ⟨rfl, rfl, rfl, by rw [lnsOf, if_pos hlen0]; rfl, Nat.le_refl _, .inl ⟨rfl, rfl, ⟨[], by rw [lnsOf, if_pos hlen0]; simp⟩, rfl⟩⟩, fun _ => hH2.get (i := 1) rfl rfl⟩
          | exact hst _ _ _ (by rw [lnsOf, if_neg hlen0]) hr48 hcs48 (by rw [lnsOf, if_neg hlen0]; exact hlines.mono fun b cs h => hf2.blk (hK1.blk h) (.inr (by simp)))
      rintro ⟨j, ns2, bs, pl, cl, L⟩ w3 hL KL2 hKL2
      have hL : LI w.heap.size b48 x x.locs[k] g.funs b27 ns w1 w3 j ns2 bs pl cl L := hL
      have hjL := hL.le
      have hKw3 : Keep w w3 := KeepX.keep' hK1 hL.k (by simp; exact hI.ge.2.2.2.2)
      refine C.begin ⟨w3, 0, []⟩ [] ok_refl .nil ?_
      refine CJ.sub (e' := [(1, ptr bo), (5, ptr b5), (6, ptr b6), (7, .map (some b27)), (9, ptr g.locs[k]), (10, .slice pl L cl), (11, .slice (some ⟨b48, 0, none⟩) L L), (31, .slice (some ⟨bq, 0, none⟩) x.locs.length clo), (32, .int .i64 (x.locs.length : Nat)), (33, .int .i64 (k : Nat)), (50, .int .i64 (L : Nat)), (51, .int .i64 (j : Nat))]) ⟨rfl, rfl, rfl, rfl, rfl, rfl, rfl, rfl, rfl, rfl, rfl, rfl, trivial⟩ ?_
      refine cj_seqF fun K23 hK23 => ?_
      refine cj_reg ?_
      refine j_val rfl (fun a w ha => r_lss rfl rfl ha) ?_
      refine j_nil ?_
      refine ej_then (hK23 _ _ _ ?_); clear hK23
      refine CJ.sub (e' := [(1, _), (5, _), (6, _), (7, _), (9, _), (10, _), (11, _), (31, _), (32, _), (33, _), (50, _), (51, _), (52, _)]) ⟨rfl, rfl, rfl, rfl, rfl, rfl, rfl, rfl, rfl, rfl, rfl, rfl, rfl, trivial⟩ ?_
      refine cj_seqF fun K24 hK24 => ?_
      refine cj_dec rfl (fun h52 => ?_) (fun h52 => ?_)
      · have hj : j < L := by omega
        have hLl := hL.hL
        have hL60 : L ≤ 60 := by rw [hLl]; exact lnsOf_le hwl.2.1
        have hjl : j < (lnsOf x.locs[k]).length := by omega
        obtain ⟨p0, l0, c0, he0, -, -, hlx⟩ := hL.os.openF
        injection he0 with e1 e2 e3
        subst e1; subst e2; subst e3
        obtain ⟨bln, rfl, hlnc⟩ := hlx (by omega)
        have hlm2 : (lnsOf x.locs[k])[j] ∈ lnsOf x.locs[k] := List.getElem_mem hjl
        obtain ⟨pf, hpf, hLI⟩ := lineI_of hG hx hlm hlm2
        have hcell2 : ∀ w', Fm.ok ⟨w3, 0, []⟩ w' → ∀ (i : Nat) (u : Value), [.pointer pf, .int .i64 (lnsOf x.locs[k])[j].line, .int .u64 0][i]? = some u → w'.cell? ⟨bln, 0 + j * 3 + i, none⟩ = some u := fun w' kp i u hu => by
          refine hlnc ⟨w3, 0, []⟩ rfl rfl w' kp _ u ?_
          rw [Nat.zero_add]
          exact flatMap_get (cLine_len g.funs) (List.getElem?_eq_getElem hjl) i u (by rw [cLine, hpf]; exact hu)
        obtain ⟨cs, hcs, hcsl, hcst⟩ := hL.row
        obtain ⟨ex0, rfl, hex0⟩ := hL.ex
        refine cj_skip (ej_then (hK24 _ _ _ ?_)); clear hK24
        refine CJ.sub (e' := [(1, _), (5, _), (6, _), (7, _), (9, _), (10, _), (11, _), (31, _), (32, _), (33, _), (50, _), (51, _)]) ⟨rfl, rfl, rfl, rfl, rfl, rfl, rfl, rfl, rfl, rfl, rfl, rfl, trivial⟩ ?_
        refine cj_seqF fun K25 hK25 => ?_
        refine cj_block ?_
        refine cj_seqF fun K26 hK26 => ?_
        refine cj_reg ?_
        refine j_val rfl (fun a w ha => r_move rfl ha) ?_
        refine j_val rfl (fun a w ha => r_assign rfl ha) ?_
        refine j_nil ?_
        refine ej_then (hK26 _ _ _ ?_); clear hK26
        refine CJ.sub (e' := [(1, _), (5, _), (6, _), (7, _), (9, _), (10, _), (11, _), (12, _), (31, _), (32, _), (33, _), (50, _), (51, _)]) ⟨rfl, rfl, rfl, rfl, rfl, rfl, rfl, rfl, rfl, rfl, rfl, rfl, rfl, trivial⟩ ?_
        refine cj_reg ?_
        refine j_val rfl (fun a w ha => r_move rfl ha) ?_
        refine j_val rfl (fun a w ha => r_move rfl ha) ?_
        refine j_val rfl (fun a w ha => r_move rfl ha) ?_
        refine j_val rfl (fun a w ha => r_move rfl ha) ?_
        refine j_val rfl (fun a w ha => r_move rfl ha) ?_
        refine j_val rfl (fun a w ha => r_move rfl ha) ?_
        refine j_val rfl (fun a w ha => r_idx Try.runUnderlying122 Try.sizeOf138 rfl rfl (by omega) ha) ?_
        refine j_valw rfl (fun a w ha hH hf => r_loadA Try.isAgg138 Try.sizeOf138 rfl rfl (hcell2 w (hf)) ha) ?_
        refine j_val rfl (fun a w ha => r_move rfl ha) ?_
        refine j_callE (R := fun w4 v w5 => ∃ b ns' ex, v = ptr b ∧ NM w.heap.size w5 b27 ns' ∧ (niOf x.funcs x.locs[k] (lnsOf x.locs[k])[j], b) ∈ ns' ∧ ns' = (ns ++ ex0) ++ ex ∧ ex.length ≤ 2 ∧ KeepX [b27] w4 w5) Try.call38 rfl rfl (fun w4 hH4 hf4 => by
            have hKw4 : Keep w w4 := hKw3.trans (hf4.keepAll (.inr rfl))
            refine foil_c w.heap.size w4 b27 (ns ++ ex0) g.locs[k] bo g.maps x.locs[k] _ fv _ pf (lnsOf x.locs[k])[j].line 0 _ (hL.nm.notag (KeepX.of hf4) NoGr.nil (by simp)) (hKw4.blk hbl) rfl ?_ (hLI.mono hKw4) (hKw4.blk ho)
            by_cases h0 : 0 ≤ x.locs[k].mapping
            · have h1 : x.locs[k].mapping.toNat < x.mappings.length := by have := hwl.1.2; omega
              have h2 : x.locs[k].mapping.toNat < g.maps.length := by rw [hG.maps.1]; exact h1
              exact .inr ⟨g.maps[x.locs[k].mapping.toNat], x.mappings[x.locs[k].mapping.toNat], by simp [h0, h2], hKw4.blk (hG.maps.2 _ _ _ (List.getElem?_eq_getElem h2) (List.getElem?_eq_getElem h1))⟩
            · exact .inl (by simp [h0])) fun w4 v w5 hH4 hf4 hR => ?_
        obtain ⟨b, ns5, ex5, rfl, hn5, hb5, rfl, hex5, hk5⟩ := hR
        have hb27 : b48 ≠ b27 := fun h => by
          obtain ⟨es, ck, hm, -⟩ := hL.nm.map
          rw [← h] at hm
          exact map_noBlk hm _ _ hcs
        have hcs5 : Blk w5 b48 pNode cs := hk5.blk (hf4.blk hcs (.inr (by simp))) (by simpa using hb27)
        refine J.begin ⟨w5, 0, [pNode]⟩ _ ok_refl (Hp.one hcs5 (Nat.zero_le _) rfl) ?_
        refine j_val rfl (fun a w ha => r_idx Try.runUnderlying68 Try.sizeOf71 rfl rfl (by omega) ha) ?_
        refine j_store 0 rfl rfl rfl rfl Try.sizeOf71 rfl rfl rfl rfl (by show Nat.ble (0 + j * 1 + 1) cs.length = true; simp; omega) ?_
        refine j_nil ?_
        refine ej_blk (ej_then (hK25 _ _ _ ?_)); clear hK25
        refine CJ.sub (e' := [(1, _), (5, _), (6, _), (7, _), (9, _), (10, _), (11, _), (31, _), (32, _), (33, _), (50, _), (51, _)]) ⟨rfl, rfl, rfl, rfl, rfl, rfl, rfl, rfl, rfl, rfl, rfl, rfl, trivial⟩ ?_
        refine cj_reg ?_
        refine j_val rfl (fun a w ha => r_inc (by omega) rfl rfl ha) ?_
        refine j_val rfl (fun a w ha => r_move rfl ha) ?_
        refine j_nil ?_
        refine ej_then ?_
        intro w6 hH6 hf6
        have hr6 : Blk w6 b48 pNode (cs.set (0 + j * 1) (ptr b)) := hH6.get (i := 0) rfl rfl
        rw [Nat.zero_add, Nat.mul_one] at hr6
        have hk6 : KeepX [b48] w5 w6 := Hp.keepX hH6.2.2.2 hf6
        have hng : NoGr [b48] w5 := NoGr.row hcs5 (by decide)
        refine hKL2 (j + 1, ns ++ ex0 ++ ex5, bs ++ [b], _, cl, L) _ w6 ⟨hj, hLl, ?_, hn5.notag hk6 hng (by simpa using hb27.symm), ⟨ex0 ++ ex5, by simp, by simp; omega⟩, ⟨_, hr6, by simpa using hcsl, ?_⟩, by simp [hL.bl], ?_, ?_⟩ (by simp only; omega) ⟨rfl, rfl, rfl, rfl, rfl, rfl, rfl, rfl, rfl, rfl, rfl, rfl, trivial⟩
        · refine ((((hL.k).trans (KeepX.of hf4)).trans hk5).trans hk6).drop fun c hc => ?_
          simp at hc
          rcases hc with rfl | rfl
          · exact .inl (by simp)
          · exact .inr hb48
        · rw [take_set_step (by omega), hcst]; simp
        · intro q b' i hb' hi
          by_cases hq : q < j
          · rw [List.getElem?_append_left (by rw [hL.bl]; exact hq)] at hb'
            exact List.mem_append_left _ (hL.ok q b' i hb' hi)
          · have hlt := (List.getElem?_eq_some_iff.1 hb').1
            have hqj : q = j := by simp [hL.bl] at hlt; omega
            subst hqj
            rw [List.getElem?_append_right (by rw [hL.bl]; exact Nat.le_refl _), hL.bl] at hb'
            simp at hb'
            subst hb'
            rw [infos, List.getElem?_map, List.getElem?_eq_getElem hjl] at hi
            cases hi
            exact hb5
        · exact hL.os.mono fun b0 cs0 h0 => hk6.blk (hk5.blk (hf4.blk h0 (.inr (by simp))) (by simp; rintro rfl; obtain ⟨es, ck, hm, -⟩ := hL.nm.map; exact map_noBlk hm _ _ h0)) (by simp; rintro rfl; exact absurd (Blk.tag_ne h0 hcs) (by decide))
      · have hjL2 : j = L := by omega
        subst hjL2
        have hLl := hL.hL
        obtain ⟨cs, hcs, hcsl, hcst⟩ := hL.row
        obtain ⟨ex0, rfl, hex0⟩ := hL.ex
        rw [List.take_of_length_le (by omega)] at hcst
        subst hcst
        have hcl3 := mc (f := ⟨w3, 0, []⟩) (hKw3.blk hbl) rfl
        have hnb : ∀ b cs T, Blk w1 b T cs → Blk w3 b T cs := fun b cs T h => hL.k.blk h (by simp; rintro rfl; obtain ⟨es, ck, hm, -⟩ := hI.nm.map; exact map_noBlk hm _ _ h)
        have hnf : NodesFor w3 (.slice (some ⟨b48, 0, none⟩) j j) (ns ++ ex0) (infos x.funcs x.locs[k]) := ⟨bs, by have := osFull hcs; rwa [hL.bl] at this, by rw [hL.bl, hLl, infos_len], fun q b i h1 h2 => hL.ok q b i h1 h2⟩
        have hlm3 : LM w3 b19 b20 (x.locs.length + 1) tb := hI.lm.mono hL.k (by simp; rintro rfl; obtain ⟨c, h⟩ := hI.lm.row'; obtain ⟨es, ck, hm, -⟩ := hI.nm.map; exact map_noBlk hm _ _ h) (by simpa using hI.ne.2.symm)
        have hids : tb.map (·.1) = (x.locs.take k).map (·.id) := hI.tb.1
        have hnew : x.locs[k].id ∉ tb.map (·.1) := by
          rw [hids]
          intro hm
          obtain ⟨l, hl, he⟩ := List.mem_map.1 hm
          obtain ⟨i, hi⟩ := List.mem_iff_getElem?.1 hl
          have hil := (List.getElem?_eq_some_iff.1 hi).1
          have hil : i < k ∧ i < x.locs.length := by simp at hil; omega
          rw [List.getElem?_take, if_pos hil.1, List.getElem?_eq_getElem hil.2] at hi
          cases hi
          have := (List.getElem_inj (xs := x.locs.map (·.id)) (i := i) (j := k) (h₀ := by simp; omega) (h₁ := by simp; omega) hx.tab.l.2.1).1 (by simpa using he)
          omega
        have hidt : ∀ q ∈ tb, 0 ≤ q.1 := fun q hq => by
          have : q.1 ∈ tb.map (·.1) := List.mem_map.2 ⟨q, hq, rfl⟩
          rw [hids] at this
          obtain ⟨l, hl, he⟩ := List.mem_map.1 this
          rw [← he]; exact hid l (List.mem_of_mem_take hl)
        refine cj_exit (ej_then_exit (ej_then_exit (ej_blk_hit (ej_then (hK21 _ _ _ ?_))))); clear hK21
        refine CJ.sub (e' := [(1, _), (5, _), (6, _), (7, _), (9, _), (11, _), (31, _), (32, _), (33, _)]) ⟨rfl, rfl, rfl, rfl, rfl, rfl, rfl, rfl, rfl, trivial⟩ ?_
        refine cj_reg ?_
        refine j_val rfl (fun a w ha => r_move rfl ha) ?_
        refine j_val rfl (fun a w ha => r_nil rfl ha) ?_
        refine j_val rfl (fun a w ha => r_fl (q := 0) (ft := 53) Try.runUnderlying124 rfl Try.sizeOf53 rfl ha) ?_
        refine j_valw rfl (fun a w ha hH hf => r_load Try.isAgg53 rfl (hcl3 w (hf) 0 _ rfl) ha) ?_
        refine j_val rfl (fun a w ha => r_move rfl ha) ?_
        refine j_callE (R := fun w4 _ w5 => LM w5 b19 b20 (x.locs.length + 1) (tb ++ [(x.locs[k].id, .slice (some ⟨b48, 0, none⟩) j j)]) ∧ KeepX [b19, b20] w4 w5) Try.call39 rfl rfl (fun w4 hH4 hf4 => lmAdd_c w.heap.size w4 b6 b19 b20 (x.locs.length + 1) tb x.locs[k].id _ j j (hlm3.mono (KeepX.of hf4) (by simp) (by simp)) (by omega) (hid _ hlm) hnew hidt (hf4.blk (hnb _ _ _ hI.r6) (.inr (by simp))) hI.ge.2.2.1 hI.ge.2.2.2.1) fun w4 v w5 hH4 hf4 hR => ?_
        obtain ⟨hlm5, hk5⟩ := hR
        refine J.begin ⟨w5, 0, []⟩ [] ok_refl .nil ?_
        refine j_nil ?_
        refine ej_blk (ej_then (hK8 _ _ _ ?_)); clear hK8
        refine CJ.sub (e' := [(1, _), (5, _), (6, _), (7, _), (31, _), (32, _), (33, _)]) ⟨rfl, rfl, rfl, rfl, rfl, rfl, rfl, trivial⟩ ?_
        refine cj_reg ?_
        refine j_val rfl (fun a w ha => r_inc (by omega) rfl rfl ha) ?_
        refine j_val rfl (fun a w ha => r_move rfl ha) ?_
        refine j_nil ?_
        refine ej_then ?_
        intro w6 hH6 hf6
        have hrow5 : ∃ cs, Blk w4 b19 tNodes cs := (hlm3.mono (KeepX.of hf4) (l := []) (by simp) (by simp)).row'
        have hmap5 : ∃ es ck, w4.heap[b20]? = some (.map es ck) := (hlm3.mono (KeepX.of hf4) (l := []) (by simp) (by simp)).map'
        obtain ⟨cr, hrow5⟩ := hrow5
        obtain ⟨es5, ck5, hmap5⟩ := hmap5
        have hn4 : NM w.heap.size w4 b27 (ns ++ ex0) := hL.nm.notag (KeepX.of hf4) NoGr.nil (by simp)
        have hmb : b27 ∉ [b19, b20] := by
          simp only [List.mem_cons, List.not_mem_nil, or_false, not_or]
          exact ⟨by rintro rfl; obtain ⟨es, ck, hm, -⟩ := hn4.map; exact map_noBlk hm _ _ hrow5, hI.ne.2⟩
        have hb : ∀ b cs T, T ≠ tNodes → Blk w4 b T cs → Blk w6 b T cs := fun b cs T hT h => hf6.blk (hk5.blk h (by
          simp only [List.mem_cons, List.not_mem_nil, or_false, not_or]
          exact ⟨by rintro rfl; exact hT (Blk.tag_ne h hrow5), by rintro rfl; exact map_noBlk hmap5 _ _ h⟩)) (.inr (by simp))
        have hb3 : ∀ b cs T, T ≠ tNodes → Blk w3 b T cs → Blk w6 b T cs := fun b cs T hT h => hb b cs T hT (hf4.blk h (.inr (by simp)))
        have hfok : Fm.ok ⟨w, 0, []⟩ w6 := okX hf1 ((((hL.k).trans (KeepX.of hf4)).trans hk5).trans (KeepX.of hf6)) (by
          simp
          exact ⟨hI.ge.2.2.2.2, hI.ge.2.2.1, hI.ge.2.2.2.1⟩)
        refine hKL (k + 1, ns ++ ex0, tb ++ [(x.locs[k].id, .slice (some ⟨b48, 0, none⟩) j j)]) _ w6 ⟨hk, hb3 _ _ _ (by decide) (hnb _ _ _ hI.r5), hb3 _ _ _ (by decide) (hnb _ _ _ hI.r6), ((hn4.notag hk5 ((NoGr.row hrow5 (by decide)).cons (NoGr.map hmap5)) hmb).notag (KeepX.of hf6) NoGr.nil (by simp)), hlm5.mono (KeepX.of hf6) (by simp) (by simp), ?_, ?_, hI.ne, hI.ge⟩ hfok .nil (by simp only; omega) ⟨rfl, rfl, rfl, rfl, rfl, rfl, rfl, trivial⟩
        · refine TBI.push hk (hI.tb.mono (fun b cs h => hb3 b cs _ (by decide) (hnb _ _ _ h)) fun p hp => List.mem_append_left _ hp) (hnf.mono (fun b cs h => hb3 b cs _ (by decide) h) fun p hp => hp)
        · have := hI.len
          have h60 : j ≤ 60 := by rw [hLl]; exact lnsOf_le hwl.2.1
          simp; omega
  · have hke : k = x.locs.length := by omega
    subst hke
    intro w9 hH9 hf9
    have hr5 : Blk w9 b5 tLM tLMz := hf9.blk hI.r5 (.inr (by simp))
    have hr6 : Blk w9 b6 tLM [.slice (some ⟨b19, 0, none⟩) (x.locs.length + 1) (x.locs.length + 1), .map (some b20)] := hf9.blk hI.r6 (.inr (by simp))
    have hn9 : NM w.heap.size w9 b27 ns := hI.nm.notag (KeepX.of hf9) NoGr.nil (by simp)
    have hlen9 := hI.len
    refine C.begin ⟨w9, w.heap.size, [tLM]⟩ [⟨b5, tLM, tLMz, true, true, none⟩, ⟨b6, tLM, [.slice (some ⟨b19, 0, none⟩) (x.locs.length + 1) (x.locs.length + 1), .map (some b20)], false, true, none⟩] ok_refl ((Hp.nil.add hr6 (fun h => by cases h) (by simp)).add hr5 (fun _ => .inr ⟨hI.ge.1, by simp⟩) (by simp; exact fun _ => hI.ne.1.symm)) ?_
    refine cj_exit (ej_then_exit (ej_then_exit (ej_blk_hit (ej_then (hK4 _ _ _ ?_))))); clear hK4
    refine CJ.sub (e' := [(5, _), (6, _), (7, _)]) ⟨rfl, rfl, rfl, trivial⟩ ?_
    refine cj_seqF fun K27 hK27 => ?_
    refine cj_drawI 5 [(0, true), (2, true), (1, false), (3, true), (4, false)] [1] rfl (by kernel_rfl) (by kernel_rfl) ?_
    refine dj_val rfl rfl (sub_of [1] rfl) (fun a w ha => r_move rfl ha) ?_
    refine dj_ld rfl rfl (sub_of [1] rfl) (fun a w ha hS => r_ldSA (vs := [_, _]) 0 rfl rfl Try.isAgg100 Try.sizeOf100 rfl rfl rfl ha hS) ?_
    refine dj_eff rfl fun K2 hK2 => ?_
    refine j_callS (T := pNode) (sz := 1) (φ := fun xs => ∃ bs : List Nat, xs = bs.map ptr ∧ bs.Nodup ∧ ∀ b, b ∈ bs ↔ b ∈ ns.map (·.2)) Try.call40 rfl rfl (fun w' hH hf => (nodes_c w.heap.size w' b27 ns (hn9.k3 (KG.fr hf rfl) (fr_map hf rfl)) (by omega)).mono (Ret.mono fun v w'' ⟨⟨bs, h1, h2, h3⟩, h4⟩ => ⟨⟨_, h1, bs, rfl, h2, h3⟩, h4⟩)) ?_
    rintro y74 p74 l74 c74 _ hO74 ⟨bs, rfl, hnd74, hmem74⟩
    refine j_nil (ej_then (hK2 _ _ (.inr (sub_of [2] rfl)) ?_)); clear hK2 K2
    refine dj_val rfl rfl (sub_of [2] rfl) (fun a w ha => r_assign rfl ha) ?_
    refine dj_eff rfl fun K2 hK2 => ?_
    refine j_storeN (cs' := [_, _]) (H' := [_, _, _]) 1 rfl rfl rfl rfl Try.sizeOf100 rfl rfl rfl rfl rfl rfl rfl ?_
    refine j_nil (ej_then (hK2 _ _ (.inr (sub_of [2] rfl)) ?_)); clear hK2 K2
    refine dj_end ?_
    refine ej_then (hK27 _ _ _ ?_); clear hK27
    refine CJ.sub (e' := [(4, _), (5, _)]) ⟨rfl, rfl, trivial⟩ ?_
    refine cj_ret (?_)
    exact ej_retC Try.results27 Try.isAgg100 Try.sizeOf100 rfl rfl rfl (fun w' hH hf => ⟨tLM, hH.get (i := 1) rfl rfl⟩) fun w' hH hf => by
      refine ⟨⟨_, b19, b20, b27, tb, ns, bs, rfl, hI.lm.of (fun cs h => fr_row hf rfl _ _ (hf9.blk h (.inr (by simp)))) (fun es ck h => fr_map hf rfl _ _ (fr_map hf9 rfl _ _ h)), hI.tb.mono (fun b cs h => fr_row hf rfl _ _ (hf9.blk h (.inr (by simp)))) (fun p hp => hp), hO74.os (i := 0) hH rfl, hnd74, hmem74, hn9.k3 (KG.fr hf rfl) (fr_map hf rfl), by omega, hI.ge.2.2.1, hI.ge.2.2.2.1⟩, ?_⟩
      have hq : Fr 0 [] w w9 := Fr.trans hf1 hf9 (.inr ⟨Nat.le_refl _, fun _ h => h⟩)
      exact Fr.trans hq hf (.inl (Nat.le_refl _))
end Go.Proofs.Ytgjpegehmbebpaa
