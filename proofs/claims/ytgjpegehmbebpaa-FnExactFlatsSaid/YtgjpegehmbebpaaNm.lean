/-
  The graph's nodes by their infos. Conditions: as each lemma states them.
-/
import Derived.Test.YtgjpegehmbebpaaKey
namespace Go.Proofs.Ytgjpegehmbebpaa
open Go Go.Fw Go.Proofs
def cNI (i : NI) : List Value := [.string i.name, .int .u64 i.addr, .int .i64 i.start, .int .i64 i.line]
theorem blk_cells {w : World} {b T : Nat} {cs : List Value} (h : Blk w b T cs) : ∀ w', Keep w w' → ∀ (j : Nat) (u : Value), cs[j]? = some u → w'.cell? ⟨b, 0 + j, none⟩ = some u := fun w' k j u hj => k.cell (by rw [h.cell, Nat.zero_add]; exact hj)
theorem mset_new' {κ : Type} [DecidableEq κ] : ∀ {ms : List (κ × Value)} {k : κ} {v : Value}, k ∉ ms.map (·.1) → mset ms k v = ms ++ [(k, v)]
  | [], _, _, _ => rfl
  | (k', u) :: r, k, v, h => by
    simp only [List.map_cons, List.mem_cons, not_or] at h
    simp only [mset, if_neg h.1, mset_new' h.2, List.cons_append]
theorem nodeInfo_c (w : World) (bl : Nat) (maps : List Nat) (l : PLoc) (ls : Value) (p : Option Addr) (ln z : Int) (obj o : Value) (i : NI) (hl : Blk w bl tLoc (cLoc maps l ls))
    (hi : (p = none ∧ i = ⟨⟨#[]⟩, l.addr, 0, 0⟩) ∨ ∃ bf f, p = some ⟨bf, 0, none⟩ ∧ Blk w bf tFun (cFun f) ∧ i = ⟨f.name, l.addr, f.start, ln⟩) :
    Calls Try.prog 47 #[ptr bl, .agg #[.pointer p, .int .i64 ln, .int .u64 z], obj, o] w (Ret fun v w' => ∃ q, v = .pointer (some ⟨q, 0, none⟩) ∧ Blk w' q tNI (cNI i) ∧ w.heap.size ≤ q ∧ Fr 0 [] w w') := by
  have hcl := blk_cells hl
  refine startJ (args := [_, _, _, _]) [(0, _), (1, _), (2, _), (3, _)] 0 [] [] Try.func47 rfl Try.ntmps47 rfl rfl .nil ?_
  refine cj_seqF fun K1 hK1 => ?_
  refine cj_reg ?_
  refine j_boxA (vs := [_, _, _]) rfl rfl fun b5 => ?_
  refine j_val rfl (fun a w ha => r_assign rfl ha) ?_
  refine j_nil ?_
  refine ej_then (hK1 _ _ _ ?_); clear hK1
  refine CJ.sub (e' := [(0, _), (5, _)]) ⟨rfl, rfl, trivial⟩ ?_
  refine cj_seqF fun K2 hK2 => ?_
  refine cj_seqF fun K3 hK3 => ?_
  refine cj_reg ?_
  refine j_val rfl (fun a w ha => r_fl (q := 0) (ft := 134) Try.runUnderlying138 rfl Try.sizeOf134 rfl ha) ?_
  refine j_valw rfl (fun a w ha hH hf => r_ldH 0 rfl rfl Try.isAgg134 rfl rfl ha hH) ?_
  refine j_val rfl (fun a w ha => r_pneql Try.underlying134 rfl ha) ?_
  refine j_nil ?_
  refine ej_then (hK3 _ _ _ ?_); clear hK3
  refine CJ.sub (e' := [(0, _), (5, _), (12, _)]) ⟨rfl, rfl, rfl, trivial⟩ ?_
  refine cj_if rfl (fun h12 => ?_) (fun h12 => ?_)
  · obtain ⟨rfl, rfl⟩ : p = none ∧ i = ⟨⟨#[]⟩, l.addr, 0, 0⟩ := by
      rcases hi with h | ⟨_, _, rfl, -⟩
      · exact h
      · cases h12
    refine cj_seqF fun K4 hK4 => ?_
    refine cj_reg ?_
    refine j_val rfl (fun a w ha => r_move rfl ha) ?_
    refine j_val rfl (fun a w ha => r_nil rfl ha) ?_
    refine j_val rfl (fun a w ha => r_fl (q := 2) (ft := 53) Try.runUnderlying124 rfl Try.sizeOf53 rfl ha) ?_
    refine j_valw rfl (fun a w ha hH hf => r_load Try.isAgg53 rfl (hcl w (hf.keepAll (.inr rfl)) 2 _ rfl) ha) ?_
    refine j_val rfl (fun a w ha => r_build (cs := [(.string ⟨#[]⟩), _, (.int .i64 0), (.int .i64 0)]) bt73 rfl rfl ha) ?_
    refine j_boxA (vs := [_, _, _, _]) rfl rfl fun b18 => ?_
    refine j_val rfl (fun a w ha => r_assign rfl ha) ?_
    refine j_nil ?_
    refine ej_then (hK4 _ _ _ ?_); clear hK4
    refine CJ.sub (e' := [(8, _)]) ⟨rfl, trivial⟩ ?_
    refine cj_ret (ej_then_ret (?_))
    first | exact ej_ret1 Try.results47 rfl fun w' hH hf => ⟨_, rfl, hH.get (i := 0) rfl rfl, hH.fresh (i := 0) rfl rfl rfl, hf⟩
  · obtain ⟨bf, f, rfl, hbf, rfl⟩ : ∃ bf f, p = some ⟨bf, 0, none⟩ ∧ Blk w bf tFun (cFun f) ∧ i = ⟨f.name, l.addr, f.start, ln⟩ := by
      rcases hi with ⟨rfl, -⟩ | h
      · cases h12
      · exact h
    have hcf := blk_cells hbf
    refine cj_skip (ej_then (hK2 _ _ _ ?_)); clear hK2
    refine CJ.sub (e' := [(0, _), (5, _)]) ⟨rfl, rfl, trivial⟩ ?_
    refine cj_seqF fun K5 hK5 => ?_
    refine cj_drawI 14 [(0, true), (1, true), (2, true), (3, true), (4, true), (5, true), (6, true), (7, true), (8, true), (9, true), (10, true), (11, true), (12, false), (13, true)] [0] rfl (by kernel_rfl) (by kernel_rfl) ?_
    refine dj_val rfl rfl (sub_of [0] rfl) (fun a w ha => r_move rfl ha) ?_
    refine dj_val rfl rfl (sub_of [0] rfl) (fun a w ha => r_nil rfl ha) ?_
    refine dj_val rfl rfl (sub_of [0] rfl) (fun a w ha => r_fl (q := 2) (ft := 53) Try.runUnderlying124 rfl Try.sizeOf53 rfl ha) ?_
    refine dj_ld rfl rfl (sub_of [0] rfl) (fun a w ha hS => r_load Try.isAgg53 rfl (hcl w (hS.2.keepAll (.inr rfl)) 2 _ rfl) ha) ?_
    refine dj_val rfl rfl (sub_of [0] rfl) (fun a w ha => r_fl (q := 1) (ft := 2) Try.runUnderlying138 rfl Try.sizeOf2 rfl ha) ?_
    refine dj_ld rfl rfl (sub_of [0] rfl) (fun a w ha hS => r_ldS 0 rfl rfl Try.isAgg2 rfl rfl ha hS) ?_
    refine dj_val rfl rfl (sub_of [0] rfl) (fun a w ha => r_fl (q := 0) (ft := 134) Try.runUnderlying138 rfl Try.sizeOf134 rfl ha) ?_
    refine dj_ld rfl rfl (sub_of [0] rfl) (fun a w ha hS => r_ldS 0 rfl rfl Try.isAgg134 rfl rfl ha hS) ?_
    refine dj_val rfl rfl (sub_of [0] rfl) (fun a w ha => r_nil rfl ha) ?_
    refine dj_val rfl rfl (sub_of [0] rfl) (fun a w ha => r_fl (q := 1) (ft := 9) Try.runUnderlying136 rfl Try.sizeOf9 rfl ha) ?_
    refine dj_ld rfl rfl (sub_of [0] rfl) (fun a w ha hS => r_load Try.isAgg9 rfl (hcf w (hS.2.keepAll (.inr rfl)) 1 _ rfl) ha) ?_
    refine dj_val rfl rfl (sub_of [0] rfl) (fun a w ha => r_build (cs := [_, _, (.int .i64 0), _]) bt73 rfl rfl ha) ?_
    refine dj_eff rfl fun K2 hK2 => ?_
    refine j_boxA (vs := [_, _, _, _]) rfl rfl fun b31 => ?_
    refine j_nil (ej_then (hK2 _ _ (.inr (sub_of [1] rfl)) ?_)); clear hK2 K2
    refine dj_val rfl rfl (sub_of [1] rfl) (fun a w ha => r_assign rfl ha) ?_
    refine dj_end ?_
    refine ej_then (hK5 _ _ _ ?_); clear hK5
    refine CJ.sub (e' := [(5, _), (9, _)]) ⟨rfl, rfl, trivial⟩ ?_
    refine cj_seqF fun K6 hK6 => ?_
    refine cj_reg ?_
    refine j_val rfl (fun a w ha => r_move rfl ha) ?_
    refine j_val rfl (fun a w ha => r_fl (q := 0) (ft := 134) Try.runUnderlying138 rfl Try.sizeOf134 rfl ha) ?_
    refine j_valw rfl (fun a w ha hH hf => r_ldH 1 rfl rfl Try.isAgg134 rfl rfl ha hH) ?_
    refine j_val rfl (fun a w ha => r_nil rfl ha) ?_
    refine j_val rfl (fun a w ha => r_fl (q := 4) (ft := 2) Try.runUnderlying136 rfl Try.sizeOf2 rfl ha) ?_
    refine j_valw rfl (fun a w ha hH hf => r_load Try.isAgg2 rfl (hcf w (hf.keepAll (.inr rfl)) 4 _ rfl) ha) ?_
    refine j_val rfl (fun a w ha => r_nil rfl ha) ?_
    refine j_val rfl (fun a w ha => r_fl (q := 2) (ft := 3) Try.runUnderlying73 rfl Try.sizeOf3 rfl ha) ?_
    refine j_storeN (cs' := [_, _, _, _]) (H' := [_, _]) 0 rfl rfl rfl rfl Try.sizeOf3 rfl rfl rfl rfl rfl rfl rfl ?_
    refine j_nil ?_
    refine ej_then (hK6 _ _ _ ?_); clear hK6
    refine CJ.sub (e' := [(9, _)]) ⟨rfl, trivial⟩ ?_
    refine cj_seqF fun K7 hK7 => ?_
    refine cj_reg ?_
    refine j_val rfl (fun a w ha => r_move rfl ha) ?_
    refine j_val rfl (fun a w ha => r_assign rfl ha) ?_
    refine j_nil ?_
    refine ej_then (hK7 _ _ _ ?_); clear hK7
    refine CJ.sub (e' := [(8, _)]) ⟨rfl, trivial⟩ ?_
    refine cj_ret (?_)
    first | exact ej_ret1 Try.results47 rfl fun w' hH hf => ⟨_, rfl, hH.get (i := 0) rfl rfl, hH.fresh (i := 0) rfl rfl rfl, hf⟩

/-- the nodes by their infos: the map, and each node as it was made -/
structure NM (B : Nat) (w : World) (mb : Nat) (ns : List (NI × Nat)) : Prop where
  ge : B ≤ mb
  map : ∃ es ck, w.heap[mb]? = some (.map (List.toArray es) ck) ∧ MEnc encNI (ns.map fun p => (p.1, ptr p.2)) es ck
  nodes : ∀ p ∈ ns, NodeAt B 0 w p.2 p.1 0 0
  nd : (ns.map (·.2)).Nodup
def whole (i : NI) : NI := ⟨i.name, 0, i.start, 0⟩
def FoiC (i : NI) (n : Nat) : Prop := ∀ (B : Nat) (w : World) (mb : Nat) (ns : List (NI × Nat)), NM B w mb ns →
  Calls Try.prog 48 #[.map (some mb), encNI i, .map none] w (Ret fun v w' => ∃ b ns' ex, v = ptr b ∧ NM B w' mb ns' ∧ (i, b) ∈ ns' ∧ ns' = ns ++ ex ∧ ex.length ≤ n ∧ KeepX [mb] w w')
theorem NM.lt {B : Nat} {w : World} {mb : Nat} {ns : List (NI × Nat)} (h : NM B w mb ns) {p : NI × Nat} (hp : p ∈ ns) : p.2 < w.heap.size := by
  obtain ⟨fn, fd, cd, ein, eout, h1, -⟩ := (h.nodes p hp).ex
  exact h1.lt
theorem mget_ns {ns : List (NI × Nat)} {i : NI} {v : Value} (h : mget (ns.map fun p => (p.1, ptr p.2)) i = some v) : ∃ b, v = ptr b ∧ (i, b) ∈ ns := by
  obtain ⟨p, hp, he⟩ := List.mem_map.1 (mget_mem h)
  cases he
  exact ⟨p.2, rfl, hp⟩
theorem NodeAt.keepX {B N : Nat} {w w' : World} {b : Nat} {i : NI} {fl cu : Int} (h : NodeAt B N w b i fl cu) {l : List Nat} (k : KeepX l w w') (hl : ∀ c ∈ l, ∀ T cs, ¬ Blk w c T cs) : NodeAt B N w' b i fl cu := by
  have hk : ∀ b T cs, Blk w b T cs → Blk w' b T cs := fun b T cs hb => k.blk hb fun hc => hl b hc T cs hb
  have hn : ∀ b, IsNode w b → IsNode w' b := fun b ⟨cs, hb⟩ => ⟨cs, hk _ _ _ hb⟩
  have he : ∀ e, IsEdge w e → IsEdge w' e := fun e ⟨s, d, wt, wd, r, i, h1, h2⟩ => ⟨s, d, wt, wd, r, i, hk _ _ _ h1, hn d h2⟩
  have hs : ∀ N v, EdgeSl B N w v → EdgeSl B N w' v := fun N v ⟨p, l, c, h1, h2, h3, h4⟩ => ⟨p, l, c, h1, h2, h3, by
    rcases h4 with h4 | ⟨b, cs, h5, h6, h7, h8, h9⟩
    · exact .inl h4
    · refine .inr ⟨b, cs, h5, h6, hk _ _ _ h7, h8, fun j hj => ?_⟩
      obtain ⟨e, ha, hb, hc⟩ := h9 j hj
      exact ⟨e, ha, hb, he e hc⟩⟩
  exact h.ext ⟨hn, he, hs⟩ fun cs => hk _ _ cs
theorem EdgeSl.none {B N : Nat} {w : World} : EdgeSl B N w (.slice none 0 0) := ⟨_, _, _, rfl, Nat.le_refl _, Nat.zero_le _, .inl ⟨rfl, rfl⟩⟩
theorem map_noBlk {w : World} {b : Nat} {es : Array MapEntry} {ck : Nat} (h : w.heap[b]? = some (.map es ck)) (T : Nat) (cs : List Value) : ¬ Blk w b T cs := fun hb => by
  have h1 : w.heap[b]? = some (.cells cs.toArray T (0, 0)) := hb
  rw [h] at h1; cases h1
theorem NM.keepX {B : Nat} {w w' : World} {mb : Nat} {ns : List (NI × Nat)} (h : NM B w mb ns) {l : List Nat} (k : KeepX l w w') (hl : ∀ c ∈ l, ∀ T cs, ¬ Blk w c T cs) (hm : w'.heap[mb]? = w.heap[mb]?) : NM B w' mb ns := by
  obtain ⟨es, ck, h1, h2⟩ := h.map
  exact ⟨h.ge, ⟨es, ck, by rw [hm]; exact h1, h2⟩, fun p hp => (h.nodes p hp).keepX k hl, h.nd⟩
theorem nm_push {B : Nat} {w w1 : World} {mb n : Nat} {ns : List (NI × Nat)} {i : NI} {fn : Option Addr} {es es' : List MapEntry} {ck ck' : Nat} (hn : NM B w mb ns) (hmb : w.heap[mb]? = some (.map es.toArray ck)) (hk : KeepX [mb] w w1) (hnone : mget (ns.map fun p => (p.1, ptr p.2)) i = none)
    (hmap : w1.heap[mb]? = some (.map es'.toArray ck')) (hM : MEnc encNI (mset (ns.map fun p => (p.1, ptr p.2)) i (ptr n)) es' ck') (hb : Blk w1 n tNode (cNode i (.pointer fn) 0 0 0 0 (.slice none 0 0) (.slice none 0 0))) (hfr : w.heap.size ≤ n) : NM B w1 mb (ns ++ [(i, n)]) := by
  have hB : B ≤ w.heap.size := Nat.le_trans hn.ge (Nat.le_of_lt (Array.getElem?_eq_some_iff.1 hmb).1)
  rw [mset_new' (mget_none.1 hnone)] at hM
  refine ⟨hn.ge, ⟨es', ck', hmap, by simpa using hM⟩, fun p hp => ?_, ?_⟩
  · rcases List.mem_append.1 hp with hp | hp
    · exact (hn.nodes p hp).keepX hk fun c hc T cs => by simp at hc; subst hc; exact map_noBlk hmb T cs
    · simp at hp; subst hp
      exact ⟨Nat.le_trans hB hfr, fn, 0, 0, _, _, hb, EdgeSl.none, EdgeSl.none⟩
  · rw [List.map_append]
    exact nodup_push hn.nd (fun c hc => by obtain ⟨p, hp, rfl⟩ := List.mem_map.1 hc; exact hn.lt hp) hfr
theorem nm_turn {B : Nat} {w w' : World} {mb n : Nat} {ns : List (NI × Nat)} {i : NI} {fn fn' : Option Addr} {fl fd cu cd : Int} {ei eo : Value} (hn : NM B w mb ns) (k : KeepX [n] w w') (h : Blk w n tNode (cNode i (.pointer fn) fl fd cu cd ei eo)) (h' : Blk w' n tNode (cNode i (.pointer fn') fl fd cu cd ei eo)) : NM B w' mb ns := by
  have hx : Ext B w w' := Ext.node1 k h h'
  obtain ⟨es, ck, h1, h2⟩ := hn.map
  refine ⟨hn.ge, ⟨es, ck, k.keep _ _ h1 (by simp; rintro rfl; exact map_noBlk h1 _ _ h), h2⟩, fun p hp => ?_, hn.nd⟩
  by_cases hp2 : p.2 = n
  · obtain ⟨fn2, fd2, cd2, ein, eout, q1, q2, q3⟩ := (hn.nodes p hp).ex
    rw [hp2] at q1
    have e := Blk.same q1 h
    obtain ⟨e1, e2, e3⟩ := cNode_inj e
    subst e2; subst e3
    have e4 : ein = ei ∧ eout = eo := by simp [cNode] at e; exact e.2.2.2.2.2.2.2
    obtain ⟨rfl, rfl⟩ := e4
    rw [hp2, e1]
    exact ⟨hp2 ▸ (hn.nodes p hp).ge, _, _, _, _, _, h', hx.sl _ _ q2, hx.sl _ _ q3⟩
  · exact (hn.nodes p hp).ext hx fun cs hb => k.blk hb (by simpa using hp2)
theorem foi_step (i : NI) (hrec : ¬ (i.addr = 0 ∧ i.line = 0) → FoiC (whole i) 1) : FoiC i (if i.addr = 0 ∧ i.line = 0 then 1 else 2) := by
  intro B w mb ns hn
  obtain ⟨es, ck, hmb, hM⟩ := hn.map
  have hBs : B ≤ w.heap.size := Nat.le_trans hn.ge (Nat.le_of_lt (Array.getElem?_eq_some_iff.1 hmb).1)
  refine startJ (args := [_, _, _]) [(0, _), (1, _), (2, _)] B [1000000] _ Try.func48 rfl Try.ntmps48 rfl rfl (Hp.oneMap hmb hn.ge rfl) ?_
  refine cj_seqF fun K1 hK1 => ?_
  refine cj_reg ?_
  refine j_boxA (vs := [_, _, _, _]) rfl rfl fun b4 => ?_
  refine j_val rfl (fun a w ha => r_assign rfl ha) ?_
  refine j_nil ?_
  refine ej_then (hK1 _ _ _ ?_); clear hK1
  refine CJ.sub (e' := [(0, _), (2, _), (4, _)]) ⟨rfl, rfl, rfl, trivial⟩ ?_
  refine cj_seqF fun K2 hK2 => ?_
  refine cj_seqF fun K3 hK3 => ?_
  refine cj_reg ?_
  refine j_val rfl (fun a w ha => r_move rfl ha) ?_
  refine j_val rfl (fun a w ha => r_mnneq Try.underlying64 rfl ha) ?_
  refine j_nil ?_
  refine ej_then (hK3 _ _ _ ?_); clear hK3
  refine CJ.sub (e' := [(0, _), (2, _), (4, _), (13, _)]) ⟨rfl, rfl, rfl, rfl, trivial⟩ ?_
  refine cj_if_f rfl ?_
  refine cj_skip (ej_then (hK2 _ _ _ ?_)); clear hK2
  refine CJ.sub (e' := [(0, _), (4, _)]) ⟨rfl, rfl, trivial⟩ ?_
  refine cj_seqF fun K4 hK4 => ?_
  refine cj_seqF fun K5 hK5 => ?_
  refine cj_reg ?_
  refine j_val rfl (fun a w ha => r_move rfl ha) ?_
  refine j_valw rfl (fun a w ha hH hf => r_ldA (vs := [_, _, _, _]) 0 rfl rfl Try.isAgg73 Try.sizeOf73 rfl rfl rfl ha hH) ?_
  refine j_valw rfl (fun a w ha hH hf => r_mlook2 1 rfl Try.runUnderlying145 keyNI hM Try.zeroValue71 rfl rfl (fun _ _ _ => ⟨fun _ _ => trivial, trivial⟩) ha hH hf) ?_
  refine j_val rfl (fun a w ha => r_move rfl ha) ?_
  refine j_val rfl (fun a w ha => r_extract rfl rfl ha) ?_
  refine j_val rfl (fun a w ha => r_extract rfl rfl ha) ?_
  refine j_val rfl (fun a w ha => r_assign rfl ha) ?_
  refine j_val rfl (fun a w ha => r_assign rfl ha) ?_
  refine j_nil ?_
  refine ej_then (hK5 _ _ _ ?_); clear hK5
  refine CJ.sub (e' := [(0, _), (4, _), (9, _), (10, _)]) ⟨rfl, rfl, rfl, rfl, trivial⟩ ?_
  refine cj_seqF fun K6 hK6 => ?_
  refine cj_reg ?_
  refine j_val rfl (fun a w ha => r_move rfl ha) ?_
  refine j_nil ?_
  refine ej_then (hK6 _ _ _ ?_); clear hK6
  refine CJ.sub (e' := [(0, _), (4, _), (9, _), (28, _)]) ⟨rfl, rfl, rfl, rfl, trivial⟩ ?_
  refine cj_if rfl (fun h28 => ?_) (fun h28 => ?_)
  · obtain ⟨v, hv⟩ := Option.isSome_iff_exists.1 h28
    obtain ⟨b, rfl, hb⟩ := mget_ns hv
    refine cj_seqF fun K7 hK7 => ?_
    refine cj_reg ?_
    refine j_val rfl (fun a w ha => r_move rfl ha) ?_
    refine j_val rfl (fun a w ha => r_assign rfl ha) ?_
    refine j_nil ?_
    refine ej_then (hK7 _ _ _ ?_); clear hK7
    refine CJ.sub (e' := [(6, _)]) ⟨rfl, trivial⟩ ?_
    refine cj_ret (ej_then_ret (?_))
    first
    | exact ej_ret1 Try.results48 rfl fun w' hH hf => by
        have hk := Hp.keepX (l := [mb]) hH.2.2.2.2.2.2 hf
        exact ⟨b, ns, [], by rw [hv]; rfl, hn.keepX hk (fun c hc T cs => by simp at hc; subst hc; exact map_noBlk hmb T cs) (by rw [hmb]; exact hH.obj (i := 1) rfl rfl), hb, by simp, Nat.zero_le _, hk⟩
    | exact ej_ret1 Try.results48 rfl fun w' hH hf => by
        have hk := Hp.keepX (l := [mb]) hH.2.2.2.2.2.2.2.2.2 hf
        exact ⟨b32, ns ++ [(i, b32)], [(i, b32)], rfl, nm_push hn hmb hk hnone (hH.obj (i := 2) rfl rfl) hM' (hH.get (i := 0) rfl rfl) (hH.fresh' (i := 0) rfl rfl), by simp, rfl, by rw [if_pos hw]; exact Nat.le_refl _, hk⟩
    | exact ej_ret1 Try.results48 rfl fun w' hH hf => by
        have hk3 := Hp.keepX (l := [b32]) hH.2.2.2 hf
        exact ⟨b32, ns ++ [(i, b32)] ++ ex, (i, b32) :: ex, rfl, nm_turn hn2 hk3 hq1 (hH.get (i := 0) rfl rfl), by simp, by simp, by rw [if_neg hw]; simp; omega,
          ((hk1.trans hk2).trans hk3).drop fun c hc => by
            simp at hc
            rcases hc with rfl | rfl
            · exact .inl (by simp)
            · exact .inr hfr32⟩
  · have hnone : mget (ns.map fun p => (p.1, ptr p.2)) i = none := by
      cases hc : mget (ns.map fun p => (p.1, ptr p.2)) i with
      | none => rfl
      | some v => rw [hc] at h28; cases h28
    refine cj_skip (ej_then (hK4 _ _ _ ?_)); clear hK4
    refine CJ.sub (e' := [(0, _), (4, _)]) ⟨rfl, rfl, trivial⟩ ?_
    refine cj_seqF fun K8 hK8 => ?_
    refine cj_reg ?_
    refine j_valw rfl (fun a w ha hH hf => r_ldA (vs := [_, _, _, _]) 0 rfl rfl Try.isAgg73 Try.sizeOf73 rfl rfl rfl ha hH) ?_
    refine j_val rfl (fun a w ha => r_build (cs := [_, _, _, _, (.pointer none), (.int .i64 0), (.int .i64 0), (.int .i64 0), (.int .i64 0), (.slice none 0 0), (.slice none 0 0)]) bt77 rfl rfl ha) ?_
    refine j_boxA (vs := [_, _, _, _, _, _, _, _, _, _, _]) rfl rfl fun b32 => ?_
    refine j_val rfl (fun a w ha => r_assign rfl ha) ?_
    refine j_nil ?_
    refine ej_then (hK8 _ _ _ ?_); clear hK8
    refine CJ.sub (e' := [(0, _), (4, _), (11, _)]) ⟨rfl, rfl, rfl, trivial⟩ ?_
    refine cj_seqF fun K9 hK9 => ?_
    refine cj_reg ?_
    refine j_val rfl (fun a w ha => r_move rfl ha) ?_
    refine j_valw rfl (fun a w ha hH hf => r_ldA (vs := [_, _, _, _]) 1 rfl rfl Try.isAgg73 Try.sizeOf73 rfl rfl rfl ha hH) ?_
    refine j_val rfl (fun a w ha => r_move rfl ha) ?_
    refine j_mapupd (k := i) 2 rfl Try.runUnderlying145 keyNI hM rfl rfl rfl (fun _ _ _ => ⟨fun _ _ => trivial, trivial⟩) fun es' ck' hM' => ?_
    refine j_nil ?_
    refine ej_then (hK9 _ _ _ ?_); clear hK9
    refine CJ.sub (e' := [(0, _), (4, _), (11, _)]) ⟨rfl, rfl, rfl, trivial⟩ ?_
    refine cj_seqF fun K10 hK10 => ?_
    refine cj_seqF fun K11 hK11 => ?_
    refine cj_reg ?_
    refine j_val rfl (fun a w ha => r_fl (q := 1) (ft := 53) Try.runUnderlying73 rfl Try.sizeOf53 rfl ha) ?_
    refine j_valw rfl (fun a w ha hH hf => r_ldH 1 rfl rfl Try.isAgg53 rfl rfl ha hH) ?_
    refine j_val rfl (fun a w ha => r_eql rfl rfl ha) ?_
    refine j_val rfl (fun a w ha => r_move rfl ha) ?_
    refine j_split (t := 39) rfl (fun hg39 => ?_) (fun hg39 => ?_)
    · refine j_gt rfl rfl ?_
      refine j_val rfl (fun a w ha => r_fl (q := 3) (ft := 3) Try.runUnderlying73 rfl Try.sizeOf3 rfl ha) ?_
      refine j_gt rfl rfl ?_
      refine j_valw rfl (fun a w ha hH hf => r_ldH 1 rfl rfl Try.isAgg3 rfl rfl ha hH) ?_
      refine j_gt rfl rfl ?_
      refine j_val rfl (fun a w ha => r_eql rfl rfl ha) ?_
      refine j_val rfl (fun a w ha => r_pick_t rfl rfl ha) ?_
      refine j_nil ?_
      refine ej_then (hK11 _ _ _ ?_); clear hK11
      refine CJ.sub (e' := [(0, _), (4, _), (11, _), (43, _)]) ⟨rfl, rfl, rfl, rfl, trivial⟩ ?_
      refine cj_if rfl (fun h43 => ?_) (fun h43 => ?_)
      · have hw : i.addr = 0 ∧ i.line = 0 := by simp at hg39 h43; exact ⟨hg39, h43⟩
        refine cj_seqF fun K12 hK12 => ?_
        refine cj_reg ?_
        refine j_val rfl (fun a w ha => r_move rfl ha) ?_
        refine j_val rfl (fun a w ha => r_move rfl ha) ?_
        refine j_val rfl (fun a w ha => r_nil rfl ha) ?_
        refine j_val rfl (fun a w ha => r_fl (q := 4) (ft := 71) Try.runUnderlying77 rfl Try.sizeOf71 rfl ha) ?_
        refine j_storeN (cs' := [_, _, _, _, _, _, _, _, _, _, _]) (H' := (_ :: _ :: _ :: _)) 0 rfl rfl rfl rfl Try.sizeOf71 rfl rfl rfl rfl rfl rfl rfl ?_
        refine j_nil ?_
        refine ej_then (hK12 _ _ _ ?_); clear hK12
        refine CJ.sub (e' := [(11, _)]) ⟨rfl, trivial⟩ ?_
        refine cj_seqF fun K13 hK13 => ?_
        refine cj_reg ?_
        refine j_val rfl (fun a w ha => r_move rfl ha) ?_
        refine j_val rfl (fun a w ha => r_assign rfl ha) ?_
        refine j_nil ?_
        refine ej_then (hK13 _ _ _ ?_); clear hK13
        refine CJ.sub (e' := [(6, _)]) ⟨rfl, trivial⟩ ?_
        refine cj_ret (ej_then_ret (?_))
        first
        | exact ej_ret1 Try.results48 rfl fun w' hH hf => by
            have hk := Hp.keepX (l := [mb]) hH.2.2.2.2.2.2 hf
            exact ⟨b, ns, [], by rw [hv]; rfl, hn.keepX hk (fun c hc T cs => by simp at hc; subst hc; exact map_noBlk hmb T cs) (by rw [hmb]; exact hH.obj (i := 1) rfl rfl), hb, by simp, Nat.zero_le _, hk⟩
        | exact ej_ret1 Try.results48 rfl fun w' hH hf => by
            have hk := Hp.keepX (l := [mb]) hH.2.2.2.2.2.2.2.2.2 hf
            exact ⟨b32, ns ++ [(i, b32)], [(i, b32)], rfl, nm_push hn hmb hk hnone (hH.obj (i := 2) rfl rfl) hM' (hH.get (i := 0) rfl rfl) (hH.fresh' (i := 0) rfl rfl), by simp, rfl, by rw [if_pos hw]; exact Nat.le_refl _, hk⟩
        | exact ej_ret1 Try.results48 rfl fun w' hH hf => by
            have hk3 := Hp.keepX (l := [b32]) hH.2.2.2 hf
            exact ⟨b32, ns ++ [(i, b32)] ++ ex, (i, b32) :: ex, rfl, nm_turn hn2 hk3 hq1 (hH.get (i := 0) rfl rfl), by simp, by simp, by rw [if_neg hw]; simp; omega,
              ((hk1.trans hk2).trans hk3).drop fun c hc => by
                simp at hc
                rcases hc with rfl | rfl
                · exact .inl (by simp)
                · exact .inr hfr32⟩
      · have hw : ¬ (i.addr = 0 ∧ i.line = 0) := by first | (simp at hg39; intro h; exact hg39 h.1) | (simp at h43; intro h; exact h43 h.2)
        refine cj_skip (ej_then (hK10 _ _ _ ?_)); clear hK10
        refine CJ.sub (e' := [(0, _), (4, _), (11, _)]) ⟨rfl, rfl, rfl, trivial⟩ ?_
        refine cj_seqF fun K14 hK14 => ?_
        refine cj_reg ?_
        refine j_val rfl (fun a w ha => r_fl (q := 1) (ft := 53) Try.runUnderlying73 rfl Try.sizeOf53 rfl ha) ?_
        refine j_storeN (cs' := [_, _, _, _]) (H' := (_ :: _ :: _ :: _)) 1 rfl rfl rfl rfl Try.sizeOf53 rfl rfl rfl rfl rfl rfl rfl ?_
        refine j_nil ?_
        refine ej_then (hK14 _ _ _ ?_); clear hK14
        refine CJ.sub (e' := [(0, _), (4, _), (11, _)]) ⟨rfl, rfl, rfl, trivial⟩ ?_
        refine cj_seqF fun K15 hK15 => ?_
        refine cj_reg ?_
        refine j_val rfl (fun a w ha => r_fl (q := 3) (ft := 3) Try.runUnderlying73 rfl Try.sizeOf3 rfl ha) ?_
        refine j_storeN (cs' := [_, _, _, _]) (H' := (_ :: _ :: _ :: _)) 1 rfl rfl rfl rfl Try.sizeOf3 rfl rfl rfl rfl rfl rfl rfl ?_
        refine j_nil ?_
        refine ej_then (hK15 _ _ _ ?_); clear hK15
        refine CJ.sub (e' := [(0, _), (4, _), (11, _)]) ⟨rfl, rfl, rfl, trivial⟩ ?_
        refine cj_seqF fun K16 hK16 => ?_
        refine cj_reg ?_
        refine j_val rfl (fun a w ha => r_move rfl ha) ?_
        refine j_val rfl (fun a w ha => r_move rfl ha) ?_
        refine j_valw rfl (fun a w ha hH hf => r_ldA (vs := [_, _, _, _]) 1 rfl rfl Try.isAgg73 Try.sizeOf73 rfl rfl rfl ha hH) ?_
        refine j_callE (R := fun w1 v w' => ∃ b ns' ex, v = ptr b ∧ NM B w' mb ns' ∧ (whole i, b) ∈ ns' ∧ ns' = (ns ++ [(i, b32)]) ++ ex ∧ ex.length ≤ 1 ∧ KeepX [mb] w1 w') Try.call48 rfl rfl (fun w1 hH hf => hrec hw B w1 mb _ (nm_push hn hmb (Hp.keepX (l := [mb]) hH.2.2.2.2.2.2.2.2.2 hf) hnone (hH.obj (i := 2) rfl rfl) hM' (hH.get (i := 0) rfl rfl) (hH.fresh' (i := 0) rfl rfl))) fun w1 v w2 hH1 hf1 hR => ?_
        have hk1 := Hp.keepX (l := [mb]) hH1.2.2.2.2.2.2.2.2.2 hf1
        have hfr32 : w.heap.size ≤ b32 := hH1.fresh' (i := 0) rfl rfl
        obtain ⟨b2, ns2, ex, rfl, hn2, hb2, rfl, hex, hk2⟩ := hR
        obtain ⟨fn3, fd3, cd3, ei3, eo3, hq1, hq2, hq3⟩ := (hn2.nodes (i, b32) (by simp)).ex
        have hq0 := (hn2.nodes (i, b32) (by simp)).ge
        obtain ⟨⟨pi3, li3, ci3, rfl, -⟩⟩ := id hq2
        obtain ⟨⟨po3, lo3, co3, rfl, -⟩⟩ := id hq3
        refine J.begin ⟨w2, B, [tNode]⟩ _ ok_refl (Hp.one hq1 hq0 rfl) ?_
        refine j_val rfl (fun a w ha => r_nil rfl ha) ?_
        refine j_val rfl (fun a w ha => r_fl (q := 4) (ft := 71) Try.runUnderlying77 rfl Try.sizeOf71 rfl ha) ?_
        refine j_storeN (cs' := [_, _, _, _, _, _, _, _, _, _, _]) (H' := (_ :: _)) 0 rfl rfl rfl rfl Try.sizeOf71 rfl rfl rfl rfl rfl rfl rfl ?_
        refine j_nil ?_
        refine ej_then (hK16 _ _ _ ?_); clear hK16
        refine CJ.sub (e' := [(11, _)]) ⟨rfl, trivial⟩ ?_
        refine cj_seqF fun K17 hK17 => ?_
        refine cj_reg ?_
        refine j_val rfl (fun a w ha => r_move rfl ha) ?_
        refine j_val rfl (fun a w ha => r_assign rfl ha) ?_
        refine j_nil ?_
        refine ej_then (hK17 _ _ _ ?_); clear hK17
        refine CJ.sub (e' := [(6, _)]) ⟨rfl, trivial⟩ ?_
        refine cj_ret (?_)
        first
        | exact ej_ret1 Try.results48 rfl fun w' hH hf => by
            have hk := Hp.keepX (l := [mb]) hH.2.2.2.2.2.2 hf
            exact ⟨b, ns, [], by rw [hv]; rfl, hn.keepX hk (fun c hc T cs => by simp at hc; subst hc; exact map_noBlk hmb T cs) (by rw [hmb]; exact hH.obj (i := 1) rfl rfl), hb, by simp, Nat.zero_le _, hk⟩
        | exact ej_ret1 Try.results48 rfl fun w' hH hf => by
            have hk := Hp.keepX (l := [mb]) hH.2.2.2.2.2.2.2.2.2 hf
            exact ⟨b32, ns ++ [(i, b32)], [(i, b32)], rfl, nm_push hn hmb hk hnone (hH.obj (i := 2) rfl rfl) hM' (hH.get (i := 0) rfl rfl) (hH.fresh' (i := 0) rfl rfl), by simp, rfl, by rw [if_pos hw]; exact Nat.le_refl _, hk⟩
        | exact ej_ret1 Try.results48 rfl fun w' hH hf => by
            have hk3 := Hp.keepX (l := [b32]) hH.2.2.2 hf
            exact ⟨b32, ns ++ [(i, b32)] ++ ex, (i, b32) :: ex, rfl, nm_turn hn2 hk3 hq1 (hH.get (i := 0) rfl rfl), by simp, by simp, by rw [if_neg hw]; simp; omega,
              ((hk1.trans hk2).trans hk3).drop fun c hc => by
                simp at hc
                rcases hc with rfl | rfl
                · exact .inl (by simp)
                · exact .inr hfr32⟩
    · refine j_gf rfl rfl rfl rfl ?_
      refine j_gf rfl rfl rfl rfl ?_
      refine j_gf rfl rfl rfl rfl ?_
      refine j_val rfl (fun a w ha => r_pick_f rfl rfl ha) ?_
      refine j_nil ?_
      refine ej_then (hK11 _ _ _ ?_); clear hK11
      refine CJ.sub (e' := [(0, _), (4, _), (11, _), (43, _)]) ⟨rfl, rfl, rfl, rfl, trivial⟩ ?_
      refine cj_if_f rfl ?_
      have hw : ¬ (i.addr = 0 ∧ i.line = 0) := by first | (simp at hg39; intro h; exact hg39 h.1) | (simp at h43; intro h; exact h43 h.2)
      refine cj_skip (ej_then (hK10 _ _ _ ?_)); clear hK10
      refine CJ.sub (e' := [(0, _), (4, _), (11, _)]) ⟨rfl, rfl, rfl, trivial⟩ ?_
      refine cj_seqF fun K18 hK18 => ?_
      refine cj_reg ?_
      refine j_val rfl (fun a w ha => r_fl (q := 1) (ft := 53) Try.runUnderlying73 rfl Try.sizeOf53 rfl ha) ?_
      refine j_storeN (cs' := [_, _, _, _]) (H' := (_ :: _ :: _ :: _)) 1 rfl rfl rfl rfl Try.sizeOf53 rfl rfl rfl rfl rfl rfl rfl ?_
      refine j_nil ?_
      refine ej_then (hK18 _ _ _ ?_); clear hK18
      refine CJ.sub (e' := [(0, _), (4, _), (11, _)]) ⟨rfl, rfl, rfl, trivial⟩ ?_
      refine cj_seqF fun K19 hK19 => ?_
      refine cj_reg ?_
      refine j_val rfl (fun a w ha => r_fl (q := 3) (ft := 3) Try.runUnderlying73 rfl Try.sizeOf3 rfl ha) ?_
      refine j_storeN (cs' := [_, _, _, _]) (H' := (_ :: _ :: _ :: _)) 1 rfl rfl rfl rfl Try.sizeOf3 rfl rfl rfl rfl rfl rfl rfl ?_
      refine j_nil ?_
      refine ej_then (hK19 _ _ _ ?_); clear hK19
      refine CJ.sub (e' := [(0, _), (4, _), (11, _)]) ⟨rfl, rfl, rfl, trivial⟩ ?_
      refine cj_seqF fun K20 hK20 => ?_
      refine cj_reg ?_
      refine j_val rfl (fun a w ha => r_move rfl ha) ?_
      refine j_val rfl (fun a w ha => r_move rfl ha) ?_
      refine j_valw rfl (fun a w ha hH hf => r_ldA (vs := [_, _, _, _]) 1 rfl rfl Try.isAgg73 Try.sizeOf73 rfl rfl rfl ha hH) ?_
      refine j_callE (R := fun w1 v w' => ∃ b ns' ex, v = ptr b ∧ NM B w' mb ns' ∧ (whole i, b) ∈ ns' ∧ ns' = (ns ++ [(i, b32)]) ++ ex ∧ ex.length ≤ 1 ∧ KeepX [mb] w1 w') Try.call48 rfl rfl (fun w1 hH hf => hrec hw B w1 mb _ (nm_push hn hmb (Hp.keepX (l := [mb]) hH.2.2.2.2.2.2.2.2.2 hf) hnone (hH.obj (i := 2) rfl rfl) hM' (hH.get (i := 0) rfl rfl) (hH.fresh' (i := 0) rfl rfl))) fun w1 v w2 hH1 hf1 hR => ?_
      have hk1 := Hp.keepX (l := [mb]) hH1.2.2.2.2.2.2.2.2.2 hf1
      have hfr32 : w.heap.size ≤ b32 := hH1.fresh' (i := 0) rfl rfl
      obtain ⟨b2, ns2, ex, rfl, hn2, hb2, rfl, hex, hk2⟩ := hR
      obtain ⟨fn3, fd3, cd3, ei3, eo3, hq1, hq2, hq3⟩ := (hn2.nodes (i, b32) (by simp)).ex
      have hq0 := (hn2.nodes (i, b32) (by simp)).ge
      obtain ⟨⟨pi3, li3, ci3, rfl, -⟩⟩ := id hq2
      obtain ⟨⟨po3, lo3, co3, rfl, -⟩⟩ := id hq3
      refine J.begin ⟨w2, B, [tNode]⟩ _ ok_refl (Hp.one hq1 hq0 rfl) ?_
      refine j_val rfl (fun a w ha => r_nil rfl ha) ?_
      refine j_val rfl (fun a w ha => r_fl (q := 4) (ft := 71) Try.runUnderlying77 rfl Try.sizeOf71 rfl ha) ?_
      refine j_storeN (cs' := [_, _, _, _, _, _, _, _, _, _, _]) (H' := (_ :: _)) 0 rfl rfl rfl rfl Try.sizeOf71 rfl rfl rfl rfl rfl rfl rfl ?_
      refine j_nil ?_
      refine ej_then (hK20 _ _ _ ?_); clear hK20
      refine CJ.sub (e' := [(11, _)]) ⟨rfl, trivial⟩ ?_
      refine cj_seqF fun K21 hK21 => ?_
      refine cj_reg ?_
      refine j_val rfl (fun a w ha => r_move rfl ha) ?_
      refine j_val rfl (fun a w ha => r_assign rfl ha) ?_
      refine j_nil ?_
      refine ej_then (hK21 _ _ _ ?_); clear hK21
      refine CJ.sub (e' := [(6, _)]) ⟨rfl, trivial⟩ ?_
      refine cj_ret (?_)
      first
      | exact ej_ret1 Try.results48 rfl fun w' hH hf => by
          have hk := Hp.keepX (l := [mb]) hH.2.2.2.2.2.2 hf
          exact ⟨b, ns, [], by rw [hv]; rfl, hn.keepX hk (fun c hc T cs => by simp at hc; subst hc; exact map_noBlk hmb T cs) (by rw [hmb]; exact hH.obj (i := 1) rfl rfl), hb, by simp, Nat.zero_le _, hk⟩
      | exact ej_ret1 Try.results48 rfl fun w' hH hf => by
          have hk := Hp.keepX (l := [mb]) hH.2.2.2.2.2.2.2.2.2 hf
          exact ⟨b32, ns ++ [(i, b32)], [(i, b32)], rfl, nm_push hn hmb hk hnone (hH.obj (i := 2) rfl rfl) hM' (hH.get (i := 0) rfl rfl) (hH.fresh' (i := 0) rfl rfl), by simp, rfl, by rw [if_pos hw]; exact Nat.le_refl _, hk⟩
      | exact ej_ret1 Try.results48 rfl fun w' hH hf => by
          have hk3 := Hp.keepX (l := [b32]) hH.2.2.2 hf
          exact ⟨b32, ns ++ [(i, b32)] ++ ex, (i, b32) :: ex, rfl, nm_turn hn2 hk3 hq1 (hH.get (i := 0) rfl rfl), by simp, by simp, by rw [if_neg hw]; simp; omega,
            ((hk1.trans hk2).trans hk3).drop fun c hc => by
              simp at hc
              rcases hc with rfl | rfl
              · exact .inl (by simp)
              · exact .inr hfr32⟩
theorem foi_whole (i : NI) (hw : i.addr = 0 ∧ i.line = 0) : FoiC i 1 := by
  have := foi_step i (fun h => absurd hw h)
  rwa [if_pos hw] at this
theorem foi_c (i : NI) : FoiC i 2 := by
  by_cases hw : i.addr = 0 ∧ i.line = 0
  · intro B w mb ns hn
    exact (foi_whole i hw B w mb ns hn).mono (Ret.mono fun v w' ⟨b, ns', ex, h1, h2, h3, h4, h5, h6⟩ => ⟨b, ns', ex, h1, h2, h3, h4, by omega, h6⟩)
  · have := foi_step i (fun _ => foi_whole (whole i) ⟨rfl, rfl⟩)
    rwa [if_neg hw] at this

/-- what a line of a location is by, and what is asked of the memory for it -/
def LineI (w : World) (l : PLoc) (p : Option Addr) (ln : Int) (i : NI) : Prop := (p = none ∧ i = ⟨⟨#[]⟩, l.addr, 0, 0⟩) ∨ ∃ bf f, p = some ⟨bf, 0, none⟩ ∧ Blk w bf tFun (cFun f) ∧ i = ⟨f.name, l.addr, f.start, ln⟩
def cOpt (fv : Value) : List Value := [fv, .nilFunc, .bool false, .map none]
theorem foil_c (B : Nat) (w : World) (mb : Nat) (ns : List (NI × Nat)) (bl bo : Nat) (maps : List Nat) (l : PLoc) (ls fv : Value) (pm p : Option Addr) (ln z : Int) (i : NI) (hn : NM B w mb ns)
    (hl : Blk w bl tLoc (cLoc maps l ls)) (hpm : ptrAt maps l.mapping = .pointer pm) (hm : pm = none ∨ ∃ bm m, pm = some ⟨bm, 0, none⟩ ∧ Blk w bm tMap (cMap m)) (hi : LineI w l p ln i) (ho : Blk w bo 66 (cOpt fv)) :
    Calls Try.prog 38 #[.map (some mb), ptr bl, .agg #[.pointer p, .int .i64 ln, .int .u64 z], ptr bo] w (Ret fun v w' => ∃ b ns' ex, v = ptr b ∧ NM B w' mb ns' ∧ (i, b) ∈ ns' ∧ ns' = ns ++ ex ∧ ex.length ≤ 2 ∧ KeepX [mb] w w') := by
  have hcl : ∀ w', Keep w w' → ∀ (j : Nat) (u : Value), [.int .u64 l.id, .pointer pm, .int .u64 l.addr, ls, .bool false, .int .u64 0][j]? = some u → w'.cell? ⟨bl, 0 + j, none⟩ = some u := by
    have h1 := blk_cells hl
    rw [cLoc, hpm] at h1
    exact h1
  have hco := blk_cells ho
  obtain ⟨es, ck, hmb, -⟩ := hn.map
  refine startJ (args := [_, _, _, _]) [(0, _), (1, _), (2, _), (3, _)] 0 [] [] Try.func38 rfl Try.ntmps38 rfl rfl .nil ?_
  refine cj_seqF fun K1 hK1 => ?_
  refine cj_reg ?_
  refine j_boxA (vs := [_, _, _]) rfl rfl fun b6 => ?_
  refine j_val rfl (fun a w ha => r_assign rfl ha) ?_
  refine j_nil ?_
  refine ej_then (hK1 _ _ _ ?_); clear hK1
  refine CJ.sub (e' := [(0, _), (1, _), (3, _), (6, _)]) ⟨rfl, rfl, rfl, rfl, trivial⟩ ?_
  refine cj_seqF fun K2 hK2 => ?_
  refine cj_reg ?_
  refine j_val rfl (fun a w ha => r_assign rfl ha) ?_
  refine j_nil ?_
  refine ej_then (hK2 _ _ _ ?_); clear hK2
  refine CJ.sub (e' := [(0, _), (1, _), (3, _), (6, _), (9, _)]) ⟨rfl, rfl, rfl, rfl, rfl, trivial⟩ ?_
  refine cj_seqF fun K3 hK3 => ?_
  refine cj_seqF fun K4 hK4 => ?_
  refine cj_reg ?_
  refine j_val rfl (fun a w ha => r_move rfl ha) ?_
  refine j_val rfl (fun a w ha => r_nil rfl ha) ?_
  refine j_val rfl (fun a w ha => r_fl (q := 1) (ft := 121) Try.runUnderlying124 rfl Try.sizeOf121 rfl ha) ?_
  refine j_valw rfl (fun a w ha hH hf => r_load Try.isAgg121 rfl (hcl w (hf.keepAll (.inr rfl)) 1 _ rfl) ha) ?_
  refine j_val rfl (fun a w ha => r_assign rfl ha) ?_
  refine j_nil ?_
  refine ej_then (hK4 _ _ _ ?_); clear hK4
  refine CJ.sub (e' := [(0, _), (1, _), (3, _), (6, _), (9, _), (10, _)]) ⟨rfl, rfl, rfl, rfl, rfl, rfl, trivial⟩ ?_
  refine cj_seqF fun K5 hK5 => ?_
  refine cj_reg ?_
  refine j_val rfl (fun a w ha => r_move rfl ha) ?_
  refine j_val rfl (fun a w ha => r_pnneq Try.underlying121 rfl ha) ?_
  refine j_val rfl (fun a w ha => r_move rfl ha) ?_
  refine j_split (t := 18) rfl (fun hg18 => ?_) (fun hg18 => ?_)
  · obtain rfl | ⟨bm, m, rfl, hbm⟩ := hm
    · cases hg18
    have hcm := blk_cells hbm
    refine j_gt rfl rfl ?_
    refine j_val rfl (fun a w ha => r_move rfl ha) ?_
    refine j_gt rfl rfl ?_
    refine j_val rfl (fun a w ha => r_nil rfl ha) ?_
    refine j_gt rfl rfl ?_
    refine j_val rfl (fun a w ha => r_fl (q := 4) (ft := 9) Try.runUnderlying133 rfl Try.sizeOf9 rfl ha) ?_
    refine j_gt rfl rfl ?_
    refine j_valw rfl (fun a w ha hH hf => r_load Try.isAgg9 rfl (hcm w (hf.keepAll (.inr rfl)) 4 _ rfl) ha) ?_
    refine j_gt rfl rfl ?_
    refine j_val rfl (fun a w ha => r_sneq rfl rfl ha) ?_
    refine j_val rfl (fun a w ha => r_pick_t rfl rfl ha) ?_
    refine j_nil ?_
    refine ej_then (hK5 _ _ _ ?_); clear hK5
    refine CJ.sub (e' := [(0, _), (1, _), (3, _), (6, _), (9, _), (10, _), (24, _)]) ⟨rfl, rfl, rfl, rfl, rfl, rfl, rfl, trivial⟩ ?_
    refine cj_if rfl (fun h24 => ?_) (fun h24 => ?_)
    · refine cj_reg ?_
      refine j_val rfl (fun a w ha => r_move rfl ha) ?_
      refine j_val rfl (fun a w ha => r_nil rfl ha) ?_
      refine j_val rfl (fun a w ha => r_fl (q := 4) (ft := 9) Try.runUnderlying133 rfl Try.sizeOf9 rfl ha) ?_
      refine j_valw rfl (fun a w ha hH hf => r_load Try.isAgg9 rfl (hcm w (hf.keepAll (.inr rfl)) 4 _ rfl) ha) ?_
      refine j_val rfl (fun a w ha => r_assign rfl ha) ?_
      refine j_nil ?_
      refine ej_then (hK3 _ _ _ ?_); clear hK3
      refine CJ.sub (e' := [(0, _), (1, _), (3, _), (6, _), (9, _)]) ⟨rfl, rfl, rfl, rfl, rfl, trivial⟩ ?_
      refine cj_seqF fun K6 hK6 => ?_
      refine cj_seqF fun K7 hK7 => ?_
      refine cj_reg ?_
      refine j_val rfl (fun a w ha => r_move rfl ha) ?_
      refine j_valw rfl (fun a w ha hH hf => r_ldA (vs := [_, _, _]) 0 rfl rfl Try.isAgg138 Try.sizeOf138 rfl rfl rfl ha hH) ?_
      refine j_val rfl (fun a w ha => r_move rfl ha) ?_
      refine j_val rfl (fun a w ha => r_move rfl ha) ?_
      refine j_callN (T := tNI) (cs := cNI i) Try.call47 rfl rfl (fun w' hH hf => nodeInfo_c w' bl maps l ls p ln z _ _ i (hf.blk hl (.inr (by simp))) (hi.imp id fun ⟨bf, f, h1, h2, h3⟩ => ⟨bf, f, h1, hf.blk h2 (.inr (by simp)), h3⟩)) fun b33 => ?_
      refine j_val rfl (fun a w ha => r_assign rfl ha) ?_
      refine j_nil ?_
      refine ej_then (hK7 _ _ _ ?_); clear hK7
      refine CJ.sub (e' := [(0, _), (3, _), (11, _)]) ⟨rfl, rfl, rfl, trivial⟩ ?_
      refine cj_seqF fun K8 hK8 => ?_
      refine cj_reg ?_
      refine j_val rfl (fun a w ha => r_move rfl ha) ?_
      refine j_val rfl (fun a w ha => r_pnneq Try.underlying160 rfl ha) ?_
      refine j_nil ?_
      refine ej_then (hK8 _ _ _ ?_); clear hK8
      refine CJ.sub (e' := [(0, _), (3, _), (11, _), (35, _)]) ⟨rfl, rfl, rfl, rfl, trivial⟩ ?_
      refine cj_if_t rfl ?_
      refine cj_seqF fun K9 hK9 => ?_
      refine cj_drawI 8 [(0, true), (1, true), (2, true), (3, true), (4, true), (5, true), (6, true), (7, true), (8, false), (9, false)] [0] rfl (by kernel_rfl) (by kernel_rfl) ?_
      refine dj_val rfl rfl (sub_of [0] rfl) (fun a w ha => r_move rfl ha) ?_
      refine dj_val rfl rfl (sub_of [0] rfl) (fun a w ha => r_move rfl ha) ?_
      refine dj_val rfl rfl (sub_of [0] rfl) (fun a w ha => r_nil rfl ha) ?_
      refine dj_ld rfl rfl (sub_of [0] rfl) (fun a w ha hS => r_ldSA (vs := [_, _, _, _]) 0 rfl rfl Try.isAgg73 Try.sizeOf73 rfl rfl rfl ha hS) ?_
      refine dj_val rfl rfl (sub_of [0] rfl) (fun a w ha => r_move rfl ha) ?_
      refine dj_val rfl rfl (sub_of [0] rfl) (fun a w ha => r_nil rfl ha) ?_
      refine dj_val rfl rfl (sub_of [0] rfl) (fun a w ha => r_fl (q := 3) (ft := 64) Try.runUnderlying66 rfl Try.sizeOf64 rfl ha) ?_
      refine dj_ld rfl rfl (sub_of [0] rfl) (fun a w ha hS => r_load Try.isAgg64 rfl (hco w (hS.2.keepAll (.inr rfl)) 3 _ rfl) ha) ?_
      refine dj_effT rfl rfl rfl fun K2 hK2 => ?_
      refine j_callE (R := fun w1 v w' => ∃ b ns' ex, v = ptr b ∧ NM B w' mb ns' ∧ (i, b) ∈ ns' ∧ ns' = ns ++ ex ∧ ex.length ≤ 2 ∧ KeepX [mb] w1 w') Try.call48 rfl rfl (fun w1 hH hf => foi_c i B w1 mb ns (hn.keepX (KeepX.of hf) (by simp) (by rw [hmb]; exact hf.keep _ _ hmb (.inr (by simp))))) fun w1 v w2 hH1 hf1 hR => ?_
      obtain ⟨b2, ns2, ex, rfl, hn2, hb2, rfl, hex, hk2⟩ := hR
      refine J.begin ⟨w2, 0, []⟩ [] ok_refl .nil ?_
      refine j_nil (ej_then (hK2 _ _ _ ?_)); clear hK2 K2
      refine dj_effT rfl rfl rfl fun K2 hK2 => ?_
      refine j_val rfl (fun a w ha => r_assign rfl ha) ?_
      refine j_nil (ej_then (hK2 _ _ _ ?_)); clear hK2 K2
      refine dj_end ?_
      refine ej_then (hK9 _ _ _ ?_); clear hK9
      refine CJ.sub (e' := [(8, _)]) ⟨rfl, trivial⟩ ?_
      refine cj_ret (ej_then_ret (?_))
      exact ej_ret1 Try.results38 rfl fun w' hH hf => by
        obtain ⟨es2, ck2, hmb2, -⟩ := hn2.map
        exact ⟨b2, _, ex, rfl, hn2.keepX (KeepX.of hf) (by simp) (by rw [hmb2]; exact hf.keep _ _ hmb2 (.inr (by simp))), hb2, rfl, hex, (((KeepX.of hf1).trans hk2).trans (KeepX.of hf)).drop fun c hc => by simp at hc; subst hc; exact .inl (by simp)⟩
    · refine cj_skip (ej_then (hK3 _ _ _ ?_)); clear hK3
      refine CJ.sub (e' := [(0, _), (1, _), (3, _), (6, _), (9, _)]) ⟨rfl, rfl, rfl, rfl, rfl, trivial⟩ ?_
      refine cj_seqF fun K10 hK10 => ?_
      refine cj_seqF fun K11 hK11 => ?_
      refine cj_reg ?_
      refine j_val rfl (fun a w ha => r_move rfl ha) ?_
      refine j_valw rfl (fun a w ha hH hf => r_ldA (vs := [_, _, _]) 0 rfl rfl Try.isAgg138 Try.sizeOf138 rfl rfl rfl ha hH) ?_
      refine j_val rfl (fun a w ha => r_move rfl ha) ?_
      refine j_val rfl (fun a w ha => r_move rfl ha) ?_
      refine j_callN (T := tNI) (cs := cNI i) Try.call47 rfl rfl (fun w' hH hf => nodeInfo_c w' bl maps l ls p ln z _ _ i (hf.blk hl (.inr (by simp))) (hi.imp id fun ⟨bf, f, h1, h2, h3⟩ => ⟨bf, f, h1, hf.blk h2 (.inr (by simp)), h3⟩)) fun b33 => ?_
      refine j_val rfl (fun a w ha => r_assign rfl ha) ?_
      refine j_nil ?_
      refine ej_then (hK11 _ _ _ ?_); clear hK11
      refine CJ.sub (e' := [(0, _), (3, _), (11, _)]) ⟨rfl, rfl, rfl, trivial⟩ ?_
      refine cj_seqF fun K12 hK12 => ?_
      refine cj_reg ?_
      refine j_val rfl (fun a w ha => r_move rfl ha) ?_
      refine j_val rfl (fun a w ha => r_pnneq Try.underlying160 rfl ha) ?_
      refine j_nil ?_
      refine ej_then (hK12 _ _ _ ?_); clear hK12
      refine CJ.sub (e' := [(0, _), (3, _), (11, _), (35, _)]) ⟨rfl, rfl, rfl, rfl, trivial⟩ ?_
      refine cj_if_t rfl ?_
      refine cj_seqF fun K13 hK13 => ?_
      refine cj_drawI 8 [(0, true), (1, true), (2, true), (3, true), (4, true), (5, true), (6, true), (7, true), (8, false), (9, false)] [0] rfl (by kernel_rfl) (by kernel_rfl) ?_
      refine dj_val rfl rfl (sub_of [0] rfl) (fun a w ha => r_move rfl ha) ?_
      refine dj_val rfl rfl (sub_of [0] rfl) (fun a w ha => r_move rfl ha) ?_
      refine dj_val rfl rfl (sub_of [0] rfl) (fun a w ha => r_nil rfl ha) ?_
      refine dj_ld rfl rfl (sub_of [0] rfl) (fun a w ha hS => r_ldSA (vs := [_, _, _, _]) 0 rfl rfl Try.isAgg73 Try.sizeOf73 rfl rfl rfl ha hS) ?_
      refine dj_val rfl rfl (sub_of [0] rfl) (fun a w ha => r_move rfl ha) ?_
      refine dj_val rfl rfl (sub_of [0] rfl) (fun a w ha => r_nil rfl ha) ?_
      refine dj_val rfl rfl (sub_of [0] rfl) (fun a w ha => r_fl (q := 3) (ft := 64) Try.runUnderlying66 rfl Try.sizeOf64 rfl ha) ?_
      refine dj_ld rfl rfl (sub_of [0] rfl) (fun a w ha hS => r_load Try.isAgg64 rfl (hco w (hS.2.keepAll (.inr rfl)) 3 _ rfl) ha) ?_
      refine dj_effT rfl rfl rfl fun K2 hK2 => ?_
      refine j_callE (R := fun w1 v w' => ∃ b ns' ex, v = ptr b ∧ NM B w' mb ns' ∧ (i, b) ∈ ns' ∧ ns' = ns ++ ex ∧ ex.length ≤ 2 ∧ KeepX [mb] w1 w') Try.call48 rfl rfl (fun w1 hH hf => foi_c i B w1 mb ns (hn.keepX (KeepX.of hf) (by simp) (by rw [hmb]; exact hf.keep _ _ hmb (.inr (by simp))))) fun w1 v w2 hH1 hf1 hR => ?_
      obtain ⟨b2, ns2, ex, rfl, hn2, hb2, rfl, hex, hk2⟩ := hR
      refine J.begin ⟨w2, 0, []⟩ [] ok_refl .nil ?_
      refine j_nil (ej_then (hK2 _ _ _ ?_)); clear hK2 K2
      refine dj_effT rfl rfl rfl fun K2 hK2 => ?_
      refine j_val rfl (fun a w ha => r_assign rfl ha) ?_
      refine j_nil (ej_then (hK2 _ _ _ ?_)); clear hK2 K2
      refine dj_end ?_
      refine ej_then (hK13 _ _ _ ?_); clear hK13
      refine CJ.sub (e' := [(8, _)]) ⟨rfl, trivial⟩ ?_
      refine cj_ret (ej_then_ret (?_))
      exact ej_ret1 Try.results38 rfl fun w' hH hf => by
        obtain ⟨es2, ck2, hmb2, -⟩ := hn2.map
        exact ⟨b2, _, ex, rfl, hn2.keepX (KeepX.of hf) (by simp) (by rw [hmb2]; exact hf.keep _ _ hmb2 (.inr (by simp))), hb2, rfl, hex, (((KeepX.of hf1).trans hk2).trans (KeepX.of hf)).drop fun c hc => by simp at hc; subst hc; exact .inl (by simp)⟩
  · refine j_gf rfl rfl rfl rfl ?_
    refine j_gf rfl rfl rfl rfl ?_
    refine j_gf rfl rfl rfl rfl ?_
    refine j_gf rfl rfl rfl rfl ?_
    refine j_gf rfl rfl rfl rfl ?_
    refine j_val rfl (fun a w ha => r_pick_f rfl rfl ha) ?_
    refine j_nil ?_
    refine ej_then (hK5 _ _ _ ?_); clear hK5
    refine CJ.sub (e' := [(0, _), (1, _), (3, _), (6, _), (9, _), (10, _), (24, _)]) ⟨rfl, rfl, rfl, rfl, rfl, rfl, rfl, trivial⟩ ?_
    refine cj_if_f rfl ?_
    refine cj_skip (ej_then (hK3 _ _ _ ?_)); clear hK3
    refine CJ.sub (e' := [(0, _), (1, _), (3, _), (6, _), (9, _)]) ⟨rfl, rfl, rfl, rfl, rfl, trivial⟩ ?_
    refine cj_seqF fun K14 hK14 => ?_
    refine cj_seqF fun K15 hK15 => ?_
    refine cj_reg ?_
    refine j_val rfl (fun a w ha => r_move rfl ha) ?_
    refine j_valw rfl (fun a w ha hH hf => r_ldA (vs := [_, _, _]) 0 rfl rfl Try.isAgg138 Try.sizeOf138 rfl rfl rfl ha hH) ?_
    refine j_val rfl (fun a w ha => r_move rfl ha) ?_
    refine j_val rfl (fun a w ha => r_move rfl ha) ?_
    refine j_callN (T := tNI) (cs := cNI i) Try.call47 rfl rfl (fun w' hH hf => nodeInfo_c w' bl maps l ls p ln z _ _ i (hf.blk hl (.inr (by simp))) (hi.imp id fun ⟨bf, f, h1, h2, h3⟩ => ⟨bf, f, h1, hf.blk h2 (.inr (by simp)), h3⟩)) fun b33 => ?_
    refine j_val rfl (fun a w ha => r_assign rfl ha) ?_
    refine j_nil ?_
    refine ej_then (hK15 _ _ _ ?_); clear hK15
    refine CJ.sub (e' := [(0, _), (3, _), (11, _)]) ⟨rfl, rfl, rfl, trivial⟩ ?_
    refine cj_seqF fun K16 hK16 => ?_
    refine cj_reg ?_
    refine j_val rfl (fun a w ha => r_move rfl ha) ?_
    refine j_val rfl (fun a w ha => r_pnneq Try.underlying160 rfl ha) ?_
    refine j_nil ?_
    refine ej_then (hK16 _ _ _ ?_); clear hK16
    refine CJ.sub (e' := [(0, _), (3, _), (11, _), (35, _)]) ⟨rfl, rfl, rfl, rfl, trivial⟩ ?_
    refine cj_if_t rfl ?_
    refine cj_seqF fun K17 hK17 => ?_
    refine cj_drawI 8 [(0, true), (1, true), (2, true), (3, true), (4, true), (5, true), (6, true), (7, true), (8, false), (9, false)] [0] rfl (by kernel_rfl) (by kernel_rfl) ?_
    refine dj_val rfl rfl (sub_of [0] rfl) (fun a w ha => r_move rfl ha) ?_
    refine dj_val rfl rfl (sub_of [0] rfl) (fun a w ha => r_move rfl ha) ?_
    refine dj_val rfl rfl (sub_of [0] rfl) (fun a w ha => r_nil rfl ha) ?_
    refine dj_ld rfl rfl (sub_of [0] rfl) (fun a w ha hS => r_ldSA (vs := [_, _, _, _]) 0 rfl rfl Try.isAgg73 Try.sizeOf73 rfl rfl rfl ha hS) ?_
    refine dj_val rfl rfl (sub_of [0] rfl) (fun a w ha => r_move rfl ha) ?_
    refine dj_val rfl rfl (sub_of [0] rfl) (fun a w ha => r_nil rfl ha) ?_
    refine dj_val rfl rfl (sub_of [0] rfl) (fun a w ha => r_fl (q := 3) (ft := 64) Try.runUnderlying66 rfl Try.sizeOf64 rfl ha) ?_
    refine dj_ld rfl rfl (sub_of [0] rfl) (fun a w ha hS => r_load Try.isAgg64 rfl (hco w (hS.2.keepAll (.inr rfl)) 3 _ rfl) ha) ?_
    refine dj_effT rfl rfl rfl fun K2 hK2 => ?_
    refine j_callE (R := fun w1 v w' => ∃ b ns' ex, v = ptr b ∧ NM B w' mb ns' ∧ (i, b) ∈ ns' ∧ ns' = ns ++ ex ∧ ex.length ≤ 2 ∧ KeepX [mb] w1 w') Try.call48 rfl rfl (fun w1 hH hf => foi_c i B w1 mb ns (hn.keepX (KeepX.of hf) (by simp) (by rw [hmb]; exact hf.keep _ _ hmb (.inr (by simp))))) fun w1 v w2 hH1 hf1 hR => ?_
    obtain ⟨b2, ns2, ex, rfl, hn2, hb2, rfl, hex, hk2⟩ := hR
    refine J.begin ⟨w2, 0, []⟩ [] ok_refl .nil ?_
    refine j_nil (ej_then (hK2 _ _ _ ?_)); clear hK2 K2
    refine dj_effT rfl rfl rfl fun K2 hK2 => ?_
    refine j_val rfl (fun a w ha => r_assign rfl ha) ?_
    refine j_nil (ej_then (hK2 _ _ _ ?_)); clear hK2 K2
    refine dj_end ?_
    refine ej_then (hK17 _ _ _ ?_); clear hK17
    refine CJ.sub (e' := [(8, _)]) ⟨rfl, trivial⟩ ?_
    refine cj_ret (ej_then_ret (?_))
    exact ej_ret1 Try.results38 rfl fun w' hH hf => by
      obtain ⟨es2, ck2, hmb2, -⟩ := hn2.map
      exact ⟨b2, _, ex, rfl, hn2.keepX (KeepX.of hf) (by simp) (by rw [hmb2]; exact hf.keep _ _ hmb2 (.inr (by simp))), hb2, rfl, hex, (((KeepX.of hf1).trans hk2).trans (KeepX.of hf)).drop fun c hc => by simp at hc; subst hc; exact .inl (by simp)⟩
end Go.Proofs.Ytgjpegehmbebpaa
