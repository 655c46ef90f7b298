/-
  The graph's nodes and edges in memory, and what turns them. Conditions: as each lemma states them.
-/
import Derived.Test.YtgjpegehmbebpaaGp
import Derived.Test.YtgjpegehmbebpaaFwL
namespace Go.Proofs.Ytgjpegehmbebpaa
open Go Go.Fw Go.Proofs
abbrev tNode : Nat := 77
abbrev tEdge : Nat := 152
abbrev pEdge : Nat := 149
abbrev pNode : Nat := 71
structure NI where (name : ByteArray) (addr start line : Int)
deriving DecidableEq
def cNode (i : NI) (fn : Value) (fl fd cu cd : Int) (ein eout : Value) : List Value := [.string i.name, .int .u64 i.addr, .int .i64 i.start, .int .i64 i.line, fn, .int .i64 fl, .int .i64 fd, .int .i64 cu, .int .i64 cd, ein, eout]
def IsNode (w : World) (b : Nat) : Prop := ∃ cs, Blk w b tNode cs
structure IsEdge (w : World) (e : Nat) : Prop where
  ex : ∃ s d wt wd r i, Blk w e tEdge [ptr s, ptr d, .int .i64 wt, .int .i64 wd, .bool r, .bool i] ∧ IsNode w d
structure EdgeSl (B N : Nat) (w : World) (v : Value) : Prop where
  ex : ∃ p l c, v = .slice p l c ∧ l ≤ c ∧ l ≤ N ∧ ((p = none ∧ c = 0) ∨ ∃ b cs, p = some ⟨b, 0, none⟩ ∧ B ≤ b ∧ Blk w b pEdge cs ∧ cs.length = c ∧ ∀ j, j < l → ∃ e, cs[j]? = some (ptr e) ∧ B ≤ e ∧ IsEdge w e)
structure NodeAt (B N : Nat) (w : World) (b : Nat) (i : NI) (fl cu : Int) : Prop where
  ge : B ≤ b
  ex : ∃ fn fd cd ein eout, Blk w b tNode (cNode i (.pointer fn) fl fd cu cd ein eout) ∧ EdgeSl B N w ein ∧ EdgeSl B N w eout
theorem KeepX.node {w w' : World} {l : List Nat} (k : KeepX l w w') (hl : ∀ b ∈ l, IsNode w b → IsNode w' b) {b : Nat} (h : IsNode w b) : IsNode w' b := by
  by_cases hb : b ∈ l
  · exact hl b hb h
  · obtain ⟨cs, h⟩ := h
    exact ⟨cs, k.blk h hb⟩
/-- what is a node, an edge, a slice of edges is so still -/
structure Ext (B : Nat) (w w' : World) : Prop where
  node : ∀ b, IsNode w b → IsNode w' b
  edge : ∀ e, IsEdge w e → IsEdge w' e
  sl : ∀ N v, EdgeSl B N w v → EdgeSl B N w' v
theorem Ext.refl {B : Nat} {w : World} : Ext B w w := ⟨fun _ h => h, fun _ h => h, fun _ _ h => h⟩
theorem Ext.trans {B : Nat} {w w1 w2 : World} (h : Ext B w w1) (k : Ext B w1 w2) : Ext B w w2 := ⟨fun b hb => k.node b (h.node b hb), fun b hb => k.edge b (h.edge b hb), fun N b hb => k.sl N b (h.sl N b hb)⟩
theorem Blk.tag_ne {w : World} {b T U : Nat} {cs ds : List Value} (h : Blk w b T cs) (k : Blk w b U ds) : T = U := by
  have h1 : w.heap[b]? = some (.cells cs.toArray T (0, 0)) := h
  have h2 : w.heap[b]? = some (.cells ds.toArray U (0, 0)) := k
  rw [h1] at h2; cases h2; rfl
/-- one node turned -/
theorem Ext.node1 {B : Nat} {w w' : World} {n : Nat} {cs cs' : List Value} (k : KeepX [n] w w') (h : Blk w n tNode cs) (h' : Blk w' n tNode cs') : Ext B w w' := by
  have hn : ∀ b, IsNode w b → IsNode w' b := fun b hb => KeepX.node k (fun c hc _ => by simp at hc; subst hc; exact ⟨_, h'⟩) hb
  have he : ∀ e, IsEdge w e → IsEdge w' e := fun e ⟨s, d, wt, wd, r, i, h1, h2⟩ => ⟨s, d, wt, wd, r, i, k.blk h1 (by simp; rintro rfl; have := Blk.tag_ne h1 h; revert this; decide), hn d h2⟩
  refine ⟨hn, he, fun N v ⟨p, l, c, h1, h2, h3, h4⟩ => ⟨p, l, c, h1, h2, h3, ?_⟩⟩
  rcases h4 with h4 | ⟨b, cs, h5, h6, h7, h8, h9⟩
  · exact .inl h4
  · refine .inr ⟨b, cs, h5, h6, k.blk h7 (by simp; rintro rfl; have := Blk.tag_ne h7 h; revert this; decide), h8, fun j hj => ?_⟩
    obtain ⟨e, ha, hb, hc⟩ := h9 j hj
    exact ⟨e, ha, hb, he e hc⟩
theorem NodeAt.ext {B N : Nat} {w w' : World} {b : Nat} {i : NI} {fl cu : Int} (h : NodeAt B N w b i fl cu) (k : Ext B w w') (hb : ∀ cs, Blk w b tNode cs → Blk w' b tNode cs) : NodeAt B N w' b i fl cu := by
  obtain ⟨fn, fd, cd, ein, eout, h1, h2, h3⟩ := h.ex
  exact ⟨h.ge, fn, fd, cd, ein, eout, hb _ h1, k.sl _ _ h2, k.sl _ _ h3⟩
theorem EdgeSl.mono {B N M : Nat} {w : World} {v : Value} (h : EdgeSl B N w v) (hM : N ≤ M) : EdgeSl B M w v := by
  obtain ⟨p, l, c, h1, h2, h3, h4⟩ := h.ex
  exact ⟨p, l, c, h1, h2, Nat.le_trans h3 hM, h4⟩
theorem NodeAt.mono {B N M : Nat} {w : World} {b : Nat} {i : NI} {fl cu : Int} (h : NodeAt B N w b i fl cu) (hM : N ≤ M) : NodeAt B M w b i fl cu := by
  obtain ⟨fn, fd, cd, ein, eout, h1, h2, h3⟩ := h.ex
  exact ⟨h.ge, fn, fd, cd, ein, eout, h1, h2.mono hM, h3.mono hM⟩
/-- nodes of a list turned, edges and their arrays turned such as leaves them what they are -/
structure Chg (B : Nat) (l : List Nat) (w w' : World) : Prop where
  fr : Fr B [tNode, tEdge, pEdge] w w'
  node : ∀ b cs, b ∉ l → Blk w b tNode cs → Blk w' b tNode cs
  ext : Ext B w w'
theorem Chg.trans {B : Nat} {l m : List Nat} {w w1 w2 : World} (h : Chg B l w w1) (k : Chg B m w1 w2) : Chg B (l ++ m) w w2 :=
  ⟨h.fr.trans k.fr (.inr ⟨Nat.le_refl _, fun _ h => h⟩), fun b cs hb hc => by
    simp only [List.mem_append, not_or] at hb
    exact k.node b cs hb.2 (h.node b cs hb.1 hc), h.ext.trans k.ext⟩
theorem Fr.ext {B : Nat} {w w' : World} (h : Fr 0 [] w w') : Ext B w w' := by
  have hk : ∀ b T cs, Blk w b T cs → Blk w' b T cs := fun b T cs hb => h.blk hb (.inr (by simp))
  have hn : ∀ b, IsNode w b → IsNode w' b := fun b ⟨cs, hb⟩ => ⟨cs, hk _ _ _ hb⟩
  have he : ∀ e, IsEdge w e → IsEdge w' e := fun e ⟨s, d, wt, wd, r, i, h1, h2⟩ => ⟨s, d, wt, wd, r, i, hk _ _ _ h1, hn d h2⟩
  refine ⟨hn, he, fun N v ⟨p, l, c, h1, h2, h3, h4⟩ => ⟨p, l, c, h1, h2, h3, ?_⟩⟩
  rcases h4 with h4 | ⟨b, cs, h5, h6, h7, h8, h9⟩
  · exact .inl h4
  · refine .inr ⟨b, cs, h5, h6, hk _ _ _ h7, h8, fun j hj => ?_⟩
    obtain ⟨e, ha, hb, hc⟩ := h9 j hj
    exact ⟨e, ha, hb, he e hc⟩
theorem Chg.quiet {B : Nat} {l : List Nat} {w w' : World} (h : Fr 0 [] w w') : Chg B l w w' := ⟨h.quiet _ _, fun b cs _ hb => h.blk hb (.inr (by simp)), Fr.ext h⟩
theorem Chg.mono {B : Nat} {l m : List Nat} {w w' : World} (h : Chg B l w w') (hl : ∀ b ∈ l, b ∈ m) : Chg B m w w' := ⟨h.fr, fun b cs hb => h.node b cs fun hc => hb (hl b hc), h.ext⟩
theorem addSample_c (B N : Nat) (w : World) (n : Nat) (i : NI) (fl cu dw v : Int) (flat : Bool) (h : NodeAt B N w n i fl cu) :
    Calls Try.prog 29 #[ptr n, .int .i64 dw, .int .i64 v, .bool flat] w (Ret fun _ w' => KeepX [n] w w' ∧ Ext B w w' ∧ NodeAt B N w' n i (if flat then IntKind.i64.wrap (fl + v) else fl) (if flat then cu else IntKind.i64.wrap (cu + v))) := by
  obtain ⟨fn, fd, cd, ein, eout, h1, h2, h3⟩ := h.ex
  obtain ⟨⟨pi, li, ci, rfl, -⟩⟩ := id h2
  obtain ⟨⟨po, lo, co, rfl, -⟩⟩ := id h3
  refine startJ (args := [_, _, _, _]) [(0, _), (1, _), (2, _), (3, _)] B [tNode] _ Try.func29 rfl Try.ntmps29 rfl rfl (Hp.one h1 h.ge rfl) ?_
  refine cj_seqF fun K1 hK1 => ?_
  refine cj_reg ?_
  refine j_val rfl (fun a w ha => r_move rfl ha) ?_
  refine j_nil ?_
  refine ej_then (hK1 _ _ _ ?_); clear hK1
  refine CJ.sub (e' := [(0, _), (1, _), (2, _), (8, _)]) ⟨rfl, rfl, rfl, rfl, trivial⟩ ?_
  refine cj_if rfl (fun h8 => ?_) (fun h8 => ?_)
  · refine cj_seqF fun K2 hK2 => ?_
    refine cj_reg ?_
    refine j_val rfl (fun a w ha => r_move rfl ha) ?_
    refine j_val rfl (fun a w ha => r_nil rfl ha) ?_
    refine j_val rfl (fun a w ha => r_fl (q := 6) (ft := 2) Try.runUnderlying77 rfl Try.sizeOf2 rfl ha) ?_
    refine j_valw rfl (fun a w ha hH hf => r_ldH 0 rfl rfl Try.isAgg2 rfl rfl ha hH) ?_
    refine j_val rfl (fun a w ha => r_move rfl ha) ?_
    refine j_val rfl (fun a w ha => r_add rfl rfl ha) ?_
    refine j_val rfl (fun a w ha => r_nil rfl ha) ?_
    refine j_val rfl (fun a w ha => r_fl (q := 6) (ft := 2) Try.runUnderlying77 rfl Try.sizeOf2 rfl ha) ?_
    refine j_storeN (cs' := [_, _, _, _, _, _, _, _, _, _, _]) (H' := (_ :: _)) 0 rfl rfl rfl rfl Try.sizeOf2 rfl rfl rfl rfl rfl rfl rfl ?_
    refine j_nil ?_
    refine ej_then (hK2 _ _ _ ?_); clear hK2
    refine CJ.sub (e' := [(0, _), (2, _)]) ⟨rfl, rfl, trivial⟩ ?_
    refine cj_reg ?_
    refine j_val rfl (fun a w ha => r_move rfl ha) ?_
    refine j_val rfl (fun a w ha => r_nil rfl ha) ?_
    refine j_val rfl (fun a w ha => r_fl (q := 5) (ft := 2) Try.runUnderlying77 rfl Try.sizeOf2 rfl ha) ?_
    refine j_valw rfl (fun a w ha hH hf => r_ldH 0 rfl rfl Try.isAgg2 rfl rfl ha hH) ?_
    refine j_val rfl (fun a w ha => r_move rfl ha) ?_
    refine j_val rfl (fun a w ha => r_add rfl rfl ha) ?_
    refine j_val rfl (fun a w ha => r_nil rfl ha) ?_
    refine j_val rfl (fun a w ha => r_fl (q := 5) (ft := 2) Try.runUnderlying77 rfl Try.sizeOf2 rfl ha) ?_
    refine j_storeN (cs' := [_, _, _, _, _, _, _, _, _, _, _]) (H' := (_ :: _)) 0 rfl rfl rfl rfl Try.sizeOf2 rfl rfl rfl rfl rfl rfl rfl ?_
    refine j_nil ?_
    refine ?_
    refine ej_end0 Try.results29 fun w' hH hf => ?_
    have hk := Hp.keepX (l := [n]) hH.2.2.2 hf
    have hb' := hH.get (i := 0) rfl rfl
    have hx := Ext.node1 (B := B) hk h1 hb'
    subst h8
    exact ⟨hk, hx, h.ge, _, _, _, _, _, hb', hx.sl _ _ h2, hx.sl _ _ h3⟩
  · refine cj_seqF fun K3 hK3 => ?_
    refine cj_reg ?_
    refine j_val rfl (fun a w ha => r_move rfl ha) ?_
    refine j_val rfl (fun a w ha => r_nil rfl ha) ?_
    refine j_val rfl (fun a w ha => r_fl (q := 8) (ft := 2) Try.runUnderlying77 rfl Try.sizeOf2 rfl ha) ?_
    refine j_valw rfl (fun a w ha hH hf => r_ldH 0 rfl rfl Try.isAgg2 rfl rfl ha hH) ?_
    refine j_val rfl (fun a w ha => r_move rfl ha) ?_
    refine j_val rfl (fun a w ha => r_add rfl rfl ha) ?_
    refine j_val rfl (fun a w ha => r_nil rfl ha) ?_
    refine j_val rfl (fun a w ha => r_fl (q := 8) (ft := 2) Try.runUnderlying77 rfl Try.sizeOf2 rfl ha) ?_
    refine j_storeN (cs' := [_, _, _, _, _, _, _, _, _, _, _]) (H' := (_ :: _)) 0 rfl rfl rfl rfl Try.sizeOf2 rfl rfl rfl rfl rfl rfl rfl ?_
    refine j_nil ?_
    refine ej_then (hK3 _ _ _ ?_); clear hK3
    refine CJ.sub (e' := [(0, _), (2, _)]) ⟨rfl, rfl, trivial⟩ ?_
    refine cj_reg ?_
    refine j_val rfl (fun a w ha => r_move rfl ha) ?_
    refine j_val rfl (fun a w ha => r_nil rfl ha) ?_
    refine j_val rfl (fun a w ha => r_fl (q := 7) (ft := 2) Try.runUnderlying77 rfl Try.sizeOf2 rfl ha) ?_
    refine j_valw rfl (fun a w ha hH hf => r_ldH 0 rfl rfl Try.isAgg2 rfl rfl ha hH) ?_
    refine j_val rfl (fun a w ha => r_move rfl ha) ?_
    refine j_val rfl (fun a w ha => r_add rfl rfl ha) ?_
    refine j_val rfl (fun a w ha => r_nil rfl ha) ?_
    refine j_val rfl (fun a w ha => r_fl (q := 7) (ft := 2) Try.runUnderlying77 rfl Try.sizeOf2 rfl ha) ?_
    refine j_storeN (cs' := [_, _, _, _, _, _, _, _, _, _, _]) (H' := (_ :: _)) 0 rfl rfl rfl rfl Try.sizeOf2 rfl rfl rfl rfl rfl rfl rfl ?_
    refine j_nil ?_
    refine ?_
    refine ej_end0 Try.results29 fun w' hH hf => ?_
    have hk := Hp.keepX (l := [n]) hH.2.2.2 hf
    have hb' := hH.get (i := 0) rfl rfl
    have hx := Ext.node1 (B := B) hk h1 hb'
    subst h8
    exact ⟨hk, hx, h.ge, _, _, _, _, _, hb', hx.sl _ _ h2, hx.sl _ _ h3⟩
theorem isNegative_c (B N : Nat) (w : World) (n : Nat) (i : NI) (fl cu : Int) (h : NodeAt B N w n i fl cu) : Calls Try.prog 43 #[ptr n] w (Ret fun v w' => (∃ b, v = .bool b) ∧ Fr 0 [] w w') := by
  obtain ⟨fn, fd, cd, ein, eout, h1, h2, h3⟩ := h.ex
  refine startJ (args := [_]) [(0, _)] 0 [] [⟨n, tNode, _, false, true, none⟩] Try.func43 rfl Try.ntmps43 rfl rfl (Hp.nil.add h1 (fun h => by cases h) (by simp)) ?_
  refine cj_seqF fun K1 hK1 => ?_
  refine cj_reg ?_
  refine j_val rfl (fun a w ha => r_assign rfl ha) ?_
  refine j_nil ?_
  refine ej_then (hK1 _ _ _ ?_); clear hK1
  refine CJ.sub (e' := [(0, _)]) ⟨rfl, trivial⟩ ?_
  refine cj_block ?_
  refine cj_seqF fun K2 hK2 => ?_
  refine cj_reg ?_
  refine j_val rfl (fun a w ha => r_move rfl ha) ?_
  refine j_val rfl (fun a w ha => r_nil rfl ha) ?_
  refine j_val rfl (fun a w ha => r_fl (q := 5) (ft := 2) Try.runUnderlying77 rfl Try.sizeOf2 rfl ha) ?_
  refine j_valw rfl (fun a w ha hH hf => r_ldH 0 rfl rfl Try.isAgg2 rfl rfl ha hH) ?_
  refine j_val rfl (fun a w ha => r_lss rfl rfl ha) ?_
  refine j_val rfl (fun a w ha => r_assign rfl ha) ?_
  refine j_nil ?_
  refine ej_then (hK2 _ _ _ ?_); clear hK2
  refine CJ.sub (e' := [(0, _), (3, _)]) ⟨rfl, rfl, trivial⟩ ?_
  refine cj_if rfl (fun _ => ?_) (fun _ => ?_)
  · refine cj_seqF fun K3 hK3 => ?_
    refine cj_reg ?_
    refine j_val rfl (fun a w ha => r_assign rfl ha) ?_
    refine j_nil ?_
    refine ej_then (hK3 _ _ _ ?_); clear hK3
    refine CJ.sub (e' := [(2, _)]) ⟨rfl, trivial⟩ ?_
    refine cj_ret (ej_blk_ret (?_))
    exact ej_ret1 Try.results43 rfl fun w' hH hf => ⟨⟨_, rfl⟩, hf⟩
  · refine cj_seqF fun K4 hK4 => ?_
    refine cj_reg ?_
    refine j_val rfl (fun a w ha => r_move rfl ha) ?_
    refine j_val rfl (fun a w ha => r_nil rfl ha) ?_
    refine j_val rfl (fun a w ha => r_fl (q := 5) (ft := 2) Try.runUnderlying77 rfl Try.sizeOf2 rfl ha) ?_
    refine j_valw rfl (fun a w ha hH hf => r_ldH 0 rfl rfl Try.isAgg2 rfl rfl ha hH) ?_
    refine j_val rfl (fun a w ha => r_eql rfl rfl ha) ?_
    refine j_val rfl (fun a w ha => r_move rfl ha) ?_
    refine j_split (t := 15) rfl (fun hg15 => ?_) (fun hg15 => ?_)
    · refine j_gt rfl rfl ?_
      refine j_val rfl (fun a w ha => r_move rfl ha) ?_
      refine j_gt rfl rfl ?_
      refine j_val rfl (fun a w ha => r_nil rfl ha) ?_
      refine j_gt rfl rfl ?_
      refine j_val rfl (fun a w ha => r_fl (q := 7) (ft := 2) Try.runUnderlying77 rfl Try.sizeOf2 rfl ha) ?_
      refine j_gt rfl rfl ?_
      refine j_valw rfl (fun a w ha hH hf => r_ldH 0 rfl rfl Try.isAgg2 rfl rfl ha hH) ?_
      refine j_gt rfl rfl ?_
      refine j_val rfl (fun a w ha => r_lss rfl rfl ha) ?_
      refine j_val rfl (fun a w ha => r_pick_t rfl rfl ha) ?_
      refine j_val rfl (fun a w ha => r_assign rfl ha) ?_
      refine j_nil ?_
      refine ej_then (hK4 _ _ _ ?_); clear hK4
      refine CJ.sub (e' := [(9, _)]) ⟨rfl, trivial⟩ ?_
      refine cj_if rfl (fun _ => ?_) (fun _ => ?_)
      · refine cj_seqF fun K5 hK5 => ?_
        refine cj_reg ?_
        refine j_val rfl (fun a w ha => r_assign rfl ha) ?_
        refine j_nil ?_
        refine ej_then (hK5 _ _ _ ?_); clear hK5
        refine CJ.sub (e' := [(2, _)]) ⟨rfl, trivial⟩ ?_
        refine cj_ret (ej_blk_ret (?_))
        exact ej_ret1 Try.results43 rfl fun w' hH hf => ⟨⟨_, rfl⟩, hf⟩
      · refine cj_seqF fun K6 hK6 => ?_
        refine cj_reg ?_
        refine j_val rfl (fun a w ha => r_assign rfl ha) ?_
        refine j_nil ?_
        refine ej_then (hK6 _ _ _ ?_); clear hK6
        refine CJ.sub (e' := [(2, _)]) ⟨rfl, trivial⟩ ?_
        refine cj_ret (ej_blk_ret (?_))
        exact ej_ret1 Try.results43 rfl fun w' hH hf => ⟨⟨_, rfl⟩, hf⟩
    · refine j_gf rfl rfl rfl rfl ?_
      refine j_gf rfl rfl rfl rfl ?_
      refine j_gf rfl rfl rfl rfl ?_
      refine j_gf rfl rfl rfl rfl ?_
      refine j_gf rfl rfl rfl rfl ?_
      refine j_val rfl (fun a w ha => r_pick_f rfl rfl ha) ?_
      refine j_val rfl (fun a w ha => r_assign rfl ha) ?_
      refine j_nil ?_
      refine ej_then (hK4 _ _ _ ?_); clear hK4
      refine CJ.sub (e' := [(9, _)]) ⟨rfl, trivial⟩ ?_
      refine cj_if_f rfl ?_
      refine cj_seqF fun K7 hK7 => ?_
      refine cj_reg ?_
      refine j_val rfl (fun a w ha => r_assign rfl ha) ?_
      refine j_nil ?_
      refine ej_then (hK7 _ _ _ ?_); clear hK7
      refine CJ.sub (e' := [(2, _)]) ⟨rfl, trivial⟩ ?_
      refine cj_ret (ej_blk_ret (?_))
      exact ej_ret1 Try.results43 rfl fun w' hH hf => ⟨⟨_, rfl⟩, hf⟩
theorem findTo_c (B N : Nat) (w0 w : World) (n : Nat) (v : Value) (h : EdgeSl B N w0 v) (hN : N ≤ 1000000000) (hn : IsNode w0 n) (k0 : Fr 0 [] w0 w) : Calls Try.prog 41 #[v, ptr n] w (Ret fun v w' => (∃ p, v = .pointer p ∧ (p = none ∨ ∃ e, p = some ⟨e, 0, none⟩ ∧ B ≤ e ∧ IsEdge w0 e)) ∧ Fr 0 [] w w') := by
  obtain ⟨p, l, c, rfl, h2, h3, h4⟩ := h.ex
  obtain ⟨ncs, hn⟩ := hn
  have hK0 := k0.keepAll (.inr rfl)
  refine startJ (args := [_, _]) [(0, _), (1, _)] 0 [] [] Try.func41 rfl Try.ntmps41 rfl rfl .nil ?_
  refine cj_seqF fun K1 hK1 => ?_
  refine cj_reg ?_
  refine j_val rfl (fun a w ha => r_assign rfl ha) ?_
  refine j_nil ?_
  refine ej_then (hK1 _ _ _ ?_); clear hK1
  refine CJ.sub (e' := [(0, _), (1, _)]) ⟨rfl, rfl, trivial⟩ ?_
  refine cj_seqF fun K2 hK2 => ?_
  refine cj_seqF fun K3 hK3 => ?_
  refine cj_reg ?_
  refine j_val rfl (fun a w ha => r_move rfl ha) ?_
  refine j_val rfl (fun a w ha => r_len Try.runUnderlying75 rfl ha) ?_
  refine j_val rfl (fun a w ha => r_move rfl ha) ?_
  refine j_nil ?_
  refine ej_then (hK3 _ _ _ ?_); clear hK3
  refine CJ.sub (e' := [(1, _), (7, _), (8, _), (9, _)]) ⟨rfl, rfl, rfl, rfl, trivial⟩ ?_
  refine cj_block ?_
  -- LOOP 0 live [1, 7, 8, 9]
  refine cj_loop (σ := Nat) (fun k => [(1, ptr n), (7, .slice p l c), (8, .int .i64 (l : Nat)), (9, .int .i64 (k : Nat))]) (fun _ => []) (fun k _ => k ≤ l) (fun k => l - k) 0 ⟨rfl, rfl, rfl, rfl, trivial⟩ (fun w hH hf => ⟨.nil, Nat.zero_le _⟩) ?_
  intro k w1 hk hf1 hH1 KL hKL
  refine C.begin _ [] hf1 .nil ?_
  refine cj_seqF fun K4 hK4 => ?_
  refine cj_reg ?_
  refine j_val rfl (fun a w ha => r_lss rfl rfl ha) ?_
  refine j_nil ?_
  refine ej_then (hK4 _ _ _ ?_); clear hK4
  refine CJ.sub (e' := [(1, _), (7, _), (8, _), (9, _), (10, _)]) ⟨rfl, rfl, rfl, rfl, rfl, trivial⟩ ?_
  refine cj_seqF fun K5 hK5 => ?_
  refine cj_dec rfl (fun hlt => ?_) (fun hlt => ?_)
  · have hlt' : k < l := by omega
    obtain ⟨rfl, hc0⟩ | ⟨b, cs, rfl, hb1, hb2, hb3, hb4⟩ := h4
    · omega
    obtain ⟨e, he1, he2, he3⟩ := hb4 k hlt'
    obtain ⟨s, dd, wt, wd, r, i, he4, ⟨dcs, he5⟩⟩ := id he3
    have hcell : ∀ w', Keep w0 w' → ∀ (j : Nat) (u : Value), [ptr e][j]? = some u → w'.cell? ⟨b, 0 + k * 1 + j, none⟩ = some u := by
      intro w' kp j u hu
      refine kp.cell ?_
      rw [hb2.cell]
      cases j with
      | zero => simp at hu; subst hu; simpa using he1
      | succ j => simp at hu
    have hedge : ∀ w', Keep w0 w' → ∀ (j : Nat) (u : Value), [ptr s, ptr dd, .int .i64 wt, .int .i64 wd, .bool r, .bool i][j]? = some u → w'.cell? ⟨e, 0 + j, none⟩ = some u := by
      intro w' kp j u hu
      refine kp.cell ?_
      rw [he4.cell, Nat.zero_add]; exact hu
    refine cj_skip (ej_then (hK5 _ _ _ ?_)); clear hK5
    refine CJ.sub (e' := [(1, _), (7, _), (8, _), (9, _)]) ⟨rfl, rfl, rfl, rfl, trivial⟩ ?_
    refine cj_seqF fun K6 hK6 => ?_
    refine cj_block ?_
    refine cj_seqF fun K7 hK7 => ?_
    refine cj_reg ?_
    refine j_val rfl (fun a w ha => r_idx Try.runUnderlying75 Try.sizeOf149 rfl rfl (by omega) ha) ?_
    refine j_valw rfl (fun a w ha hH hf => r_load Try.isAgg149 rfl (hcell w (hK0.trans (hf.keepAll (.inr rfl))) 0 _ rfl) ha) ?_
    refine j_val rfl (fun a w ha => r_assign rfl ha) ?_
    refine j_nil ?_
    refine ej_then (hK7 _ _ _ ?_); clear hK7
    refine CJ.sub (e' := [(1, _), (6, _), (7, _), (8, _), (9, _)]) ⟨rfl, rfl, rfl, rfl, rfl, trivial⟩ ?_
    refine cj_seqF fun K8 hK8 => ?_
    refine cj_reg ?_
    refine j_val rfl (fun a w ha => r_move rfl ha) ?_
    refine j_val rfl (fun a w ha => r_nil rfl ha) ?_
    refine j_val rfl (fun a w ha => r_fl (q := 1) (ft := 71) Try.runUnderlying152 rfl Try.sizeOf71 rfl ha) ?_
    refine j_valw rfl (fun a w ha hH hf => r_load Try.isAgg71 rfl (hedge w (hK0.trans (hf.keepAll (.inr rfl))) 1 _ rfl) ha) ?_
    refine j_val rfl (fun a w ha => r_move rfl ha) ?_
    refine j_valw rfl (fun a w' ha hH hf => r_peql Try.underlying71 nf77 ns77 rfl rfl (hf.blk (k0.blk he5 (.inr (by simp))) (.inr (by simp))) (hf.blk (k0.blk hn (.inr (by simp))) (.inr (by simp))) ha) ?_
    refine j_nil ?_
    refine ej_then (hK8 _ _ _ ?_); clear hK8
    refine CJ.sub (e' := [(1, _), (6, _), (7, _), (8, _), (9, _), (18, _)]) ⟨rfl, rfl, rfl, rfl, rfl, rfl, trivial⟩ ?_
    refine cj_dec rfl (fun h18 => ?_) (fun h18 => ?_)
    · refine cj_seqF fun K9 hK9 => ?_
      refine cj_reg ?_
      refine j_val rfl (fun a w ha => r_move rfl ha) ?_
      refine j_val rfl (fun a w ha => r_assign rfl ha) ?_
      refine j_nil ?_
      refine ej_then (hK9 _ _ _ ?_); clear hK9
      refine CJ.sub (e' := [(4, _)]) ⟨rfl, trivial⟩ ?_
      refine cj_ret (ej_blk_ret (ej_then_ret (ej_then_ret (ej_blk_ret (ej_then_ret (?_))))))
      first | exact ej_ret1 Try.results41 rfl fun w' hH hf => ⟨⟨_, rfl, .inl rfl⟩, hf⟩ | exact ej_ret1 Try.results41 rfl fun w' hH hf => ⟨⟨_, rfl, .inr ⟨e, rfl, he2, he3⟩⟩, hf⟩
    · refine cj_skip (ej_blk (ej_then (hK6 _ _ _ ?_))); clear hK6
      refine CJ.sub (e' := [(1, _), (7, _), (8, _), (9, _)]) ⟨rfl, rfl, rfl, rfl, trivial⟩ ?_
      refine cj_reg ?_
      refine j_val rfl (fun a w ha => r_inc (by omega) rfl rfl ha) ?_
      refine j_val rfl (fun a w ha => r_move rfl ha) ?_
      refine j_nil ?_
      refine ej_then ?_
      exact fun w hH hf => hKL (k + 1) _ w hlt' hf .nil (by omega) ⟨rfl, rfl, rfl, rfl, trivial⟩
  · refine cj_exit (ej_then_exit (ej_then_exit (ej_blk_hit (ej_then (hK2 _ _ _ ?_))))); clear hK2
    refine CJ.sub (e' := []) trivial ?_
    refine cj_seqF fun K10 hK10 => ?_
    refine cj_reg ?_
    refine j_val rfl (fun a w ha => r_assign rfl ha) ?_
    refine j_nil ?_
    refine ej_then (hK10 _ _ _ ?_); clear hK10
    refine CJ.sub (e' := [(4, _)]) ⟨rfl, trivial⟩ ?_
    refine cj_ret (?_)
    first | exact ej_ret1 Try.results41 rfl fun w' hH hf => ⟨⟨_, rfl, .inl rfl⟩, hf⟩ | exact ej_ret1 Try.results41 rfl fun w' hH hf => ⟨⟨_, rfl, .inr ⟨e, rfl, he2, he3⟩⟩, hf⟩

theorem EdgeSl.own {B N : Nat} {w : World} {v : Value} (h : EdgeSl B N w v) : ∃ y p l c xs, v = .slice p l c ∧ Own pEdge 1 y p l c xs ∧ l ≤ N ∧ (y.on = true → B ≤ y.b ∧ Blk w y.b pEdge y.cs) ∧ (∀ (j : Nat), j < l → ∃ e, xs[j]? = some (ptr e) ∧ B ≤ e ∧ IsEdge w e) ∧ (y.on = false → y = nilE pEdge) := by
  obtain ⟨p, l, c, rfl, h2, h3, h4⟩ := h.ex
  rcases h4 with ⟨rfl, rfl⟩ | ⟨b, cs, rfl, h6, h7, h8, h9⟩
  · have : l = 0 := by omega
    subst this
    exact ⟨nilE pEdge, none, 0, 0, [], rfl, Own.nil, h3, fun h => by simp [nilE] at h, fun j hj => by omega, fun _ => rfl⟩
  · refine ⟨⟨b, pEdge, cs, true, true, none⟩, _, l, c, cs.take l, rfl, ⟨rfl, rfl, rfl, by simp; omega, h2, .inl ⟨rfl, rfl, ⟨cs.drop l, by simp⟩, by simp; omega⟩⟩, h3, fun _ => ⟨h6, h7⟩, fun j hj => ?_, fun h => by cases h⟩
    obtain ⟨e, ha, hb⟩ := h9 j hj
    exact ⟨e, by rw [List.getElem?_take, if_pos hj]; exact ha, hb⟩
/-- a node turned, and an array of edges, at one place, to another edge -/
theorem Ext.add {B : Nat} {w w' : World} {nb : Nat} {ys : List Nat} {cs cs' : List Value} (k : KeepX (nb :: ys) w w') (h : Blk w nb tNode cs) (h' : Blk w' nb tNode cs')
    (hys : ys = [] ∨ ∃ a ar, ys = [a] ∧ Blk w a pEdge ar ∧ (Blk w' a pEdge ar ∨ ∃ l e, Blk w' a pEdge (ar.set l (ptr e)) ∧ B ≤ e ∧ IsEdge w e)) : Ext B w w' := by
  have hne : ∀ b T ds, Blk w b T ds → T ≠ tNode → T ≠ pEdge → Blk w' b T ds := fun b T ds hb h1 h2 => k.blk hb (by
    simp only [List.mem_cons, not_or]
    refine ⟨by rintro rfl; exact h1 (Blk.tag_ne hb h), ?_⟩
    rcases hys with rfl | ⟨a, ar, rfl, h3, -⟩
    · simp
    · simp; rintro rfl; exact h2 (Blk.tag_ne hb h3))
  have hn : ∀ b, IsNode w b → IsNode w' b := fun b hb => KeepX.node k (fun c hc hc2 => by
    simp only [List.mem_cons] at hc
    rcases hc with rfl | hc
    · exact ⟨_, h'⟩
    · rcases hys with rfl | ⟨a, ar, rfl, h3, -⟩
      · cases hc
      · simp at hc; subst hc
        obtain ⟨ds, hd⟩ := hc2
        exact absurd (Blk.tag_ne hd h3) (by decide)) hb
  have he : ∀ e, IsEdge w e → IsEdge w' e := fun e ⟨s, d, wt, wd, r, i, h1, h2⟩ => ⟨s, d, wt, wd, r, i, hne _ _ _ h1 (by decide) (by decide), hn d h2⟩
  refine ⟨hn, he, fun N v ⟨p, l, c, h1, h2, h3, h4⟩ => ⟨p, l, c, h1, h2, h3, ?_⟩⟩
  rcases h4 with h4 | ⟨b, ds, h5, h6, h7, h8, h9⟩
  · exact .inl h4
  · have hbn : b ≠ nb := by rintro rfl; exact absurd (Blk.tag_ne h7 h) (by decide)
    by_cases hb : b ∈ ys
    · rcases hys with rfl | ⟨a, ar, rfl, ha, hc⟩
      · cases hb
      · simp at hb; subst hb
        have : ds = ar := by
          have q1 : w.heap[b]? = some (.cells ds.toArray pEdge (0, 0)) := h7
          have q2 : w.heap[b]? = some (.cells ar.toArray pEdge (0, 0)) := ha
          rw [q1] at q2
          injection q2 with q2; injection q2 with q2
          exact congrArg Array.toList q2
        subst this
        rcases hc with hc | ⟨lx, ex, hc, hB, hE⟩
        · refine .inr ⟨b, ds, h5, h6, hc, h8, fun j hj => ?_⟩
          obtain ⟨e, q1, q2, q3⟩ := h9 j hj
          exact ⟨e, q1, q2, he e q3⟩
        · refine .inr ⟨b, ds.set lx (ptr ex), h5, h6, hc, by simp [h8], fun j hj => ?_⟩
          by_cases hjl : lx = j
          · subst hjl
            exact ⟨ex, List.getElem?_set_self (by omega), hB, he ex hE⟩
          · obtain ⟨e, q1, q2, q3⟩ := h9 j hj
            exact ⟨e, by rw [List.getElem?_set_ne hjl]; exact q1, q2, he e q3⟩
    · refine .inr ⟨b, ds, h5, h6, k.blk h7 (by simp [hb, hbn]), h8, fun j hj => ?_⟩
      obtain ⟨e, q1, q2, q3⟩ := h9 j hj
      exact ⟨e, q1, q2, he e q3⟩
theorem hp2 {B : Nat} {w : World} {nb l c : Nat} {cs : List Value} {y : Ent} {p : Option Addr} {xs : List Value} (hb : Blk w nb tNode cs) (hB : B ≤ nb) (hO : Own pEdge 1 y p l c xs) (hon : y.on = true → B ≤ y.b ∧ Blk w y.b pEdge y.cs) (hoff : y.on = false → y = nilE pEdge) :
    ∃ ys, Hp ⟨w, B, [tNode, pEdge]⟩ w (⟨nb, tNode, cs, true, true, none⟩ :: y :: restH w (nb :: ys)) ∧ ((ys = [] ∧ y.on = false) ∨ (ys = [y.b] ∧ y.on = true)) := by
  cases ho : y.on with
  | false =>
    have := hoff ho
    subst this
    refine ⟨[], ((Hp.rest [nb]).off (T := pEdge)).add hb (fun _ => .inr ⟨hB, by simp⟩) ?_, .inl ⟨rfl, rfl⟩⟩
    intro z hz he
    rcases List.mem_cons.1 hz with rfl | hz
    · simp [Ent.ex, nilE] at he
    · exact rest_ne (by simp) z hz he
  | true =>
    obtain ⟨h1, h2⟩ := hon ho
    have hy : y = ⟨y.b, pEdge, y.cs, true, true, none⟩ := by
      have a := hO.hT; have b := hO.hw; have c := hO.ho
      cases y; simp_all
    have hne : y.b ≠ nb := by intro h; rw [h] at h2; exact absurd (Blk.tag_ne h2 hb) (by decide)
    refine ⟨[y.b], ?_, .inr ⟨rfl, rfl⟩⟩
    have h3 : Hp ⟨w, B, [tNode, pEdge]⟩ w (y :: restH w [nb, y.b]) := by
      rw [hy]
      exact (Hp.rest [nb, y.b]).add h2 (fun _ => .inr ⟨h1, by simp⟩) (rest_ne (by simp))
    refine h3.add hb (fun _ => .inr ⟨hB, by simp⟩) ?_
    intro z hz he
    rcases List.mem_cons.1 hz with rfl | hz
    · exact hne
    · exact rest_ne (by simp) z hz he
theorem addIn_c (B N : Nat) (w : World) (nb e : Nat) (i : NI) (fn : Option Addr) (fl fd cu cd : Int) (ein eout : Value) (hb : Blk w nb tNode (cNode i (.pointer fn) fl fd cu cd ein eout)) (hge : B ≤ nb) (hi : EdgeSl B N w ein) (ho : EdgeSl B N w eout) (he : B ≤ e) (hE : IsEdge w e) (hN : N ≤ 1000000000) :
    Calls Try.prog 42 #[.pointer (some ⟨nb, 9, none⟩), ptr e] w (Ret fun _ w' => Chg B [nb] w w' ∧ ∃ v', Blk w' nb tNode (cNode i (.pointer fn) fl fd cu cd v' eout) ∧ EdgeSl B (N + 1) w' v') := by
  obtain ⟨⟨po, lo, co, rfl, -⟩⟩ := id ho
  obtain ⟨y, p, l, c, xs, rfl, hO, hl, hon, hxs, hoff⟩ := hi.own
  obtain ⟨ys, hHp, hys⟩ := hp2 hb hge hO hon hoff
  refine startJ (args := [_, _]) [(0, _), (1, _)] B [tNode, pEdge] _ Try.func42 rfl Try.ntmps42 rfl rfl hHp ?_
  refine cj_reg ?_
  refine j_val rfl (fun a w ha => r_move rfl ha) ?_
  refine j_val rfl (fun a w ha => r_move rfl ha) ?_
  refine j_val rfl (fun a w ha => r_nil rfl ha) ?_
  refine j_valw rfl (fun a w ha hH hf => r_ldH 0 rfl rfl Try.isAgg75 rfl rfl ha hH) ?_
  refine j_val rfl (fun a w ha => r_move rfl ha) ?_
  refine j_bslice1 Try.runUnderlying75 Try.sizeOf149 Try.zeroValue149 rfl rfl rfl rfl rfl fun b9 => ?_
  refine j_appG (H0 := y :: restH w (nb :: ys)) 0 rfl hO Try.runUnderlying75 el149 rfl rfl rfl rfl (by omega) rfl fun H0 p' c' hcase => ?_
  refine j_val rfl (fun a w ha => r_nil rfl ha) ?_
  refine j_storeN (cs' := [_, _, _, _, _, _, _, _, _, _, _]) (H' := (_ :: _)) 0 rfl rfl rfl rfl Try.sizeOf75 rfl rfl rfl rfl rfl rfl rfl ?_
  refine j_nil ?_
  refine ?_
  refine ej_end0 Try.results42 fun w' hH hf => ?_
  have hb' := hH.get (i := 0) rfl rfl
  have hxl : xs.length = l := by have := hO.sl.1; omega
  rcases hcase with ⟨hyo, hlc1, rfl, rfl, rfl⟩ | ⟨b', cs', rfl, hc1, hc2, hc3, rfl⟩
  · have hk := Hp.keepX (l := nb :: ys) hH.2.2.2.2.2.2 hf
    have hya := hH.get (i := 1) rfl rfl
    obtain ⟨hy1, hy2⟩ := hon hyo
    rcases hys with ⟨-, h⟩ | ⟨rfl, -⟩
    · rw [hyo] at h; cases h
    have hx := Ext.add (B := B) hk hb hb' (.inr ⟨y.b, y.cs, rfl, hy2, .inr ⟨l, e, hya, he, hE⟩⟩)
    refine ⟨⟨hf.mono (.inr ⟨Nat.le_refl _, by simp⟩), fun b cs hb2 hbb => hk.blk hbb ?_, hx⟩, _, hb', ?_⟩
    · simp at hb2 ⊢
      exact ⟨hb2, by rintro rfl; exact absurd (Blk.tag_ne hbb hy2) (by decide)⟩
    · obtain ⟨-, hlc, q⟩ := hO.sl
      rcases q with ⟨-, q2, ⟨ex, q3⟩, q4⟩ | ⟨q1, -⟩
      · refine ⟨_, _, _, rfl, hlc1, by omega, .inr ⟨y.b, y.cs.set l (ptr e), q2, hy1, hya, by simp; omega, ?_⟩⟩
        · intro j hj
          by_cases hjl : l = j
          · subst hjl
            exact ⟨e, by rw [List.getElem?_set_self (by omega)], he, hx.edge e hE⟩
          · obtain ⟨e2, r1, r2, r3⟩ := hxs j (by omega)
            refine ⟨e2, ?_, r2, hx.edge e2 r3⟩
            rw [List.getElem?_set_ne hjl, q3, List.getElem?_append_left (by omega)]
            exact r1
      · rw [hyo] at q1; cases q1
  · have hk := Hp.keepX (l := nb :: ys) hH.2.2.2.2.2.2.2.2.2 hf
    have hx : Ext B w w' := by
      refine Ext.add (B := B) hk hb hb' ?_
      rcases hys with ⟨rfl, -⟩ | ⟨rfl, hyo⟩
      · exact .inl rfl
      · exact .inr ⟨y.b, y.cs, rfl, (hon hyo).2, .inl (by have := hH.get (i := 2) rfl hyo; rw [hO.hT] at this; exact this)⟩
    refine ⟨⟨hf.mono (.inr ⟨Nat.le_refl _, by simp⟩), fun b cs hb2 hbb => hk.blk hbb ?_, hx⟩, _, hb', ?_⟩
    · simp at hb2 ⊢
      refine ⟨hb2, ?_⟩
      rcases hys with ⟨rfl, -⟩ | ⟨rfl, hyo⟩
      · simp
      · simp; rintro rfl; exact absurd (Blk.tag_ne hbb (hon hyo).2) (by decide)
    · refine ⟨_, _, _, rfl, hc1, by omega, .inr ⟨b', cs', rfl, ?_, hH.get (i := 1) rfl rfl, hc2, ?_⟩⟩
      · rcases hH.may (x := ⟨b', pEdge, cs', true, true, none⟩) (by simp) rfl rfl with h | ⟨h, -⟩
        · exact Nat.le_trans (Nat.le_trans hge (Nat.le_of_lt hb.lt)) h
        · exact h
      · intro j hj
        by_cases hjl : j < l
        · obtain ⟨e2, r1, r2, r3⟩ := hxs j hjl
          exact ⟨e2, hc3 j _ (by rw [List.getElem?_append_left (by omega)]; exact r1), r2, hx.edge e2 r3⟩
        · have : j = l := by omega
          subst this
          exact ⟨e, hc3 _ _ (by rw [List.getElem?_append_right (by omega)]; simp [hxl]), he, hx.edge e hE⟩
theorem addOut_c (B N : Nat) (w : World) (nb e : Nat) (i : NI) (fn : Option Addr) (fl fd cu cd : Int) (ein eout : Value) (hb : Blk w nb tNode (cNode i (.pointer fn) fl fd cu cd ein eout)) (hge : B ≤ nb) (hi : EdgeSl B N w ein) (ho : EdgeSl B N w eout) (he : B ≤ e) (hE : IsEdge w e) (hN : N ≤ 1000000000) :
    Calls Try.prog 42 #[.pointer (some ⟨nb, 10, none⟩), ptr e] w (Ret fun _ w' => Chg B [nb] w w' ∧ ∃ v', Blk w' nb tNode (cNode i (.pointer fn) fl fd cu cd ein v') ∧ EdgeSl B (N + 1) w' v') := by
  obtain ⟨⟨pi, li, ci, rfl, -⟩⟩ := id hi
  obtain ⟨y, p, l, c, xs, rfl, hO, hl, hon, hxs, hoff⟩ := ho.own
  obtain ⟨ys, hHp, hys⟩ := hp2 hb hge hO hon hoff
  refine startJ (args := [_, _]) [(0, _), (1, _)] B [tNode, pEdge] _ Try.func42 rfl Try.ntmps42 rfl rfl hHp ?_
  refine cj_reg ?_
  refine j_val rfl (fun a w ha => r_move rfl ha) ?_
  refine j_val rfl (fun a w ha => r_move rfl ha) ?_
  refine j_val rfl (fun a w ha => r_nil rfl ha) ?_
  refine j_valw rfl (fun a w ha hH hf => r_ldH 0 rfl rfl Try.isAgg75 rfl rfl ha hH) ?_
  refine j_val rfl (fun a w ha => r_move rfl ha) ?_
  refine j_bslice1 Try.runUnderlying75 Try.sizeOf149 Try.zeroValue149 rfl rfl rfl rfl rfl fun b9 => ?_
  refine j_appG (H0 := y :: restH w (nb :: ys)) 0 rfl hO Try.runUnderlying75 el149 rfl rfl rfl rfl (by omega) rfl fun H0 p' c' hcase => ?_
  refine j_val rfl (fun a w ha => r_nil rfl ha) ?_
  refine j_storeN (cs' := [_, _, _, _, _, _, _, _, _, _, _]) (H' := (_ :: _)) 0 rfl rfl rfl rfl Try.sizeOf75 rfl rfl rfl rfl rfl rfl rfl ?_
  refine j_nil ?_
  refine ?_
  refine ej_end0 Try.results42 fun w' hH hf => ?_
  have hb' := hH.get (i := 0) rfl rfl
  have hxl : xs.length = l := by have := hO.sl.1; omega
  rcases hcase with ⟨hyo, hlc1, rfl, rfl, rfl⟩ | ⟨b', cs', rfl, hc1, hc2, hc3, rfl⟩
  · have hk := Hp.keepX (l := nb :: ys) hH.2.2.2.2.2.2 hf
    have hya := hH.get (i := 1) rfl rfl
    obtain ⟨hy1, hy2⟩ := hon hyo
    rcases hys with ⟨-, h⟩ | ⟨rfl, -⟩
    · rw [hyo] at h; cases h
    have hx := Ext.add (B := B) hk hb hb' (.inr ⟨y.b, y.cs, rfl, hy2, .inr ⟨l, e, hya, he, hE⟩⟩)
    refine ⟨⟨hf.mono (.inr ⟨Nat.le_refl _, by simp⟩), fun b cs hb2 hbb => hk.blk hbb ?_, hx⟩, _, hb', ?_⟩
    · simp at hb2 ⊢
      exact ⟨hb2, by rintro rfl; exact absurd (Blk.tag_ne hbb hy2) (by decide)⟩
    · obtain ⟨-, hlc, q⟩ := hO.sl
      rcases q with ⟨-, q2, ⟨ex, q3⟩, q4⟩ | ⟨q1, -⟩
      · refine ⟨_, _, _, rfl, hlc1, by omega, .inr ⟨y.b, y.cs.set l (ptr e), q2, hy1, hya, by simp; omega, ?_⟩⟩
        · intro j hj
          by_cases hjl : l = j
          · subst hjl
            exact ⟨e, by rw [List.getElem?_set_self (by omega)], he, hx.edge e hE⟩
          · obtain ⟨e2, r1, r2, r3⟩ := hxs j (by omega)
            refine ⟨e2, ?_, r2, hx.edge e2 r3⟩
            rw [List.getElem?_set_ne hjl, q3, List.getElem?_append_left (by omega)]
            exact r1
      · rw [hyo] at q1; cases q1
  · have hk := Hp.keepX (l := nb :: ys) hH.2.2.2.2.2.2.2.2.2 hf
    have hx : Ext B w w' := by
      refine Ext.add (B := B) hk hb hb' ?_
      rcases hys with ⟨rfl, -⟩ | ⟨rfl, hyo⟩
      · exact .inl rfl
      · exact .inr ⟨y.b, y.cs, rfl, (hon hyo).2, .inl (by have := hH.get (i := 2) rfl hyo; rw [hO.hT] at this; exact this)⟩
    refine ⟨⟨hf.mono (.inr ⟨Nat.le_refl _, by simp⟩), fun b cs hb2 hbb => hk.blk hbb ?_, hx⟩, _, hb', ?_⟩
    · simp at hb2 ⊢
      refine ⟨hb2, ?_⟩
      rcases hys with ⟨rfl, -⟩ | ⟨rfl, hyo⟩
      · simp
      · simp; rintro rfl; exact absurd (Blk.tag_ne hbb (hon hyo).2) (by decide)
    · refine ⟨_, _, _, rfl, hc1, by omega, .inr ⟨b', cs', rfl, ?_, hH.get (i := 1) rfl rfl, hc2, ?_⟩⟩
      · rcases hH.may (x := ⟨b', pEdge, cs', true, true, none⟩) (by simp) rfl rfl with h | ⟨h, -⟩
        · exact Nat.le_trans (Nat.le_trans hge (Nat.le_of_lt hb.lt)) h
        · exact h
      · intro j hj
        by_cases hjl : j < l
        · obtain ⟨e2, r1, r2, r3⟩ := hxs j hjl
          exact ⟨e2, hc3 j _ (by rw [List.getElem?_append_left (by omega)]; exact r1), r2, hx.edge e2 r3⟩
        · have : j = l := by omega
          subst this
          exact ⟨e, hc3 _ _ (by rw [List.getElem?_append_right (by omega)]; simp [hxl]), he, hx.edge e hE⟩

/-- an edge turned -/
theorem Ext.edge1 {B : Nat} {w w' : World} {e s d : Nat} {wt wd wt' wd' : Int} {r i r' i' : Bool} (k : KeepX [e] w w') (h : Blk w e tEdge [ptr s, ptr d, .int .i64 wt, .int .i64 wd, .bool r, .bool i]) (h' : Blk w' e tEdge [ptr s, ptr d, .int .i64 wt', .int .i64 wd', .bool r', .bool i']) : Ext B w w' := by
  have hne : ∀ b T ds, Blk w b T ds → T ≠ tEdge → Blk w' b T ds := fun b T ds hb h1 => k.blk hb (by simp; rintro rfl; exact h1 (Blk.tag_ne hb h))
  have hn : ∀ b, IsNode w b → IsNode w' b := fun b ⟨cs, hb⟩ => ⟨cs, hne _ _ _ hb (by decide)⟩
  have he : ∀ e, IsEdge w e → IsEdge w' e := fun e2 ⟨s2, d2, wt2, wd2, r2, i2, h1, h2⟩ => by
    by_cases hc : e2 = e
    · subst hc
      have hd : d2 = d := by
        have q1 : w.heap[e2]? = some (.cells _ tEdge (0, 0)) := h1
        have q2 : w.heap[e2]? = some (.cells _ tEdge (0, 0)) := h
        rw [q1] at q2
        injection q2 with q2; injection q2 with q2
        have := congrArg Array.toList q2
        simp at this
        exact this.2.1
      subst hd
      exact ⟨s, d2, wt', wd', r', i', h', hn d2 h2⟩
    · exact ⟨s2, d2, wt2, wd2, r2, i2, k.blk h1 (by simpa using hc), hn d2 h2⟩
  refine ⟨hn, he, fun N v ⟨p, l, c, h1, h2, h3, h4⟩ => ⟨p, l, c, h1, h2, h3, ?_⟩⟩
  rcases h4 with h4 | ⟨b, cs, h5, h6, h7, h8, h9⟩
  · exact .inl h4
  · refine .inr ⟨b, cs, h5, h6, hne _ _ _ h7 (by decide), h8, fun j hj => ?_⟩
    obtain ⟨e2, ha, hb, hc⟩ := h9 j hj
    exact ⟨e2, ha, hb, he e2 hc⟩
theorem cNode_inj {i i' : NI} {fn fn' : Value} {fl fd cu cd fl' fd' cu' cd' : Int} {a b a' b' : Value} (h : cNode i fn fl fd cu cd a b = cNode i' fn' fl' fd' cu' cd' a' b') : i = i' ∧ fl = fl' ∧ cu = cu' := by
  cases i; cases i'
  simp [cNode] at h
  simp [h]
theorem Blk.same {w : World} {b T : Nat} {cs ds : List Value} (h : Blk w b T cs) (k : Blk w b T ds) : cs = ds := by
  have q1 : w.heap[b]? = some (.cells cs.toArray T (0, 0)) := h
  have q2 : w.heap[b]? = some (.cells ds.toArray T (0, 0)) := k
  rw [q1] at q2
  injection q2 with q2; injection q2 with q2
  exact congrArg Array.toList q2
theorem chg_node {B N a c : Nat} {w1 w2 : World} {ia i : NI} {fna : Option Addr} {fa fda ca cda f cu : Int} {eia eoa ei eo : Value} (hch : Chg B [a] w1 w2) (hc : NodeAt B N w1 c i f cu) (ha : Blk w1 a tNode (cNode ia (.pointer fna) fa fda ca cda eia eoa))
    (ha4 : Blk w2 a tNode (cNode ia (.pointer fna) fa fda ca cda ei eo)) (h9 : EdgeSl B (N + 1) w2 ei) (h10 : EdgeSl B (N + 1) w2 eo) : NodeAt B (N + 1) w2 c i f cu := by
  by_cases h : c = a
  · subst h
    obtain ⟨fn, fd, cd, ein, eout, h1, -, -⟩ := hc.ex
    obtain ⟨rfl, rfl, rfl⟩ := cNode_inj (Blk.same h1 ha)
    exact ⟨hc.ge, _, _, _, _, _, ha4, h9, h10⟩
  · exact (hc.ext hch.ext fun cs hb => hch.node _ _ (by simpa using h) hb).mono (Nat.le_succ _)
theorem addToEdge_c (B N : Nat) (w : World) (a b : Nat) (ia ib : NI) (fa ca fb cb dv v : Int) (re inl : Bool) (ha : NodeAt B N w a ia fa ca) (hb : NodeAt B N w b ib fb cb) (hN : N + 2 ≤ 1000000000) (hB : B ≤ w.heap.size) :
    Calls Try.prog 30 #[ptr a, ptr b, .int .i64 dv, .int .i64 v, .bool re, .bool inl] w (Ret fun _ w' => Fr B [tNode, tEdge, pEdge] w w' ∧ Ext B w w' ∧ ∀ c i f cu, NodeAt B N w c i f cu → NodeAt B (N + 2) w' c i f cu) := by
  obtain ⟨fna, fda, cda, eia, eoa, ha1, ha2, ha3⟩ := ha.ex
  obtain ⟨fnb, fdb, cdb, eib, eob, hb1, hb2, hb3⟩ := hb.ex
  have hca : ∀ w', Keep w w' → ∀ (j : Nat) (u : Value), (cNode ia (.pointer fna) fa fda ca cda eia eoa)[j]? = some u → w'.cell? ⟨a, 0 + j, none⟩ = some u := fun w' k j u hj => k.cell (by rw [ha1.cell, Nat.zero_add]; exact hj)
  refine startJ (args := [_, _, _, _, _, _]) [(0, _), (1, _), (2, _), (3, _), (4, _), (5, _)] 0 [] [] Try.func30 rfl Try.ntmps30 rfl rfl .nil ?_
  refine cj_seqF fun K1 hK1 => ?_
  refine cj_seqF fun K2 hK2 => ?_
  refine cj_reg ?_
  refine j_val rfl (fun a w ha => r_move rfl ha) ?_
  refine j_val rfl (fun a w ha => r_nil rfl ha) ?_
  refine j_val rfl (fun a w ha => r_fl (q := 10) (ft := 75) Try.runUnderlying77 rfl Try.sizeOf75 rfl ha) ?_
  refine j_valw rfl (fun a w ha hH hf => r_load Try.isAgg75 rfl (hca w (hf.keepAll (.inr rfl)) 10 _ rfl) ha) ?_
  refine j_val rfl (fun a w ha => r_move rfl ha) ?_
  refine j_callQ (φ := fun v => ∃ p, v = .pointer p ∧ (p = none ∨ ∃ e, p = some ⟨e, 0, none⟩ ∧ B ≤ e ∧ IsEdge w e)) Try.call41 rfl rfl (fun w' hH hf => findTo_c B N w w' b _ ha3 (by omega) ⟨_, hb1⟩ hf) ?_
  rintro _ ⟨p, rfl, hp⟩
  refine j_val rfl (fun a w ha => r_assign rfl ha) ?_
  refine j_nil ?_
  refine ej_then (hK2 _ _ _ ?_); clear hK2
  refine CJ.sub (e' := [(0, _), (1, _), (2, _), (3, _), (4, _), (5, _), (12, _)]) ⟨rfl, rfl, rfl, rfl, rfl, rfl, rfl, trivial⟩ ?_
  refine cj_seqF fun K3 hK3 => ?_
  refine cj_reg ?_
  refine j_val rfl (fun a w ha => r_move rfl ha) ?_
  refine j_val rfl (fun a w ha => r_pnneq Try.underlying149 rfl ha) ?_
  refine j_nil ?_
  refine ej_then (hK3 _ _ _ ?_); clear hK3
  refine CJ.sub (e' := [(0, _), (1, _), (2, _), (3, _), (4, _), (5, _), (12, _), (21, _)]) ⟨rfl, rfl, rfl, rfl, rfl, rfl, rfl, rfl, trivial⟩ ?_
  refine cj_if rfl (fun h21 => ?_) (fun h21 => ?_)
  · obtain rfl | ⟨e, rfl, he, hE⟩ := hp
    · cases h21
    intro w1 hH1 hf1
    obtain ⟨es, ed, wt, wd, er, ei, hE1, hE2⟩ := (Fr.ext (B := B) hf1).edge e hE
    refine C.begin ⟨w1, B, [tEdge]⟩ _ ok_refl (Hp.one hE1 he rfl) ?_
    refine cj_seqF fun K4 hK4 => ?_
    refine cj_reg ?_
    refine j_val rfl (fun a w ha => r_move rfl ha) ?_
    refine j_val rfl (fun a w ha => r_nil rfl ha) ?_
    refine j_val rfl (fun a w ha => r_fl (q := 3) (ft := 2) Try.runUnderlying152 rfl Try.sizeOf2 rfl ha) ?_
    refine j_valw rfl (fun a w ha hH hf => r_ldH 0 rfl rfl Try.isAgg2 rfl rfl ha hH) ?_
    refine j_val rfl (fun a w ha => r_move rfl ha) ?_
    refine j_val rfl (fun a w ha => r_add rfl rfl ha) ?_
    refine j_val rfl (fun a w ha => r_nil rfl ha) ?_
    refine j_val rfl (fun a w ha => r_fl (q := 3) (ft := 2) Try.runUnderlying152 rfl Try.sizeOf2 rfl ha) ?_
    refine j_storeN (cs' := [_, _, _, _, _, _]) (H' := (_ :: _)) 0 rfl rfl rfl rfl Try.sizeOf2 rfl rfl rfl rfl rfl rfl rfl ?_
    refine j_nil ?_
    refine ej_then (hK4 _ _ _ ?_); clear hK4
    refine CJ.sub (e' := [(3, _), (4, _), (5, _), (12, _)]) ⟨rfl, rfl, rfl, rfl, trivial⟩ ?_
    refine cj_seqF fun K5 hK5 => ?_
    refine cj_reg ?_
    refine j_val rfl (fun a w ha => r_move rfl ha) ?_
    refine j_val rfl (fun a w ha => r_nil rfl ha) ?_
    refine j_val rfl (fun a w ha => r_fl (q := 2) (ft := 2) Try.runUnderlying152 rfl Try.sizeOf2 rfl ha) ?_
    refine j_valw rfl (fun a w ha hH hf => r_ldH 0 rfl rfl Try.isAgg2 rfl rfl ha hH) ?_
    refine j_val rfl (fun a w ha => r_move rfl ha) ?_
    refine j_val rfl (fun a w ha => r_add rfl rfl ha) ?_
    refine j_val rfl (fun a w ha => r_nil rfl ha) ?_
    refine j_val rfl (fun a w ha => r_fl (q := 2) (ft := 2) Try.runUnderlying152 rfl Try.sizeOf2 rfl ha) ?_
    refine j_storeN (cs' := [_, _, _, _, _, _]) (H' := (_ :: _)) 0 rfl rfl rfl rfl Try.sizeOf2 rfl rfl rfl rfl rfl rfl rfl ?_
    refine j_nil ?_
    refine ej_then (hK5 _ _ _ ?_); clear hK5
    refine CJ.sub (e' := [(4, _), (5, _), (12, _)]) ⟨rfl, rfl, rfl, trivial⟩ ?_
    refine cj_seqF fun K6 hK6 => ?_
    refine cj_seqF fun K7 hK7 => ?_
    refine cj_reg ?_
    refine j_val rfl (fun a w ha => r_move rfl ha) ?_
    refine j_nil ?_
    refine ej_then (hK7 _ _ _ ?_); clear hK7
    refine CJ.sub (e' := [(5, _), (12, _), (38, _)]) ⟨rfl, rfl, rfl, trivial⟩ ?_
    refine cj_if rfl (fun h38 => ?_) (fun h38 => ?_)
    · refine cj_reg ?_
      refine j_val rfl (fun a w ha => r_move rfl ha) ?_
      refine j_val rfl (fun a w ha => r_nil rfl ha) ?_
      refine j_val rfl (fun a w ha => r_fl (q := 4) (ft := 4) Try.runUnderlying152 rfl Try.sizeOf4 rfl ha) ?_
      refine j_storeN (cs' := [_, _, _, _, _, _]) (H' := (_ :: _)) 0 rfl rfl rfl rfl Try.sizeOf4 rfl rfl rfl rfl rfl rfl rfl ?_
      refine j_nil ?_
      refine ej_then (hK6 _ _ _ ?_); clear hK6
      refine CJ.sub (e' := [(5, _), (12, _)]) ⟨rfl, rfl, trivial⟩ ?_
      refine cj_seqF fun K8 hK8 => ?_
      refine cj_seqF fun K9 hK9 => ?_
      refine cj_reg ?_
      refine j_val rfl (fun a w ha => r_move rfl ha) ?_
      refine j_val rfl (fun a w ha => r_not rfl ha) ?_
      refine j_nil ?_
      refine ej_then (hK9 _ _ _ ?_); clear hK9
      refine CJ.sub (e' := [(12, _), (43, _)]) ⟨rfl, rfl, trivial⟩ ?_
      refine cj_if rfl (fun h43 => ?_) (fun h43 => ?_)
      · refine cj_reg ?_
        refine j_val rfl (fun a w ha => r_move rfl ha) ?_
        refine j_val rfl (fun a w ha => r_nil rfl ha) ?_
        refine j_val rfl (fun a w ha => r_fl (q := 5) (ft := 4) Try.runUnderlying152 rfl Try.sizeOf4 rfl ha) ?_
        refine j_storeN (cs' := [_, _, _, _, _, _]) (H' := (_ :: _)) 0 rfl rfl rfl rfl Try.sizeOf4 rfl rfl rfl rfl rfl rfl rfl ?_
        refine j_nil ?_
        refine ej_then (hK8 _ _ _ ?_); clear hK8
        refine CJ.sub (e' := []) trivial ?_
        refine cj_ret (ej_then_ret (?_))
        refine ej_ret0 Try.results30 fun w' hH hf => ?_
        have hk := Hp.keepX (l := [e]) hH.2.2.2 hf
        have hx := Ext.edge1 (B := B) hk hE1 (hH.get (i := 0) rfl rfl)
        refine ⟨(Fr.quiet hf1 _ _ : Fr B [tNode, tEdge, pEdge] w w1).trans hf (.inr ⟨Nat.le_refl _, by simp⟩), (Fr.ext hf1).trans hx, fun c i f cu hc => ?_⟩
        refine ((hc.ext (Fr.ext hf1) fun cs h => hf1.blk h (.inr (by simp))).ext hx fun cs h => hk.blk h ?_).mono (by omega)
        simp; rintro rfl; exact absurd (Blk.tag_ne h hE1) (by decide)
      · refine cj_skip (ej_then (hK8 _ _ _ ?_)); clear hK8
        refine CJ.sub (e' := []) trivial ?_
        refine cj_ret (ej_then_ret (?_))
        refine ej_ret0 Try.results30 fun w' hH hf => ?_
        have hk := Hp.keepX (l := [e]) hH.2.2.2 hf
        have hx := Ext.edge1 (B := B) hk hE1 (hH.get (i := 0) rfl rfl)
        refine ⟨(Fr.quiet hf1 _ _ : Fr B [tNode, tEdge, pEdge] w w1).trans hf (.inr ⟨Nat.le_refl _, by simp⟩), (Fr.ext hf1).trans hx, fun c i f cu hc => ?_⟩
        refine ((hc.ext (Fr.ext hf1) fun cs h => hf1.blk h (.inr (by simp))).ext hx fun cs h => hk.blk h ?_).mono (by omega)
        simp; rintro rfl; exact absurd (Blk.tag_ne h hE1) (by decide)
    · refine cj_skip (ej_then (hK6 _ _ _ ?_)); clear hK6
      refine CJ.sub (e' := [(5, _), (12, _)]) ⟨rfl, rfl, trivial⟩ ?_
      refine cj_seqF fun K10 hK10 => ?_
      refine cj_seqF fun K11 hK11 => ?_
      refine cj_reg ?_
      refine j_val rfl (fun a w ha => r_move rfl ha) ?_
      refine j_val rfl (fun a w ha => r_not rfl ha) ?_
      refine j_nil ?_
      refine ej_then (hK11 _ _ _ ?_); clear hK11
      refine CJ.sub (e' := [(12, _), (43, _)]) ⟨rfl, rfl, trivial⟩ ?_
      refine cj_if rfl (fun h43 => ?_) (fun h43 => ?_)
      · refine cj_reg ?_
        refine j_val rfl (fun a w ha => r_move rfl ha) ?_
        refine j_val rfl (fun a w ha => r_nil rfl ha) ?_
        refine j_val rfl (fun a w ha => r_fl (q := 5) (ft := 4) Try.runUnderlying152 rfl Try.sizeOf4 rfl ha) ?_
        refine j_storeN (cs' := [_, _, _, _, _, _]) (H' := (_ :: _)) 0 rfl rfl rfl rfl Try.sizeOf4 rfl rfl rfl rfl rfl rfl rfl ?_
        refine j_nil ?_
        refine ej_then (hK10 _ _ _ ?_); clear hK10
        refine CJ.sub (e' := []) trivial ?_
        refine cj_ret (ej_then_ret (?_))
        refine ej_ret0 Try.results30 fun w' hH hf => ?_
        have hk := Hp.keepX (l := [e]) hH.2.2.2 hf
        have hx := Ext.edge1 (B := B) hk hE1 (hH.get (i := 0) rfl rfl)
        refine ⟨(Fr.quiet hf1 _ _ : Fr B [tNode, tEdge, pEdge] w w1).trans hf (.inr ⟨Nat.le_refl _, by simp⟩), (Fr.ext hf1).trans hx, fun c i f cu hc => ?_⟩
        refine ((hc.ext (Fr.ext hf1) fun cs h => hf1.blk h (.inr (by simp))).ext hx fun cs h => hk.blk h ?_).mono (by omega)
        simp; rintro rfl; exact absurd (Blk.tag_ne h hE1) (by decide)
      · refine cj_skip (ej_then (hK10 _ _ _ ?_)); clear hK10
        refine CJ.sub (e' := []) trivial ?_
        refine cj_ret (ej_then_ret (?_))
        refine ej_ret0 Try.results30 fun w' hH hf => ?_
        have hk := Hp.keepX (l := [e]) hH.2.2.2 hf
        have hx := Ext.edge1 (B := B) hk hE1 (hH.get (i := 0) rfl rfl)
        refine ⟨(Fr.quiet hf1 _ _ : Fr B [tNode, tEdge, pEdge] w w1).trans hf (.inr ⟨Nat.le_refl _, by simp⟩), (Fr.ext hf1).trans hx, fun c i f cu hc => ?_⟩
        refine ((hc.ext (Fr.ext hf1) fun cs h => hf1.blk h (.inr (by simp))).ext hx fun cs h => hk.blk h ?_).mono (by omega)
        simp; rintro rfl; exact absurd (Blk.tag_ne h hE1) (by decide)
  · obtain rfl : p = none := by
      cases p with
      | none => rfl
      | some _ => simp at h21
    refine cj_skip (ej_then (hK1 _ _ _ ?_)); clear hK1
    refine CJ.sub (e' := [(0, _), (1, _), (2, _), (3, _), (4, _), (5, _)]) ⟨rfl, rfl, rfl, rfl, rfl, rfl, trivial⟩ ?_
    refine cj_seqF fun K12 hK12 => ?_
    refine cj_reg ?_
    refine j_val rfl (fun a w ha => r_move rfl ha) ?_
    refine j_val rfl (fun a w ha => r_move rfl ha) ?_
    refine j_val rfl (fun a w ha => r_move rfl ha) ?_
    refine j_val rfl (fun a w ha => r_move rfl ha) ?_
    refine j_val rfl (fun a w ha => r_move rfl ha) ?_
    refine j_val rfl (fun a w ha => r_move rfl ha) ?_
    refine j_val rfl (fun a w ha => r_build (cs := [_, _, _, _, _, _]) bt152 rfl rfl ha) ?_
    refine j_boxA (vs := [_, _, _, _, _, _]) rfl rfl fun b54 => ?_
    refine j_val rfl (fun a w ha => r_assign rfl ha) ?_
    refine j_nil ?_
    refine ej_then (hK12 _ _ _ ?_); clear hK12
    refine CJ.sub (e' := [(0, _), (1, _), (13, _)]) ⟨rfl, rfl, rfl, trivial⟩ ?_
    refine cj_seqF fun K13 hK13 => ?_
    refine cj_reg ?_
    refine j_val rfl (fun a w ha => r_move rfl ha) ?_
    refine j_val rfl (fun a w ha => r_nil rfl ha) ?_
    refine j_val rfl (fun a w ha => r_fl (q := 10) (ft := 75) Try.runUnderlying77 rfl Try.sizeOf75 rfl ha) ?_
    refine j_val rfl (fun a w ha => r_move rfl ha) ?_
    refine j_callE (R := fun w1 _ w' => Chg B [a] w1 w' ∧ ∃ v', Blk w' a tNode (cNode ia (.pointer fna) fa fda ca cda eia v') ∧ EdgeSl B (N + 1) w' v') Try.call42 rfl rfl (fun w' hH hf => addOut_c B N w' a b54 ia fna fa fda ca cda eia eoa (hf.blk ha1 (.inr (by simp))) ha.ge ((Fr.ext hf).sl _ _ ha2) ((Fr.ext hf).sl _ _ ha3) (Nat.le_trans hB (hH.fresh (i := 0) rfl rfl rfl)) ⟨a, b, v, dv, re, inl, hH.get (i := 0) rfl rfl, (Fr.ext (B := B) hf).node _ ⟨_, hb1⟩⟩ (by omega)) fun w1 _ w2 hH1 hf1 hR => ?_
    obtain ⟨hch1, vo, ha4, ha5⟩ := hR
    have hB54 : B ≤ b54 := Nat.le_trans hB (hH1.fresh (i := 0) rfl rfl rfl)
    have hE2 : IsEdge w2 b54 := hch1.ext.edge _ ⟨a, b, v, dv, re, inl, hH1.get (i := 0) rfl rfl, (Fr.ext (B := B) hf1).node _ ⟨_, hb1⟩⟩
    have hx1 : Ext B w w1 := Fr.ext hf1
    have hpres : ∀ c i f cu, NodeAt B N w c i f cu → NodeAt B (N + 1) w2 c i f cu := fun c i f cu hc => chg_node hch1 (hc.ext hx1 fun cs h => hf1.blk h (.inr (by simp))) (hf1.blk ha1 (.inr (by simp))) ha4 (hch1.ext.sl _ _ ((hx1.sl _ _ ha2).mono (Nat.le_succ _))) ha5
    obtain ⟨fnb2, fdb2, cdb2, eib2, eob2, hb4, hb5, hb6⟩ := (hpres b ib fb cb hb).ex
    refine J.begin ⟨w2, 0, []⟩ [] ok_refl .nil ?_
    refine j_nil ?_
    refine ej_then (hK13 _ _ _ ?_); clear hK13
    refine CJ.sub (e' := [(1, _), (13, _)]) ⟨rfl, rfl, trivial⟩ ?_
    refine cj_reg ?_
    refine j_val rfl (fun a w ha => r_move rfl ha) ?_
    refine j_val rfl (fun a w ha => r_nil rfl ha) ?_
    refine j_val rfl (fun a w ha => r_fl (q := 9) (ft := 75) Try.runUnderlying77 rfl Try.sizeOf75 rfl ha) ?_
    refine j_val rfl (fun a w ha => r_move rfl ha) ?_
    refine j_callE (R := fun w1 _ w' => Chg B [b] w1 w' ∧ ∃ v', Blk w' b tNode (cNode ib (.pointer fnb2) fb fdb2 cb cdb2 v' eob2) ∧ EdgeSl B (N + 1 + 1) w' v') Try.call42 rfl rfl (fun w' hH hf => addIn_c B (N + 1) w' b b54 ib fnb2 fb fdb2 cb cdb2 eib2 eob2 (hf.blk hb4 (.inr (by simp))) hb.ge ((Fr.ext hf).sl _ _ hb5) ((Fr.ext hf).sl _ _ hb6) hB54 ((Fr.ext (B := B) hf).edge _ hE2) (by omega)) fun w3 _ w4 hH3 hf3 hR => ?_
    obtain ⟨hch2, vi, hb7, hb8⟩ := hR
    refine J.begin ⟨w4, 0, []⟩ [] ok_refl .nil ?_
    refine j_nil ?_
    refine ?_
    refine ej_end0 Try.results30 fun w' hH hf => ?_
    have hx3 : Ext B w2 w3 := Fr.ext hf3
    have q1 : Fr B [tNode, tEdge, pEdge] w w1 := Fr.quiet hf1 _ _
    have q3 : Fr B [tNode, tEdge, pEdge] w2 w3 := Fr.quiet hf3 _ _
    have q5 : Fr B [tNode, tEdge, pEdge] w4 w' := Fr.quiet hf _ _
    have tr : ∀ {x y z : World}, Fr B [tNode, tEdge, pEdge] x y → Fr B [tNode, tEdge, pEdge] y z → Fr B [tNode, tEdge, pEdge] x z := fun h k => h.trans k (.inr ⟨Nat.le_refl _, fun _ h => h⟩)
    refine ⟨tr (tr (tr (tr q1 hch1.fr) q3) hch2.fr) q5, (((hx1.trans hch1.ext).trans hx3).trans hch2.ext).trans (Fr.ext hf), fun c i f cu hc => ?_⟩
    have r1 := hpres c i f cu hc
    have r2 := r1.ext hx3 fun cs h => hf3.blk h (.inr (by simp))
    have r3 := chg_node hch2 r2 (hf3.blk hb4 (.inr (by simp))) hb7 hb8 (hch2.ext.sl _ _ ((hx3.sl _ _ hb6).mono (Nat.le_succ _)))
    exact r3.ext (Fr.ext hf) fun cs h => hf.blk h (.inr (by simp))
end Go.Proofs.Ytgjpegehmbebpaa
