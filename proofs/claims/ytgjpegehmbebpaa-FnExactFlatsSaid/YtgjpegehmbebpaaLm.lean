/-
  The graph's locations by their numbers. Conditions: as each lemma states them.
-/
import Derived.Test.YtgjpegehmbebpaaNm
namespace Go.Proofs.Ytgjpegehmbebpaa
open Go Go.Fw Go.Proofs
abbrev tNodes : Nat := 68
abbrev tLM : Nat := 100
structure LM (w : World) (sb lb n : Nat) (tb : List (Int × Value)) : Prop where
  arr : ∃ cs, Blk w sb tNodes cs ∧ cs.length = n ∧ ∀ q ∈ tb, q.1 < n → cs[q.1.toNat]? = some q.2
  map : ∃ es ck ms, w.heap[lb]? = some (.map (List.toArray es) ck) ∧ MEnc (Value.int .u64) ms es ck ∧ ∀ q ∈ tb, ¬ q.1 < n → mget ms q.1 = some q.2
theorem wrapU {n : Nat} (h : n ≤ 1000000) : IntKind.u64.wrap (n : Int) = n := by simp [IntKind.wrap, IntKind.bits, IntKind.signed]; omega
/-- a map that was only read -/
theorem quietMap {w w' : World} {x : Ent} {lb ck : Nat} {es : List MapEntry} (hH : Hp ⟨w, 0, [1000000]⟩ w' (x :: mpE lb es ck :: restH w [lb])) (hf : Fm.ok ⟨w, 0, [1000000]⟩ w') (h4 : w.heap[lb]? = some (.map es.toArray ck)) : Fr 0 [] w w' := by
  have hk := Hp.keepX (l := [lb]) hH.2.2.2.2.2.2 hf
  refine ⟨hk.os, hk.tape, hk.output, hk.size, fun b o hb _ => ?_⟩
  by_cases h : b = lb
  · subst h
    rw [h4] at hb; cases hb
    exact hH.obj (i := 1) rfl rfl
  · exact hk.keep b o hb (by simpa using h)
theorem lmGet_c (w : World) (sb lb n : Nat) (tb : List (Int × Value)) (id : Int) (v : Value) (h : LM w sb lb n tb) (hn : n ≤ 1000000) (h0 : 0 ≤ id) (hv : (id, v) ∈ tb) :
    Calls Try.prog 28 #[.agg #[.slice (some ⟨sb, 0, none⟩) n n, .map (some lb)], .int .u64 id] w (Ret fun u w' => u = v ∧ Fr 0 [] w w') := by
  obtain ⟨cs, h1, h2, h3⟩ := h.arr
  obtain ⟨es, ck, ms, h4, h5, h6⟩ := h.map
  have hcell : ∀ w', Fm.ok ⟨w, 0, [1000000]⟩ w' → ∀ (i : Nat) (u : Value), cs[i]? = some u → w'.cell? ⟨sb, 0 + i * 1, none⟩ = some u := fun w' k i u hu => by
    have := ok_blk k h1 rfl
    rw [this.cell, Nat.zero_add, Nat.mul_one]; exact hu
  refine startJ (args := [_, _]) [(0, _), (1, _)] 0 [1000000] _ Try.func28 rfl Try.ntmps28 rfl rfl (Hp.oneMap h4 (Nat.zero_le _) rfl) ?_
  refine cj_seqF fun K1 hK1 => ?_
  refine cj_reg ?_
  refine j_boxA (vs := [_, _]) rfl rfl fun b2 => ?_
  refine j_val rfl (fun a w ha => r_assign rfl ha) ?_
  refine j_nil ?_
  refine ej_then (hK1 _ _ _ ?_); clear hK1
  refine CJ.sub (e' := [(1, _), (2, _)]) ⟨rfl, rfl, trivial⟩ ?_
  refine cj_seqF fun K2 hK2 => ?_
  refine cj_reg ?_
  refine j_val rfl (fun a w ha => r_move rfl ha) ?_
  refine j_val rfl (fun a w ha => r_fl (q := 0) (ft := 97) Try.runUnderlying100 rfl Try.sizeOf97 rfl ha) ?_
  refine j_valw rfl (fun a w ha hH hf => r_ldH 0 rfl rfl Try.isAgg97 rfl rfl ha hH) ?_
  refine j_val rfl (fun a w ha => r_len Try.runUnderlying97 rfl ha) ?_
  refine j_val rfl (fun a w ha => r_conv Try.runUnderlying3 Try.runUnderlying53 rfl ha) ?_
  refine j_val rfl (fun a w ha => r_lss rfl rfl ha) ?_
  refine j_nil ?_
  refine ej_then (hK2 _ _ _ ?_); clear hK2
  refine CJ.sub (e' := [(1, _), (2, _), (10, _)]) ⟨rfl, rfl, rfl, trivial⟩ ?_
  refine cj_dec rfl (fun h10 => ?_) (fun h10 => ?_)
  · rw [wrapU hn] at h10
    have hz : id = ((id.toNat : Nat) : Int) := by omega
    have hlt : id.toNat < n := by omega
    refine cj_seqF fun K3 hK3 => ?_
    refine cj_reg ?_
    refine j_val rfl (fun a w ha => r_fl (q := 0) (ft := 97) Try.runUnderlying100 rfl Try.sizeOf97 rfl ha) ?_
    refine j_valw rfl (fun a w ha hH hf => r_ldH 0 rfl rfl Try.isAgg97 rfl rfl ha hH) ?_
    refine j_val rfl (fun a w ha => r_move rfl ha) ?_
    refine j_val rfl (fun a w ha => r_idxI _ Try.runUnderlying97 Try.sizeOf68 rfl rfl rfl hz hlt ha) ?_
    refine j_valw rfl (fun a w ha hH hf => r_load Try.isAgg68 rfl (hcell w hf _ _ (h3 _ hv h10)) ha) ?_
    refine j_val rfl (fun a w ha => r_assign rfl ha) ?_
    refine j_nil ?_
    refine ej_then (hK3 _ _ _ ?_); clear hK3
    refine CJ.sub (e' := [(4, _)]) ⟨rfl, trivial⟩ ?_
    refine cj_ret (?_)
    first
    | exact ej_ret1 Try.results28 rfl fun w' hH hf => ⟨rfl, quietMap hH hf h4⟩
    | exact ej_ret1 Try.results28 rfl fun w' hH hf => ⟨by rw [h6 _ hv h10]; rfl, quietMap hH hf h4⟩
  · rw [wrapU hn] at h10
    refine cj_seqF fun K4 hK4 => ?_
    refine cj_reg ?_
    refine j_val rfl (fun a w ha => r_fl (q := 1) (ft := 98) Try.runUnderlying100 rfl Try.sizeOf98 rfl ha) ?_
    refine j_valw rfl (fun a w ha hH hf => r_ldH 0 rfl rfl Try.isAgg98 rfl rfl ha hH) ?_
    refine j_val rfl (fun a w ha => r_move rfl ha) ?_
    refine j_valw rfl (fun a w ha hH hf => r_mlook1 (k := id) 1 rfl Try.runUnderlying98 (keyT_int Try.runUnderlying53) h5 Try.zeroValue68 rfl rfl (fun _ _ _ => ⟨fun _ _ => trivial, trivial⟩) ha hH hf) ?_
    refine j_val rfl (fun a w ha => r_assign rfl ha) ?_
    refine j_nil ?_
    refine ej_then (hK4 _ _ _ ?_); clear hK4
    refine CJ.sub (e' := [(4, _)]) ⟨rfl, trivial⟩ ?_
    refine cj_ret (?_)
    first
    | exact ej_ret1 Try.results28 rfl fun w' hH hf => ⟨rfl, quietMap hH hf h4⟩
    | exact ej_ret1 Try.results28 rfl fun w' hH hf => ⟨by rw [h6 _ hv h10]; rfl, quietMap hH hf h4⟩
theorem lmAdd_c (B : Nat) (w : World) (bm sb lb n : Nat) (tb : List (Int × Value)) (id : Int) (p : Option Addr) (l c : Nat) (h : LM w sb lb n tb) (hn : n ≤ 1000000) (h0 : 0 ≤ id) (hnew : id ∉ tb.map (·.1)) (hid : ∀ q ∈ tb, 0 ≤ q.1)
    (hbm : Blk w bm tLM [.slice (some ⟨sb, 0, none⟩) n n, .map (some lb)]) (hBs : B ≤ sb) (hBl : B ≤ lb) :
    Calls Try.prog 39 #[ptr bm, .int .u64 id, .slice p l c] w (Ret fun _ w' => LM w' sb lb n (tb ++ [(id, .slice p l c)]) ∧ KeepX [sb, lb] w w') := by
  obtain ⟨cs, h1, h2, h3⟩ := h.arr
  obtain ⟨es, ck, ms, h4, h5, h6⟩ := h.map
  have hne : sb ≠ lb := by rintro rfl; exact map_noBlk h4 _ _ h1
  have hbs : bm ≠ sb := by rintro rfl; exact absurd (Blk.tag_ne hbm h1) (by decide)
  have hbl : bm ≠ lb := by rintro rfl; exact map_noBlk h4 _ _ hbm
  have hHp : Hp ⟨w, B, [tNodes, 1000000]⟩ w (⟨sb, tNodes, cs, true, true, none⟩ :: mpE lb es ck :: restH w [sb, lb]) := by
    have q1 : Hp ⟨w, B, [tNodes, 1000000]⟩ w (mpE lb es ck :: restH w [sb, lb]) := ⟨⟨fun h => (by cases h), fun o ho => by cases ho; exact h4⟩, fun _ _ => .inr ⟨hBl, mem_of_any rfl⟩, fun _ => rest_ne (by simp), Hp.rest _⟩
    refine q1.add h1 (fun _ => .inr ⟨hBs, by simp⟩) fun y hy he => ?_
    rcases List.mem_cons.1 hy with rfl | hy
    · exact hne.symm
    · exact rest_ne (by simp) y hy he
  have hcell : ∀ w', Fm.ok ⟨w, B, [tNodes, 1000000]⟩ w' → ∀ (j : Nat) (u : Value), [.slice (some ⟨sb, 0, none⟩) n n, .map (some lb)][j]? = some u → w'.cell? ⟨bm, 0 + j, none⟩ = some u := fun w' hf j u hj => by
    have := ok_blk hf hbm rfl
    rw [this.cell, Nat.zero_add]; exact hj
  refine startJ (args := [_, _, _]) [(0, _), (1, _), (2, _)] B [tNodes, 1000000] _ Try.func39 rfl Try.ntmps39 rfl rfl hHp ?_
  refine cj_seqF fun K1 hK1 => ?_
  refine cj_reg ?_
  refine j_val rfl (fun a w ha => r_move rfl ha) ?_
  refine j_val rfl (fun a w ha => r_move rfl ha) ?_
  refine j_val rfl (fun a w ha => r_nil rfl ha) ?_
  refine j_val rfl (fun a w ha => r_fl (q := 0) (ft := 97) Try.runUnderlying100 rfl Try.sizeOf97 rfl ha) ?_
  refine j_valw rfl (fun a w ha hH hf => r_load Try.isAgg97 rfl (hcell w (hf) 0 _ rfl) ha) ?_
  refine j_val rfl (fun a w ha => r_len Try.runUnderlying97 rfl ha) ?_
  refine j_val rfl (fun a w ha => r_conv Try.runUnderlying3 Try.runUnderlying53 rfl ha) ?_
  refine j_val rfl (fun a w ha => r_lss rfl rfl ha) ?_
  refine j_nil ?_
  refine ej_then (hK1 _ _ _ ?_); clear hK1
  refine CJ.sub (e' := [(0, _), (1, _), (2, _), (13, _)]) ⟨rfl, rfl, rfl, rfl, trivial⟩ ?_
  refine cj_dec rfl (fun h13 => ?_) (fun h13 => ?_)
  · rw [wrapU hn] at h13
    have hz : id = ((id.toNat : Nat) : Int) := by omega
    have hlt : id.toNat < n := by omega
    refine cj_reg ?_
    refine j_val rfl (fun a w ha => r_move rfl ha) ?_
    refine j_val rfl (fun a w ha => r_nil rfl ha) ?_
    refine j_val rfl (fun a w ha => r_fl (q := 0) (ft := 97) Try.runUnderlying100 rfl Try.sizeOf97 rfl ha) ?_
    refine j_valw rfl (fun a w ha hH hf => r_load Try.isAgg97 rfl (hcell w (hf) 0 _ rfl) ha) ?_
    refine j_val rfl (fun a w ha => r_move rfl ha) ?_
    refine j_val rfl (fun a w ha => r_move rfl ha) ?_
    refine j_val rfl (fun a w ha => r_idxI _ Try.runUnderlying97 Try.sizeOf68 rfl rfl rfl hz hlt ha) ?_
    refine j_store 0 rfl rfl rfl rfl Try.sizeOf68 rfl rfl rfl rfl (by show Nat.ble (0 + id.toNat * 1 + 1) cs.length = true; simp; omega) ?_
    refine j_nil ?_
    refine ?_
    first
    | refine ej_end0 Try.results39 fun w' hH hf => ?_
      have hmp := hH.obj (i := 1) (x := mpE lb es ck) rfl rfl
      refine ⟨⟨⟨_, hH.get (i := 0) rfl rfl, by simp [setL_length, h2], fun q hq hq2 => ?_⟩, ⟨es, ck, ms, hmp, h5, fun q hq hq2 => ?_⟩⟩, Hp.keepX hH.2.2.2.2.2.2 hf⟩
      · show (cs.set (0 + id.toNat * 1) (.slice p l c))[q.1.toNat]? = some q.2
        rw [Nat.zero_add, Nat.mul_one]
        rcases List.mem_append.1 hq with hq | hq
        · have hne2 : id.toNat ≠ q.1.toNat := fun he => hnew (List.mem_map.2 ⟨q, hq, by have := hid q hq; omega⟩)
          rw [List.getElem?_set_ne hne2]; exact h3 q hq hq2
        · simp at hq; subst hq
          exact List.getElem?_set_self (by show id.toNat < cs.length; omega)
      · rcases List.mem_append.1 hq with hq | hq
        · exact h6 q hq hq2
        · simp at hq; subst hq; exact absurd h13 hq2
    | refine ej_end0 Try.results39 fun w' hH hf => ?_
      refine ⟨⟨⟨_, hH.get (i := 0) rfl rfl, h2, fun q hq hq2 => ?_⟩, ⟨es', ck', _, hH.obj (i := 1) rfl rfl, hM', fun q hq hq2 => ?_⟩⟩, Hp.keepX hH.2.2.2.2.2.2 hf⟩
      · rcases List.mem_append.1 hq with hq | hq
        · exact h3 q hq hq2
        · simp at hq; subst hq; exact absurd hq2 h13
      · rw [mget_mset]
        rcases List.mem_append.1 hq with hq | hq
        · rw [if_neg fun he => hnew (List.mem_map.2 ⟨q, hq, he⟩)]; exact h6 q hq hq2
        · simp at hq; subst hq; rw [if_pos rfl]
  · rw [wrapU hn] at h13
    refine cj_reg ?_
    refine j_val rfl (fun a w ha => r_move rfl ha) ?_
    refine j_val rfl (fun a w ha => r_nil rfl ha) ?_
    refine j_val rfl (fun a w ha => r_fl (q := 1) (ft := 98) Try.runUnderlying100 rfl Try.sizeOf98 rfl ha) ?_
    refine j_valw rfl (fun a w ha hH hf => r_load Try.isAgg98 rfl (hcell w (hf) 1 _ rfl) ha) ?_
    refine j_val rfl (fun a w ha => r_move rfl ha) ?_
    refine j_val rfl (fun a w ha => r_move rfl ha) ?_
    refine j_mapupd (k := id) 1 rfl Try.runUnderlying98 (keyT_int Try.runUnderlying53) h5 rfl rfl rfl (fun _ _ _ => ⟨fun _ _ => trivial, trivial⟩) fun es' ck' hM' => ?_
    refine j_nil ?_
    refine ?_
    first
    | refine ej_end0 Try.results39 fun w' hH hf => ?_
      have hmp := hH.obj (i := 1) (x := mpE lb es ck) rfl rfl
      refine ⟨⟨⟨_, hH.get (i := 0) rfl rfl, by simp [setL_length, h2], fun q hq hq2 => ?_⟩, ⟨es, ck, ms, hmp, h5, fun q hq hq2 => ?_⟩⟩, Hp.keepX hH.2.2.2.2.2.2 hf⟩
      · show (cs.set (0 + id.toNat * 1) (.slice p l c))[q.1.toNat]? = some q.2
        rw [Nat.zero_add, Nat.mul_one]
        rcases List.mem_append.1 hq with hq | hq
        · have hne2 : id.toNat ≠ q.1.toNat := fun he => hnew (List.mem_map.2 ⟨q, hq, by have := hid q hq; omega⟩)
          rw [List.getElem?_set_ne hne2]; exact h3 q hq hq2
        · simp at hq; subst hq
          exact List.getElem?_set_self (by show id.toNat < cs.length; omega)
      · rcases List.mem_append.1 hq with hq | hq
        · exact h6 q hq hq2
        · simp at hq; subst hq; exact absurd h13 hq2
    | refine ej_end0 Try.results39 fun w' hH hf => ?_
      refine ⟨⟨⟨_, hH.get (i := 0) rfl rfl, h2, fun q hq hq2 => ?_⟩, ⟨es', ck', _, hH.obj (i := 1) rfl rfl, hM', fun q hq hq2 => ?_⟩⟩, Hp.keepX hH.2.2.2.2.2.2 hf⟩
      · rcases List.mem_append.1 hq with hq | hq
        · exact h3 q hq hq2
        · simp at hq; subst hq; exact absurd hq2 h13
      · rw [mget_mset]
        rcases List.mem_append.1 hq with hq | hq
        · rw [if_neg fun he => hnew (List.mem_map.2 ⟨q, hq, he⟩)]; exact h6 q hq hq2
        · simp at hq; subst hq; rw [if_pos rfl]
end Go.Proofs.Ytgjpegehmbebpaa
