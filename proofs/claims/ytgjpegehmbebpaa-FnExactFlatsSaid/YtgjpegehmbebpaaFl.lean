/-
  The nodes of a graph whose flat value is not 0, as a list. Conditions: the profile is well formed.
-/
import Derived.Test.YtgjpegehmbebpaaNg
namespace Go.Proofs.Ytgjpegehmbebpaa
open Go Go.Fw Go.Proofs
def fkOf (i : NI) (v : Int) : FK := ⟨i.name, i.addr, i.line, i.start, v⟩
theorem cFK_len (i : FK) : (cFK i).length = 5 := rfl
theorem fkOf_inj {i j : NI} {v u : Int} (h : fkOf i v = fkOf j u) : i = j ∧ v = u := by
  cases i; cases j
  simp [fkOf] at h
  simp [h]
theorem OfP.zero {B : Nat} {w : World} {x : PProf} {g : G} (h : OfP B w x g) : OfP 0 w x g :=
  ⟨h.prof, h.per, h.types, h.maps, h.funs, h.locs, h.sams, h.ntypes, h.nmaps, h.nfuns, h.nlocs, h.nsams, Nat.zero_le _, Nat.zero_le _, fun _ _ => Nat.zero_le _, fun _ _ => Nat.zero_le _, fun _ _ => Nat.zero_le _, fun _ _ => Nat.zero_le _, fun _ _ => Nat.zero_le _⟩
theorem flats_c (w : World) (cs : List Value) (x : PProf) (kv : Nat) (h : RProf w cs x) (hx : WellP x) (hkv : kv < x.types.length) :
    Calls Try.prog 7 #[.agg cs.toArray, .int .i64 (kv : Nat)] w (Ret fun v w' => (∃ is : List NI, OS tFlat 5 w' v (is.flatMap fun i => cFK (fkOf i (flS x kv x.samples.length i))) ∧ is.Nodup ∧ is.length ≤ 12000 ∧ ∀ i, i ∈ is ↔ flS x kv x.samples.length i ≠ 0) ∧ Fr 0 [] w w') := by
  have hP := h
  have hid : ∀ l ∈ x.locs, 0 ≤ l.id := by
    obtain ⟨la, lsa, lm, ll, lf, lcm, -, -, -, -, hll, -⟩ := h
    exact hll.each fun c y hy => by
      obtain ⟨_, _, hw, _⟩ := hy
      rw [← hw]
      simp [IntKind.wrap, IntKind.bits, IntKind.signed]; omega
  obtain ⟨la, lsa, lm, ll, lf, lcm, rfl, -⟩ := h
  refine startJ (args := [_, _]) [(0, _), (1, _)] 0 [] [] Try.func7 rfl Try.ntmps7 rfl rfl .nil ?_
  refine cj_seqF fun K1 hK1 => ?_
  refine cj_reg ?_
  refine j_boxA (vs := [_, _, _, _, _, _, _, _, _, _, _, _, _, _]) rfl rfl fun b2 => ?_
  refine j_box1 rfl rfl rfl fun b3 => ?_
  refine j_val rfl (fun a w ha => r_assign rfl ha) ?_
  refine j_nil ?_
  refine ej_then (hK1 _ _ _ ?_); clear hK1
  refine CJ.sub (e' := [(2, _), (3, _)]) ⟨rfl, rfl, trivial⟩ ?_
  refine cj_seqF fun K2 hK2 => ?_
  refine cj_reg ?_
  refine j_valw rfl (fun a w ha hH hf => r_ldA (vs := [_, _, _, _, _, _, _, _, _, _, _, _, _, _]) 1 rfl rfl Try.isAgg31 Try.sizeOf31 rfl rfl rfl ha hH) ?_
  refine j_callE (R := fun w1 v w2 => (∃ g, v = ptr g.pb ∧ OfP w1.heap.size w2 x g) ∧ Fr 0 [] w1 w2) Try.call19 rfl rfl (fun w1 hH hf => of_c w1 _ x (RProf.keep (hf.keepAll (.inr rfl)) _ _ hP) hx) fun w1 v w2 hH1 hf1 hR => ?_
  obtain ⟨⟨g, rfl, hG⟩, hq2⟩ := hR
  have hG0 : OfP 0 w2 x g := hG.zero
  have hb3 : Blk w2 b3 3 [.int .i64 (kv : Nat)] := hq2.blk (hH1.get (i := 0) rfl rfl) (.inr (by simp))
  refine J.begin ⟨w2, 0, []⟩ [] ok_refl .nil ?_
  refine j_val rfl (fun a w ha => r_mkf rfl rfl ha) ?_
  refine j_val rfl (fun a w ha => r_build (cs := [_, (.nilFunc), (.bool false), (.map none)]) bt66 rfl rfl ha) ?_
  refine j_boxA (vs := [_, _, _, _]) rfl rfl fun b13 => ?_
  refine j_callE (R := fun w3 v w4 => (∃ (gb : Nat) (v' : Value) (bs : List Nat) (inf : Nat → NI), v = ptr gb ∧ Blk w4 gb tGraph [v'] ∧ OS pNode 1 w4 v' (bs.map ptr) ∧ bs.length ≤ 12000 ∧
    (∀ b ∈ bs, ∃ cu N, NodeAt 0 N w4 b (inf b) (flS x kv x.samples.length (inf b)) cu) ∧ (bs.map inf).Nodup ∧ (∀ i, flS x kv x.samples.length i ≠ 0 → ∃ b ∈ bs, inf b = i)) ∧ Fr 0 [] w3 w4) Try.call18 rfl rfl (fun w3 hH hf => newGraph_c w3 x g _ b3 kv (hG0.keep (hf.keepAll (.inr rfl))) hx (hH.get (i := 0) rfl rfl) (hf.blk hb3 (.inr (by simp))) hkv hid) fun w3 v w4 hH3 hf3 hR => ?_
  obtain ⟨⟨gb, nv, bs, inf, rfl, hgb, hos, hlen, hnode, hnd, hall⟩, hq4⟩ := hR
  obtain ⟨p, l, c, rfl, hl, hlc, hcs⟩ := hos.openF
  obtain rfl : l = bs.length := by simpa using hl.symm
  have hcgb := mc (f := ⟨w4, 0, []⟩) hgb rfl
  have hq : Fr 0 [] w w4 := (Fr.trans hf1 hq2 (.inr ⟨Nat.le_refl _, fun _ h => h⟩)).trans (Fr.trans hf3 hq4 (.inr ⟨Nat.le_refl _, fun _ h => h⟩)) (.inr ⟨Nat.le_refl _, fun _ h => h⟩)
  refine J.begin ⟨w4, 0, []⟩ [] ok_refl .nil ?_
  refine j_val rfl (fun a w ha => r_assign rfl ha) ?_
  refine j_nil ?_
  refine ej_then (hK2 _ _ _ ?_); clear hK2
  refine CJ.sub (e' := [(5, _)]) ⟨rfl, trivial⟩ ?_
  refine cj_seqF fun K3 hK3 => ?_
  refine cj_reg ?_
  refine j_val rfl (fun a w ha => r_assign rfl ha) ?_
  refine j_nil ?_
  refine ej_then (hK3 _ _ _ ?_); clear hK3
  refine CJ.sub (e' := [(5, _), (6, _)]) ⟨rfl, rfl, trivial⟩ ?_
  refine cj_seqF fun K4 hK4 => ?_
  refine cj_seqF fun K5 hK5 => ?_
  refine cj_reg ?_
  refine j_val rfl (fun a w ha => r_move rfl ha) ?_
  refine j_val rfl (fun a w ha => r_nil rfl ha) ?_
  refine j_val rfl (fun a w ha => r_fl (q := 0) (ft := 68) Try.runUnderlying70 rfl Try.sizeOf68 rfl ha) ?_
  refine j_valw rfl (fun a w ha hH hf => r_load Try.isAgg68 rfl (hcgb w (hf) 0 _ rfl) ha) ?_
  refine j_val rfl (fun a w ha => r_len Try.runUnderlying68 rfl ha) ?_
  refine j_val rfl (fun a w ha => r_move rfl ha) ?_
  refine j_nil ?_
  refine ej_then (hK5 _ _ _ ?_); clear hK5
  refine CJ.sub (e' := [(6, _), (18, _), (19, _), (20, _)]) ⟨rfl, rfl, rfl, rfl, trivial⟩ ?_
  refine cj_block ?_
  -- LOOP 0 live [6, 18, 19, 20]
  refine cj_loop (σ := Nat × List NI × Ent × Option Addr × Nat) (fun s => [(6, .slice s.2.2.2.1 s.2.1.length s.2.2.2.2), (18, .slice p bs.length c), (19, .int .i64 (bs.length : Nat)), (20, .int .i64 (s.1 : Nat))])
    (fun s => [s.2.2.1]) (fun s _ => s.1 ≤ bs.length ∧ Own tFlat 5 s.2.2.1 s.2.2.2.1 s.2.1.length s.2.2.2.2 (s.2.1.flatMap fun i => cFK (fkOf i (flS x kv x.samples.length i))) ∧ s.2.1.Sublist ((bs.take s.1).map inf) ∧ (∀ b ∈ bs.take s.1, flS x kv x.samples.length (inf b) ≠ 0 → inf b ∈ s.2.1) ∧ ∀ i ∈ s.2.1, flS x kv x.samples.length i ≠ 0) (fun s => bs.length - s.1)
    (0, [], nilE tFlat, none, 0) ⟨rfl, rfl, rfl, rfl, trivial⟩ (fun w' hH hf => ⟨Hp.off .nil, Nat.zero_le _, Own.nil, by simp, by simp, by simp⟩) ?_
  rintro ⟨k, is, y, q, cc⟩ w1' ⟨hk, hO, hsub, hin, hne⟩ hf1' hH1' KL hKL
  have hk : k ≤ bs.length := hk
  have hO : Own tFlat 5 y q is.length cc (is.flatMap fun i => cFK (fkOf i (flS x kv x.samples.length i))) := hO
  have hsub : is.Sublist ((bs.take k).map inf) := hsub
  have hin : ∀ b ∈ bs.take k, flS x kv x.samples.length (inf b) ≠ 0 → inf b ∈ is := hin
  have hne : ∀ i ∈ is, flS x kv x.samples.length i ≠ 0 := hne
  have hil : is.length ≤ k := by have := hsub.length_le; simp at this; omega
  refine C.begin ⟨w4, 0, []⟩ [y] hf1' hH1' ?_
  refine CJ.sub (e' := [(6, .slice q is.length cc), (18, .slice p bs.length c), (19, .int .i64 (bs.length : Nat)), (20, .int .i64 (k : Nat))]) ⟨rfl, rfl, rfl, rfl, trivial⟩ ?_
  refine cj_seqF fun K6 hK6 => ?_
  refine cj_reg ?_
  refine j_val rfl (fun a w ha => r_lss rfl rfl ha) ?_
  refine j_nil ?_
  refine ej_then (hK6 _ _ _ ?_); clear hK6
  refine CJ.sub (e' := [(6, _), (18, _), (19, _), (20, _), (21, _)]) ⟨rfl, rfl, rfl, rfl, rfl, trivial⟩ ?_
  refine cj_seqF fun K7 hK7 => ?_
  refine cj_dec rfl (fun h21 => ?_) (fun h21 => ?_)
  · have hk' : k < bs.length := by omega
    obtain ⟨b, rfl, hcell0⟩ := hcs (by omega)
    have hcell : ∀ w', Fm.ok ⟨w4, 0, []⟩ w' → ∀ (j : Nat) (u : Value), [ptr bs[k]][j]? = some u → w'.cell? ⟨b, 0 + k * 1 + j, none⟩ = some u := fun w' kp j u hu => by
      cases j with
      | zero => simp at hu; subst hu; simpa using hcell0 ⟨w4, 0, []⟩ rfl rfl w' kp k (ptr bs[k]) (by simp [hk'])
      | succ j => simp at hu
    obtain ⟨cu, N, hnd0⟩ := hnode bs[k] (List.getElem_mem hk')
    obtain ⟨fn, fd, cd, ein, eout, hb, -, -⟩ := hnd0.ex
    have hcn := mc (f := ⟨w4, 0, []⟩) hb rfl
    refine cj_skip (ej_then (hK7 _ _ _ ?_)); clear hK7
    refine CJ.sub (e' := [(6, _), (18, _), (19, _), (20, _)]) ⟨rfl, rfl, rfl, rfl, trivial⟩ ?_
    refine cj_seqF fun K8 hK8 => ?_
    refine cj_block ?_
    refine cj_seqF fun K9 hK9 => ?_
    refine cj_reg ?_
    refine j_val rfl (fun a w ha => r_idx Try.runUnderlying68 Try.sizeOf71 rfl rfl (by omega) ha) ?_
    refine j_valw rfl (fun a w ha hH hf => r_load Try.isAgg71 rfl (hcell w (hf) 0 _ rfl) ha) ?_
    refine j_val rfl (fun a w ha => r_assign rfl ha) ?_
    refine j_nil ?_
    refine ej_then (hK9 _ _ _ ?_); clear hK9
    refine CJ.sub (e' := [(6, _), (8, _), (18, _), (19, _), (20, _)]) ⟨rfl, rfl, rfl, rfl, rfl, trivial⟩ ?_
    refine cj_seqF fun K10 hK10 => ?_
    refine cj_reg ?_
    refine j_val rfl (fun a w ha => r_move rfl ha) ?_
    refine j_val rfl (fun a w ha => r_nil rfl ha) ?_
    refine j_val rfl (fun a w ha => r_fl (q := 5) (ft := 2) Try.runUnderlying77 rfl Try.sizeOf2 rfl ha) ?_
    refine j_valw rfl (fun a w ha hH hf => r_load Try.isAgg2 rfl (hcn w (hf) 5 _ rfl) ha) ?_
    refine j_val rfl (fun a w ha => r_neq rfl rfl ha) ?_
    refine j_nil ?_
    refine ej_then (hK10 _ _ _ ?_); clear hK10
    refine CJ.sub (e' := [(6, _), (8, _), (18, _), (19, _), (20, _), (28, _)]) ⟨rfl, rfl, rfl, rfl, rfl, rfl, trivial⟩ ?_
    refine cj_dec rfl (fun h28 => ?_) (fun h28 => ?_)
    · refine cj_drawI 29 [(0, true), (1, true), (2, true), (3, true), (4, true), (5, true), (6, true), (7, true), (8, true), (9, true), (10, true), (11, true), (12, true), (13, true), (14, true), (15, true), (16, true), (17, true), (18, true), (19, true), (20, true), (21, true), (22, true), (23, true), (24, true), (25, true), (26, false), (27, false), (28, true)] [] rfl (by kernel_rfl) (by kernel_rfl) ?_
      refine dj_val rfl rfl (sub_of [] rfl) (fun a w ha => r_move rfl ha) ?_
      refine dj_val rfl rfl (sub_of [] rfl) (fun a w ha => r_move rfl ha) ?_
      refine dj_val rfl rfl (sub_of [] rfl) (fun a w ha => r_nil rfl ha) ?_
      refine dj_val rfl rfl (sub_of [] rfl) (fun a w ha => r_fl (q := 0) (ft := 73) Try.runUnderlying77 rfl Try.sizeOf73 rfl ha) ?_
      refine dj_val rfl rfl (sub_of [] rfl) (fun a w ha => r_fl (q := 0) (ft := 9) Try.runUnderlying73 rfl Try.sizeOf9 rfl ha) ?_
      refine dj_ld rfl rfl (sub_of [] rfl) (fun a w ha hS => r_load Try.isAgg9 rfl (hcn w (hS.2) 0 _ rfl) ha) ?_
      refine dj_val rfl rfl (sub_of [] rfl) (fun a w ha => r_move rfl ha) ?_
      refine dj_val rfl rfl (sub_of [] rfl) (fun a w ha => r_nil rfl ha) ?_
      refine dj_val rfl rfl (sub_of [] rfl) (fun a w ha => r_fl (q := 0) (ft := 73) Try.runUnderlying77 rfl Try.sizeOf73 rfl ha) ?_
      refine dj_val rfl rfl (sub_of [] rfl) (fun a w ha => r_fl (q := 1) (ft := 53) Try.runUnderlying73 rfl Try.sizeOf53 rfl ha) ?_
      refine dj_ld rfl rfl (sub_of [] rfl) (fun a w ha hS => r_load Try.isAgg53 rfl (hcn w (hS.2) 1 _ rfl) ha) ?_
      refine dj_val rfl rfl (sub_of [] rfl) (fun a w ha => r_move rfl ha) ?_
      refine dj_val rfl rfl (sub_of [] rfl) (fun a w ha => r_nil rfl ha) ?_
      refine dj_val rfl rfl (sub_of [] rfl) (fun a w ha => r_fl (q := 0) (ft := 73) Try.runUnderlying77 rfl Try.sizeOf73 rfl ha) ?_
      refine dj_val rfl rfl (sub_of [] rfl) (fun a w ha => r_fl (q := 3) (ft := 3) Try.runUnderlying73 rfl Try.sizeOf3 rfl ha) ?_
      refine dj_ld rfl rfl (sub_of [] rfl) (fun a w ha hS => r_load Try.isAgg3 rfl (hcn w (hS.2) 3 _ rfl) ha) ?_
      refine dj_val rfl rfl (sub_of [] rfl) (fun a w ha => r_move rfl ha) ?_
      refine dj_val rfl rfl (sub_of [] rfl) (fun a w ha => r_nil rfl ha) ?_
      refine dj_val rfl rfl (sub_of [] rfl) (fun a w ha => r_fl (q := 0) (ft := 73) Try.runUnderlying77 rfl Try.sizeOf73 rfl ha) ?_
      refine dj_val rfl rfl (sub_of [] rfl) (fun a w ha => r_fl (q := 2) (ft := 3) Try.runUnderlying73 rfl Try.sizeOf3 rfl ha) ?_
      refine dj_ld rfl rfl (sub_of [] rfl) (fun a w ha hS => r_load Try.isAgg3 rfl (hcn w (hS.2) 2 _ rfl) ha) ?_
      refine dj_val rfl rfl (sub_of [] rfl) (fun a w ha => r_move rfl ha) ?_
      refine dj_val rfl rfl (sub_of [] rfl) (fun a w ha => r_nil rfl ha) ?_
      refine dj_val rfl rfl (sub_of [] rfl) (fun a w ha => r_fl (q := 5) (ft := 2) Try.runUnderlying77 rfl Try.sizeOf2 rfl ha) ?_
      refine dj_ld rfl rfl (sub_of [] rfl) (fun a w ha hS => r_load Try.isAgg2 rfl (hcn w (hS.2) 5 _ rfl) ha) ?_
      refine dj_val rfl rfl (sub_of [] rfl) (fun a w ha => r_build (cs := [_, _, _, _, _]) bt55 rfl rfl ha) ?_
      refine dj_eff rfl fun K2 hK2 => ?_
      refine j_bslice1 Try.runUnderlying34 Try.sizeOf55 Try.zeroValue55 rfl rfl rfl rfl rfl fun b55 => ?_
      refine j_nil (ej_then (hK2 _ _ (.inr (sub_of [] rfl)) ?_)); clear hK2 K2
      refine dj_eff rfl fun K2 hK2 => ?_
      refine j_appO 0 rfl hO Try.runUnderlying34 el55 rfl rfl rfl rfl rfl (by omega) rfl fun y56 p56 c56 hO56 => ?_
      refine j_nil (ej_then (hK2 _ _ (.inr (sub_of [] rfl)) ?_)); clear hK2 K2
      refine dj_val rfl rfl (sub_of [] rfl) (fun a w ha => r_assign rfl ha) ?_
      refine dj_end ?_
      refine ej_blk (ej_then (hK8 _ _ _ ?_)); clear hK8
      refine CJ.sub (e' := [(6, _), (18, _), (19, _), (20, _)]) ⟨rfl, rfl, rfl, rfl, trivial⟩ ?_
      refine cj_reg ?_
      refine j_val rfl (fun a w ha => r_inc (by omega) rfl rfl ha) ?_
      refine j_val rfl (fun a w ha => r_move rfl ha) ?_
      refine j_nil ?_
      refine ej_then ?_
      first
      | exact fun w' hH hf => hKL (k + 1, is, y, q, cc) _ w' ⟨hk', hO, hsub.trans (by rw [← List.take_append_getElem hk', List.map_append]; exact List.sublist_append_left _ _), all_step hk' hin (fun h0 => absurd h0 h28), hne⟩ hf hH (by simp only; omega) ⟨rfl, rfl, rfl, rfl, trivial⟩
      | exact fun w' hH hf => hKL (k + 1, is ++ [inf bs[k]], y56, p56, c56) _ w' ⟨hk', by have h : Own tFlat 5 y56 p56 (is.length + 1) c56 (is.flatMap (fun i => cFK (fkOf i (flS x kv x.samples.length i))) ++ cFK (fkOf (inf bs[k]) (flS x kv x.samples.length (inf bs[k])))) := hO56; simpa only [List.flatMap_append, List.flatMap_cons, List.flatMap_nil, List.append_nil, List.length_append, List.length_singleton] using h, by rw [← List.take_append_getElem hk', List.map_append]; exact hsub.append_right _, all_step hk' (fun b hb hf => List.mem_append_left _ (hin b hb hf)) (fun _ => by simp), by
          intro i hi
          rcases List.mem_append.1 hi with hi | hi
          · exact hne i hi
          · simp at hi; subst hi; exact h28⟩ hf hH (by simp only; omega) ⟨by simp only [List.length_append, List.length_singleton]; rfl, rfl, rfl, rfl, trivial⟩
    · refine cj_skip (ej_blk (ej_then (hK8 _ _ _ ?_))); clear hK8
      refine CJ.sub (e' := [(6, _), (18, _), (19, _), (20, _)]) ⟨rfl, rfl, rfl, rfl, trivial⟩ ?_
      refine cj_reg ?_
      refine j_val rfl (fun a w ha => r_inc (by omega) rfl rfl ha) ?_
      refine j_val rfl (fun a w ha => r_move rfl ha) ?_
      refine j_nil ?_
      refine ej_then ?_
      first
      | exact fun w' hH hf => hKL (k + 1, is, y, q, cc) _ w' ⟨hk', hO, hsub.trans (by rw [← List.take_append_getElem hk', List.map_append]; exact List.sublist_append_left _ _), all_step hk' hin (fun h0 => absurd h0 h28), hne⟩ hf hH (by simp only; omega) ⟨rfl, rfl, rfl, rfl, trivial⟩
      | exact fun w' hH hf => hKL (k + 1, is ++ [inf bs[k]], y56, p56, c56) _ w' ⟨hk', by have h : Own tFlat 5 y56 p56 (is.length + 1) c56 (is.flatMap (fun i => cFK (fkOf i (flS x kv x.samples.length i))) ++ cFK (fkOf (inf bs[k]) (flS x kv x.samples.length (inf bs[k])))) := hO56; simpa only [List.flatMap_append, List.flatMap_cons, List.flatMap_nil, List.append_nil, List.length_append, List.length_singleton] using h, by rw [← List.take_append_getElem hk', List.map_append]; exact hsub.append_right _, all_step hk' (fun b hb hf => List.mem_append_left _ (hin b hb hf)) (fun _ => by simp), by
          intro i hi
          rcases List.mem_append.1 hi with hi | hi
          · exact hne i hi
          · simp at hi; subst hi; exact h28⟩ hf hH (by simp only; omega) ⟨by simp only [List.length_append, List.length_singleton]; rfl, rfl, rfl, rfl, trivial⟩
  · refine cj_exit (ej_then_exit (ej_then_exit (ej_blk_hit (ej_then (hK4 _ _ _ ?_))))); clear hK4
    refine CJ.sub (e' := [(6, _)]) ⟨rfl, trivial⟩ ?_
    refine cj_seqF fun K11 hK11 => ?_
    refine cj_reg ?_
    refine j_val rfl (fun a w ha => r_move rfl ha) ?_
    refine j_val rfl (fun a w ha => r_assign rfl ha) ?_
    refine j_nil ?_
    refine ej_then (hK11 _ _ _ ?_); clear hK11
    refine CJ.sub (e' := [(4, _)]) ⟨rfl, trivial⟩ ?_
    refine cj_ret (?_)
    exact ej_ret1 Try.results7 rfl fun w' hH hf => by
      rw [List.take_of_length_le (by omega)] at hsub hin
      refine ⟨⟨is, hO.os (i := 0) hH rfl, hsub.nodup hnd, by omega, fun i => ⟨hne i, fun hi => ?_⟩⟩, Fr.trans hq hf (.inr ⟨Nat.le_refl _, fun _ h => h⟩)⟩
      obtain ⟨b, hb, rfl⟩ := hall i hi
      exact hin b hb hi
end Go.Proofs.Ytgjpegehmbebpaa
