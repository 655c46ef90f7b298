/-
  A profile is made ready to be written. Conditions: the profile is one that impl.of has made, and well formed; there are few texts.
-/
import Derived.Test.YtifnhinopjgfaaaGreatPt
namespace Go.Proofs.YtifnhinopjgfaaaGreat
open Go Go.Fw Go.Proofs Go.Proofs.Tryz
theorem CJ.turn {P : Program} {c : Code} {Q : Exit → Act → World → Prop} {n : Nat} {e : Env} {ws : World} {W : List Nat} {H : Heap} (hH : Hp ⟨ws, 0, W⟩ ws H) (h : CJ P c Q n ⟨ws, 0, W⟩ e H) : CJ P c Q n ⟨ws, 0, []⟩ e [] := fun w _ hf => h w (hH.fr hf) (hf.quiet 0 W)
theorem osCellW {w w1 : World} {B : Nat} {W W1 : List Nat} {b T : Nat} {xs : List Value} {v : Value} {k : Nat} (hF : Fr B W w w1) (hW : W.all (fun t => !Nat.beq t T) = true) (hW1 : W1.all (fun t => !Nat.beq t T) = true) (hc : ∀ f : Fm, f.ws = w → f.W.all (fun t => !Nat.beq t T) = true → ∀ w', f.ok w' → ∀ (j : Nat) (u : Value), xs[j]? = some u → w'.cell? ⟨b, j, none⟩ = some u) (hv : xs[k]? = some v) :
  ∀ w', Fm.ok ⟨w1, 0, W1⟩ w' → ∀ (j : Nat) (u : Value), [v][j]? = some u → w'.cell? ⟨b, 0 + k * 1 + j, none⟩ = some u := fun w' kp j u hu => by
 cases j with
 | zero =>
  simp at hu; subst hu
  have h1 : Fm.ok ⟨w, 0, W ++ W1⟩ w' := Fr.trans (hF.mono (.inr ⟨Nat.zero_le _, fun _ h => List.mem_append_left _ h⟩)) (Fr.mono kp (B' := 0) (W' := W ++ W1) (.inr ⟨Nat.le_refl _, fun _ h => List.mem_append_right _ h⟩)) (.inr ⟨Nat.le_refl _, fun _ h => h⟩)
  simpa using hc ⟨w, 0, W ++ W1⟩ rfl (by simp only [List.all_append, hW, hW1, Bool.and_self]) w' h1 k v hv
 | succ j => simp at hu
theorem PS.init {B : Nat} {w0 w : World} {mb : Nat} {x : PProf} {g : G} {T : List ByteArray} (hG : OfP B w0 x g) (k : Fr 0 [] w0 w) (tab : Tab w mb (allS x) T) (zero : T[0]? = some eB) : PS B w0 mb x g 0 0 0 0 0 T w := by
 have kr := fun (b : Nat) (T : Nat) (cs : List Value) (hb : Blk w0 b T cs) => k.blk hb (.inr (by simp))
 refine ⟨tab, zero, k.quiet B wP, fun i b y hb hy => ⟨fun h => by omega, fun _ => kr _ _ _ (hG.types.2 i b y hb hy)⟩, fun i b y hb hy => ⟨fun h => by omega, fun _ => ?_⟩, fun i b y hb hy => ⟨fun h => by omega, fun _ => kr _ _ _ (hG.maps.2 i b y hb hy)⟩, fun i b y hb hy => ⟨fun h => by omega, fun _ => ?_⟩, fun i b y hb hy => ⟨fun h => by omega, fun _ => kr _ _ _ (hG.funs.2 i b y hb hy)⟩, kr _ _ _ hG.per, fun b cs hb => ⟨cs, kr _ _ _ hb, LC.refl⟩⟩
 ·obtain ⟨ls, vs, lm, nm, h1, h2⟩ := (hG.sams.2 i b y hb hy).ex
  exact ⟨ls, vs, lm, nm, kr _ _ _ h1, h2⟩
 ·obtain ⟨ls, h1, h2⟩ := (hG.locs.2 i b y hb hy).ex
  obtain ⟨cs, h3, h4⟩ := hG.rows b (List.mem_of_getElem? hb)
  exact ⟨ls, kr _ _ _ h1, h2, fun rb n c e => h4 rb n c (by rw [Blk.same' h3 h1, e]; rfl)⟩
theorem flatMap_bound {α β : Type} {f : α → List β} {c : Nat} : ∀ {l : List α}, (∀ a ∈ l, (f a).length ≤ c) → (l.flatMap f).length ≤ c * l.length
 | [], _ => by simp
 | a :: r, h => by
  rw [List.flatMap_cons, List.length_append, List.length_cons]
  have h1 := h a (by simp)
  have h2 := flatMap_bound (l := r) fun b hb => h b (by simp [hb])
  rw [Nat.mul_succ]; omega
theorem mo_ne {w u : World} {mo : Option Nat} {es : List MapEntry} {ck b T mb : Nat} {cs : List Value} (h : MapAt w mo es ck) (h' : MapAt u mo es ck) (hb : Blk u b T cs) (hmb : w.heap.size ≤ mb) : ∀ c, mo = some c → c ∉ [b, mb] := fun c hc hm => by
 subst hc
 simp at hm
 rcases h with ⟨h, -⟩ | ⟨c', h1, h2⟩
 ·cases h
 cases h1
 have hlt := (Array.getElem?_eq_some_iff.1 h2).1
 rcases hm with hm | hm
 ·subst hm
  rcases h' with ⟨h, -⟩ | ⟨c', h1, h3⟩
  ·cases h
  cases h1
  have h4 : u.heap[c]? = some (.cells cs.toArray T (0, 0)) := hb
  rw [h3] at h4; cases h4
 ·omega
theorem labs_len1 {s : PSample} (h : LabP s) (m j : Nat) (hm : m < s.texts.length) : ((s.texts.take m).flatMap labE1 ++ (labE1 s.texts[m]).take j).length ≤ 4000 := by
 have h1 : ((s.texts.take m).flatMap labE1).length ≤ 60 * (s.texts.take m).length := flatMap_bound fun t ht => by
  simp only [labE1, List.length_map]
  exact (h.tl t (List.mem_of_mem_take ht)).2.1
 have h2 : (labE1 s.texts[m]).length ≤ 60 := by
  simp only [labE1, List.length_map]
  exact (h.tl _ (List.getElem_mem hm)).2.1
 have h3 := h.tlen
 simp only [List.length_append, List.length_take] at h1 ⊢
 omega
theorem labs_len2 {s : PSample} (h : LabP s) (m j : Nat) (hm : m < s.nums.length) : (s.texts.flatMap labE1 ++ (s.nums.take m).flatMap labE2 ++ (labE2 s.nums[m]).take j).length ≤ 8000 := by
 have h0 : (s.texts.flatMap labE1).length ≤ 60 * s.texts.length := flatMap_bound fun t ht => by
  simp only [labE1, List.length_map]
  exact (h.tl t ht).2.1
 have h1 : ((s.nums.take m).flatMap labE2).length ≤ 60 * (s.nums.take m).length := flatMap_bound fun t ht => by
  simp only [labE2, List.length_map]
  exact (h.nl t (List.mem_of_mem_take ht)).2
 have h2 : (labE2 s.nums[m]).length ≤ 60 := by
  simp only [labE2, List.length_map]
  exact (h.nl _ (List.getElem_mem hm)).2
 have h3 := h.nlen
 have h4 := h.tlen
 simp only [List.length_append, List.length_take] at h1 ⊢
 omega
theorem lid_get {x : PProf} {z : Int} {l : PLoc} (h : 0 ≤ z) (hl : x.locs[z.toNat]? = some l) : lid x z = l.id := by
 simp [lid, idAt, h, List.getD_eq_getElem?_getD, hl]
set_option maxHeartbeats 4000000 in
theorem preEncode_c (B : Nat) (w : World) (x : PProf) (g : G) (hG : OfP B w x g) (hx : WellP x) (hS : (allS x).length ≤ 100000000) : Calls Tryz.prog 55 #[ptr g.pb] w (Ret fun _ w' => ∃ T, PreE B w w' x g T) := by
 obtain ⟨tyv, sav, mav, lov, fuv, cov, hpb, hty, hsa, hma, hlo, hfu, -⟩ := hG.prof
 obtain ⟨p1, l1, c1, rfl, hl1, -, hx1⟩ := hty.openF
 obtain ⟨p2, l2, c2, rfl, hl2, -, hx2⟩ := hsa.openF
 obtain ⟨p3, l3, c3, rfl, hl3, -, hx3⟩ := hma.openF
 obtain ⟨p4, l4, c4, rfl, hl4, -, hx4⟩ := hlo.openF
 obtain ⟨p5, l5, c5, rfl, hl5, -, hx5⟩ := hfu.openF
 obtain rfl : l1 = x.types.length := by have := hG.types.1; simp at hl1; omega
 obtain rfl : l2 = x.samples.length := by have := hG.sams.1; simp at hl2; omega
 obtain rfl : l3 = x.mappings.length := by have := hG.maps.1; simp at hl3; omega
 obtain rfl : l4 = x.locs.length := by have := hG.locs.1; simp at hl4; omega
 obtain rfl : l5 = x.funcs.length := by have := hG.funs.1; simp at hl5; omega
 have hc0 := mc (f := ⟨w, 0, []⟩) hpb rfl
 have hS2 : (allS x).length ≤ 100000000000 := by omega
 have hS' : ∀ {T : List ByteArray} {u : World} {mb : Nat}, Tab u mb (allS x) T → T.length ≤ 100000000 := fun h => Nat.le_trans h.len hS
 have hn1 := hx.ntyp
 have hn2 := hx.nsam
 have hn3 := hx.tab.m.2.2
 have hn5 := hx.tab.f.2.2
 have hn4 := hx.tab.l.2.2
 simp only [List.length_map] at hn3 hn4 hn5
 refine startJ (args := [_]) [(0, _)] 0 [] [] func55 rfl ntmps55 rfl rfl .nil ?_
 refine cj_seqF fun K1 hK1 => cj_reg ?_
 refine j_mkmap (fun _ h => by cases h) rfl fun b34 => ?_
 refine jA rfl rfl (j_nil (ej_then (hK1 _ _ _ (CJ.s [(0, _), (2, _)] ⟨rfl, rfl, trivial⟩ (cj_seqF fun K2 hK2 => cj_reg (jM rfl rfl ?_))))))
 refine j_callA1 (T := []) (S := allS x) 0 rfl MEnc.nil' (by simp) (by simp [allS]) hS2 rfl rfl fun T0 m0 es0 ck0 hm0 hp0 hs0 hM0 ht0 => ?_
 refine j_nil (ej_then (hK2 _ _ _ (CJ.s [(0, _), (2, _)] ⟨rfl, rfl, trivial⟩ (cj_seqF fun K3 hK3 => cj_seqF fun K4 hK4 => cj_reg (jM rfl rfl (jN rfl rfl (j_val rfl (fun _ _ h => r_fl (q := 0) (ft := 115) runUnderlying121 rfl sizeOf115 rfl h) (j_valw rfl (fun a w ha hH hf => r_load isAgg115 rfl (hc0 w (hf) 0 _ rfl) ha) (j_val rfl (fun _ _ h => r_len runUnderlying115 rfl h) (jM rfl rfl (j_nil (ej_then (hK4 _ _ _ ?_)))))))))))))
 refine CJ.s [(0, _), (2, _), (40, _), (41, _), (42, _)] ⟨rfl, rfl, rfl, rfl, rfl, trivial⟩ (cj_block ?_)
 -- LOOP 0 live [0, 2, 40, 41, 42]
 intro v1 hH1' hf1'
 have hz0 : T0[0]? = some eB := by
  rcases ht0 with rfl | rfl
  ·simp at hm0
  ·rfl
 have hmbF : w.heap.size ≤ b34 := hH1'.freshX (i := 0) rfl rfl rfl
 have hP0 : PS B w b34 x g 0 0 0 0 0 T0 v1 := PS.init hG hf1' ⟨⟨es0, ck0, hH1'.obj (i := 0) rfl rfl, hM0⟩, hs0⟩ hz0
 clear hH1'
 generalize b34 = mb at *
 refine c_loop (σ := Nat × List ByteArray) (fun s => [(0, ptr g.pb), (2, .map (some mb)), (40, .slice p1 x.types.length c1), (41, .int .i64 (x.types.length : Nat)), (42, .int .i64 (s.1 : Nat))])
  (fun s w' => s.1 ≤ x.types.length ∧ PS B w mb x g s.1 0 0 0 0 s.2 w') (fun s => x.types.length - s.1) (0, T0) ⟨rfl, rfl, rfl, rfl, rfl, trivial⟩ ⟨Nat.zero_le _, hP0⟩ ?_
 rintro ⟨k1, T1⟩ u1 ⟨hk1, hP1⟩ KL hKL
 have hk1 : k1 ≤ x.types.length := hk1
 have hP1 : PS B w mb x g k1 0 0 0 0 T1 u1 := hP1
 have hc0 := mc (f := ⟨u1, 0, []⟩) (fr_row hP1.fr rfl _ _ hpb) rfl
 refine C.begin ⟨u1, 0, []⟩ [] ok_refl .nil ?_
 refine CJ.s [(0, ptr g.pb), (2, .map (some mb)), (40, .slice p1 x.types.length c1), (41, .int .i64 (x.types.length : Nat)), (42, .int .i64 (k1 : Nat))] ⟨rfl, rfl, rfl, rfl, rfl, trivial⟩ (cj_seqF fun K5 hK5 => cj_reg (j_val rfl (fun _ _ h => r_lss rfl rfl h) (j_nil (ej_then (hK5 _ _ _ (CJ.s [(0, _), (2, _), (40, _), (41, _), (42, _), (43, _)] ⟨rfl, rfl, rfl, rfl, rfl, rfl, trivial⟩ (cj_seqF fun K6 hK6 => ?_)))))))
 refine cj_dec rfl (fun h43 => ?_) (fun h43 => ?_)
 ·have hk' : k1 < x.types.length := by omega
  obtain ⟨bq, rfl, hsq⟩ := hx1 (by omega)
  have hkb : k1 < g.types.length := by rw [hG.types.1]; exact hk'
  have hbe : g.types[k1]? = some g.types[k1] := List.getElem?_eq_getElem hkb
  have hxe : x.types[k1]? = some x.types[k1] := List.getElem?_eq_getElem hk'
  have hxm : x.types[k1] ∈ x.types := List.getElem_mem hk'
  have hst : Blk u1 g.types[k1] tVT _ := (hP1.pt _ _ _ hbe hxe).2 (Nat.le_refl _)
  have hpe : g.per ≠ g.types[k1] := fun e => (List.nodup_cons.1 hG.ntypes).1 (e ▸ List.getElem_mem hkb)
  obtain ⟨es, ck, hmap, hM⟩ := hP1.tab.ex
  have hcell := osCellW (k := k1) (v := ptr g.types[k1]) (W1 := [tVT, 1000000]) hP1.fr rfl rfl hsq (by simp [hkb])
  refine CJ.turn (W := [tVT, 1000000]) (Hp.rowMap hst hmap rfl rfl) ?_
  refine cj_skip (ej_then (hK6 _ _ _ (CJ.s [(0, _), (2, _), (40, _), (41, _), (42, _)] ⟨rfl, rfl, rfl, rfl, rfl, trivial⟩ (cj_seqF fun K7 hK7 => cj_block (cj_seqF fun K8 hK8 => cj_reg (j_val rfl (fun _ _ h => r_idx runUnderlying115 sizeOf113 rfl rfl (by omega) h) (j_valw rfl (fun a w ha hH hf => r_load isAgg113 rfl (hcell w (hf) 0 _ rfl) ha) (jA rfl rfl (j_nil (ej_then (hK8 _ _ _ (CJ.s [(0, _), (2, _), (4, _), (40, _), (41, _), (42, _)] ⟨rfl, rfl, rfl, rfl, rfl, rfl, trivial⟩ (cj_seqF fun K9 hK9 => cj_reg ?_)))))))))))))
  refine jM rfl rfl (jM rfl rfl (jM rfl rfl (jN rfl rfl (j_val rfl (fun _ _ h => r_fl (q := 0) (ft := 9) runUnderlying159 rfl sizeOf9 rfl h) (j_valw rfl (fun a w ha hH hf => r_ldH 0 rfl rfl isAgg9 rfl rfl ha hH) ?_)))))
  refine j_callA 1 rfl hM hP1.tab.sub (allS_t hxm (by simp)) hS2 rfl rfl fun T1a m1a esa cka hma hpa hsa hMa => ?_
  refine jN rfl rfl (j_val rfl (fun _ _ h => r_fl (q := 2) (ft := 2) runUnderlying159 rfl sizeOf2 rfl h) ?_)
  refine j_storeN (cs' := [_, _, _, _]) (H' := (_ :: _ :: _)) 0 rfl rfl rfl rfl sizeOf2 rfl rfl rfl rfl rfl rfl rfl ?_
  refine j_nil (ej_then (hK9 _ _ _ (CJ.s [(0, _), (2, _), (4, _), (40, _), (41, _), (42, _)] ⟨rfl, rfl, rfl, rfl, rfl, rfl, trivial⟩ (cj_reg (jM rfl rfl (jM rfl rfl (jM rfl rfl (jN rfl rfl (j_val rfl (fun _ _ h => r_fl (q := 1) (ft := 9) runUnderlying159 rfl sizeOf9 rfl h) (j_valw rfl (fun a w ha hH hf => r_ldH 0 rfl rfl isAgg9 rfl rfl ha hH) ?_))))))))))
  refine j_callA 1 rfl hMa hsa (allS_t hxm (by simp)) hS2 rfl rfl fun T1b m1b esb ckb hmb hpb hsb hMb => ?_
  refine jN rfl rfl (j_val rfl (fun _ _ h => r_fl (q := 3) (ft := 2) runUnderlying159 rfl sizeOf2 rfl h) ?_)
  refine j_storeN (cs' := [_, _, _, _]) (H' := (_ :: _ :: _)) 0 rfl rfl rfl rfl sizeOf2 rfl rfl rfl rfl rfl rfl rfl ?_
  refine j_nil (ej_blk (ej_then (hK7 _ _ _ (CJ.s [(0, _), (2, _), (40, _), (41, _), (42, _)] ⟨rfl, rfl, rfl, rfl, rfl, trivial⟩ (cj_reg (j_val rfl (fun _ _ h => r_inc (by omega) rfl rfl h) (jM rfl rfl (j_nil (ej_then ?_)))))))))
  exact fun w' hH hf => hKL (k1 + 1, T1b) _ w' ⟨hk', hP1.s1 hmbF (hG.fresh.2.2.1 _ (List.getElem_mem hkb)) (List.nodup_cons.1 hG.ntypes).2 hbe hxe hpe hst (Hp.keepX (l := [g.types[k1], mb]) hH.2.2.2.2.2.2 hf) (hpa.trans hpb) ⟨⟨_, _, hH.obj (i := 1) rfl rfl, hMb⟩, hsb⟩ ⟨_, _, hH.get (i := 0) rfl rfl, At.mk hma hpb, At.mk hmb (List.prefix_refl _)⟩⟩ (by simp only; omega) ⟨rfl, rfl, rfl, rfl, rfl, trivial⟩
 ·have hke1 : k1 = x.types.length := by omega
  subst hke1
  clear hKL hk1 h43
  refine cj_exit (ej_then_exit (ej_then_exit (ej_blk_hit (ej_then (hK3 _ _ _ (CJ.s [(0, _), (2, _)] ⟨rfl, rfl, trivial⟩ (cj_seqF fun K10 hK10 => cj_seqF fun K11 hK11 => cj_reg (jM rfl rfl (jN rfl rfl (j_val rfl (fun _ _ h => r_fl (q := 2) (ft := 116) runUnderlying121 rfl sizeOf116 rfl h) (j_valw rfl (fun a w ha hH hf => r_load isAgg116 rfl (hc0 w (hf) 2 _ rfl) ha) (j_val rfl (fun _ _ h => r_len runUnderlying116 rfl h) (jM rfl rfl (j_nil (ej_then (hK11 _ _ _ (CJ.s [(0, _), (2, _), (68, _), (69, _), (70, _)] ⟨rfl, rfl, rfl, rfl, rfl, trivial⟩ ?_)))))))))))))))))
  refine cj_block ?_
  -- LOOP 1 live [0, 2, 68, 69, 70]
  intro v2 hH2' hf2'
  refine c_loop (σ := Nat × List ByteArray) (fun s => [(0, ptr g.pb), (2, .map (some mb)), (68, .slice p2 x.samples.length c2), (69, .int .i64 (x.samples.length : Nat)), (70, .int .i64 (s.1 : Nat))])
   (fun s w' => s.1 ≤ x.samples.length ∧ PS B w mb x g x.types.length s.1 0 0 0 s.2 w') (fun s => x.samples.length - s.1) (0, T1) ⟨rfl, rfl, rfl, rfl, rfl, trivial⟩ ⟨Nat.zero_le _, hP1.keep hf2'⟩ ?_
  rintro ⟨k2, T2⟩ u2 ⟨hk2, hP2⟩ KL hKL
  have hk2 : k2 ≤ x.samples.length := hk2
  have hP2 : PS B w mb x g x.types.length k2 0 0 0 T2 u2 := hP2
  have hc0 := mc (f := ⟨u2, 0, []⟩) (fr_row hP2.fr rfl _ _ hpb) rfl
  refine C.begin ⟨u2, 0, []⟩ [] ok_refl .nil ?_
  refine CJ.s [(0, ptr g.pb), (2, .map (some mb)), (68, .slice p2 x.samples.length c2), (69, .int .i64 (x.samples.length : Nat)), (70, .int .i64 (k2 : Nat))] ⟨rfl, rfl, rfl, rfl, rfl, trivial⟩ (cj_seqF fun K12 hK12 => cj_reg (j_val rfl (fun _ _ h => r_lss rfl rfl h) (j_nil (ej_then (hK12 _ _ _ (CJ.s [(0, _), (2, _), (68, _), (69, _), (70, _), (71, _)] ⟨rfl, rfl, rfl, rfl, rfl, rfl, trivial⟩ (cj_seqF fun K13 hK13 => ?_)))))))
  refine cj_dec rfl (fun h71 => ?_) (fun h71 => ?_)
  ·have hk' : k2 < x.samples.length := by omega
   obtain ⟨bq, rfl, hsq⟩ := hx2 (by omega)
   have hkb : k2 < g.sams.length := by rw [hG.sams.1]; exact hk'
   have hbe : g.sams[k2]? = some g.sams[k2] := List.getElem?_eq_getElem hkb
   have hxe : x.samples[k2]? = some x.samples[k2] := List.getElem?_eq_getElem hk'
   have hxm : x.samples[k2] ∈ x.samples := List.getElem_mem hk'
   obtain ⟨lsv, vs, lmv, nmv, hst, hls, hvs, hlm, hln⟩ := (hP2.ps _ _ _ hbe hxe).2 (Nat.le_refl _)
   obtain ⟨mo, esT, ckT, msT, rfl, hLT⟩ := hlm.x
   obtain ⟨mo2, esN, ckN, msN, rfl, hLN⟩ := hln.x
   obtain ⟨pL, lL, cL, rfl, hLl, -, hLx⟩ := hls.openF
   obtain rfl : lL = x.samples[k2].stack.length := by simpa using hLl.symm
   obtain ⟨-, -, hst60, hLab, hsk⟩ := hx.samples _ hxm
   have hlt60 := hLab.tlen
   have hln60 := hLab.nlen
   obtain ⟨es, ck, hmap, hM⟩ := hP2.tab.ex
   have hT0 := hP2.tab.sub
   have hAT : MapAt u2 mo esT ckT := hLT.at_.keep fun c es ck h => hP2.fr.keep _ _ h (.inr (show 1000000 ∉ wP by decide))
   have hAN : MapAt u2 mo2 esN ckN := hLN.at_.keep fun c es ck h => hP2.fr.keep _ _ h (.inr (show 1000000 ∉ wP by decide))
   have hmoT := mo_ne hLT.at_ hAT hst hmbF
   have hmoN := mo_ne hLN.at_ hAN hst hmbF
   have hcell := osCellW (k := k2) (v := ptr g.sams[k2]) (W1 := [tSam, 1000000]) hP2.fr rfl rfl hsq (by simp [hkb])
   have hetl : esT.length = x.samples[k2].texts.length := by have h1 := hLT.enc.length; have h2 := congrArg List.length hLT.keys; simp [labT] at h2; omega
   have henl : esN.length = x.samples[k2].nums.length := by have h1 := hLN.enc.length; have h2 := congrArg List.length hLN.keys; simp [labN] at h2; omega
   refine CJ.turn (W := [tSam, 1000000]) (Hp.rowMap hst hmap rfl rfl) ?_
   refine cj_skip (ej_then (hK13 _ _ _ (CJ.s [(0, _), (2, _), (68, _), (69, _), (70, _)] ⟨rfl, rfl, rfl, rfl, rfl, trivial⟩ (cj_seqF fun K14 hK14 => cj_block (cj_seqF fun K15 hK15 => cj_reg (j_val rfl (fun _ _ h => r_idx runUnderlying116 sizeOf134 rfl rfl (by omega) h) (j_valw rfl (fun a w ha hH hf => r_load isAgg134 rfl (hcell w (hf) 0 _ rfl) ha) (jA rfl rfl (j_nil (ej_then (hK15 _ _ _ (CJ.s [(0, _), (2, _), (6, _), (68, _), (69, _), (70, _)] ⟨rfl, rfl, rfl, rfl, rfl, rfl, trivial⟩ (cj_seqF fun K16 hK16 => cj_reg ?_)))))))))))))
   refine jM rfl rfl (jN rfl rfl (j_val rfl (fun _ _ h => r_fl (q := 6) (ft := 137) runUnderlying139 rfl sizeOf137 rfl h) ?_))
   refine j_storeN (cs' := [_, _, _, _, _, _, _]) (H' := (_ :: _ :: _)) 0 rfl rfl rfl rfl sizeOf137 rfl rfl rfl rfl rfl rfl rfl ?_
   refine j_nil (ej_then (hK16 _ _ _ (CJ.s [(0, _), (2, _), (6, _), (68, _), (69, _), (70, _)] ⟨rfl, rfl, rfl, rfl, rfl, rfl, trivial⟩ (cj_seqF fun K17 hK17 => cj_reg (jA rfl rfl (j_nil (ej_then (hK17 _ _ _ (CJ.s [(0, _), (2, _), (6, _), (7, _), (68, _), (69, _), (70, _)] ⟨rfl, rfl, rfl, rfl, rfl, rfl, rfl, trivial⟩ (cj_seqF fun K18 hK18 => cj_seqF fun K19 hK19 => cj_reg (jM rfl rfl (jN rfl rfl ?_))))))))))))
   refine j_val rfl (fun _ _ h => r_fl (q := 2) (ft := 135) runUnderlying139 rfl sizeOf135 rfl h) (j_valw rfl (fun a w ha hH hf => r_ldH 0 rfl rfl isAgg135 rfl rfl ha hH) ?_)
   refine j_rangeM runUnderlying135 (fun w' hH hf => mapAt_rest hAT hmoT hH (by intro x hx; repeat (first | exact hx | apply List.mem_cons_of_mem))) rfl rfl fun it1 => ?_
   refine j_nil (ej_then (hK19 _ _ _ (CJ.s [(0, _), (2, _), (6, _), (7, _), (68, _), (69, _), (70, _), (81, _)] ⟨rfl, rfl, rfl, rfl, rfl, rfl, rfl, rfl, trivial⟩ (cj_block ?_))))
   -- LOOP 2 live [0, 2, 6, 7, 68, 69, 70, 81]
   refine cj_loop (σ := List Nat × List MapEntry × Ent × Option Addr × Nat) (fun s => [(0, ptr g.pb), (2, .map (some mb)), (6, ptr g.sams[k2]), (7, .slice s.2.2.2.1 s.2.1.length s.2.2.2.2), (68, .slice (some ⟨bq, 0, none⟩) x.samples.length c2), (69, .int .i64 (x.samples.length : Nat)), (70, .int .i64 (k2 : Nat)), (81, ptr it1)])
    (fun s => s.2.2.1 :: itM it1 mo ckT s.1 ckT :: ⟨g.sams[k2], tSam, [.slice pL x.samples[k2].stack.length cL, vs, .map mo, .map mo2, .map none, .slice none 0 0, .slice none 0 0], true, true, none⟩ :: mpE mb es ck :: restH u2 [g.sams[k2], mb]) (fun s _ => Vis esT s.2.1 s.1 ∧ Own tStr 1 s.2.2.1 s.2.2.2.1 s.2.1.length s.2.2.2.2 (s.2.1.map (·.key))) (fun s => esT.length - s.1.length)
    ([], [], nilE tStr, none, 0) ⟨rfl, rfl, rfl, rfl, rfl, rfl, rfl, rfl, trivial⟩ (fun w' hH hf => ⟨hH.off, Vis.nil, Own.nil⟩) ?_
   rintro ⟨seen, xs, y, p, c⟩ wA ⟨hV, hO⟩ hfA hHA KLA hKLA
   have hV : Vis esT xs seen := hV
   have hO : Own tStr 1 y p xs.length c (xs.map (·.key)) := hO
   have hxl : xs.length = seen.length := by have := congrArg List.length hV.sn; simpa using this
   have hsl := hV.len hLT.enc.born
   refine C.begin _ (y :: itM it1 mo ckT seen ckT :: ⟨g.sams[k2], tSam, [.slice pL x.samples[k2].stack.length cL, vs, .map mo, .map mo2, .map none, .slice none 0 0, .slice none 0 0], true, true, none⟩ :: mpE mb es ck :: restH u2 [g.sams[k2], mb]) hfA hHA ?_
   refine CJ.s [(0, ptr g.pb), (2, .map (some mb)), (6, ptr g.sams[k2]), (7, .slice p xs.length c), (68, .slice (some ⟨bq, 0, none⟩) x.samples.length c2), (69, .int .i64 (x.samples.length : Nat)), (70, .int .i64 (k2 : Nat)), (81, ptr it1)] ⟨rfl, rfl, rfl, rfl, rfl, rfl, rfl, rfl, trivial⟩ (cj_seqF fun K20 hK20 => cj_reg ?_)
   refine j_nextM 1 rfl (fun w' hH hf => mapAt_rest hAT hmoT hH (by intro x hx; repeat (first | exact hx | apply List.mem_cons_of_mem))) hLT.enc.lt (Nat.le_refl _) rfl rfl (fun hall => ?_) (fun xe hxe hns => ?_)
   ·refine j_val rfl (fun _ _ h => r_extract rfl rfl h) (j_nil (ej_then (hK20 _ _ _ (CJ.s [(0, _), (2, _), (6, _), (7, _), (68, _), (69, _), (70, _), (81, _), (83, _)] ⟨rfl, rfl, rfl, rfl, rfl, rfl, rfl, rfl, rfl, trivial⟩ (cj_seqF fun K21 hK21 => ?_)))))
    refine cj_if_f rfl ?_
    refine cj_exit (ej_then_exit (ej_then_exit (ej_blk_hit (ej_then (hK18 _ _ _ (CJ.s [(0, _), (2, _), (6, _), (7, _), (68, _), (69, _), (70, _)] ⟨rfl, rfl, rfl, rfl, rfl, rfl, rfl, trivial⟩ (cj_seqF fun K22 hK22 => cj_reg ?_)))))))
    obtain ⟨ks, hks, hkn, hkm⟩ := hV.keys hLT.enc hall
    have hO' : Own tStr 1 y p xs.length c (ks.map .string) := hks ▸ hO
    have hkm' : ∀ k, k ∈ ks ↔ k ∈ x.samples[k2].texts.map (·.key) := fun k => by rw [hkm, hLT.keys]; simp [labT]
    refine jM rfl rfl ?_
    refine j_sort (rs := x.samples[k2].texts.map (·.key)) 0 rfl hO' hkn hkm' hLab.tpw (by omega) rfl rfl fun vS yS hOS => ?_
    refine j_nil (ej_then (hK22 _ _ _ (CJ.s [(0, _), (2, _), (6, _), (7, _), (68, _), (69, _), (70, _)] ⟨rfl, rfl, rfl, rfl, rfl, rfl, rfl, trivial⟩ (cj_seqF fun K23 hK23 => cj_seqF fun K24 hK24 => cj_reg ?_))))
    have hxl : xs.length = x.samples[k2].texts.length := by have := hOS.sl.1; simpa using this.symm
    refine jM rfl rfl (j_val rfl (fun _ _ h => r_len runUnderlying27 rfl h) (jM rfl rfl (j_nil (ej_then (hK24 _ _ _ (CJ.s [(0, _), (2, _), (6, _), (68, _), (69, _), (70, _), (92, _), (93, _), (94, _)] ⟨rfl, rfl, rfl, rfl, rfl, rfl, rfl, rfl, rfl, trivial⟩ (cj_block ?_)))))))
    -- LOOP 3 live [0, 2, 6, 68, 69, 70, 92, 93, 94]
    refine cj_loop (σ := Nat × List ByteArray × List MapEntry × Nat × List (Int × Int × Int) × Ent × Option Addr × Nat) (fun s => [(0, ptr g.pb), (2, .map (some mb)), (6, ptr g.sams[k2]), (68, .slice (some ⟨bq, 0, none⟩) x.samples.length c2), (69, .int .i64 (x.samples.length : Nat)), (70, .int .i64 (k2 : Nat)), (92, .slice p xs.length c), (93, .int .i64 (xs.length : Nat)), (94, .int .i64 (s.1 : Nat))])
     (fun s => s.2.2.2.2.2.1 :: yS :: ⟨g.sams[k2], tSam, [.slice pL x.samples[k2].stack.length cL, vs, .map mo, .map mo2, .map none, .slice none 0 0, .slice s.2.2.2.2.2.2.1 s.2.2.2.2.1.length s.2.2.2.2.2.2.2], true, true, none⟩ :: mpE mb s.2.2.1 s.2.2.2.1 :: restH u2 [g.sams[k2], mb])
     (fun s _ => s.1 ≤ xs.length ∧ MEnc Value.string (tabM s.2.1) s.2.2.1 s.2.2.2.1 ∧ (∀ t ∈ s.2.1, t ∈ allS x) ∧ T2 <+: s.2.1 ∧ Own tLabel 3 s.2.2.2.2.2.1 s.2.2.2.2.2.2.1 s.2.2.2.2.1.length s.2.2.2.2.2.2.2 (s.2.2.2.2.1.flatMap cLb) ∧ LbR s.2.1 s.2.2.2.2.1 ((x.samples[k2].texts.take s.1).flatMap labE1)) (fun s => xs.length - s.1)
     (0, T2, es, ck, [], nilE tLabel, none, 0) ⟨rfl, rfl, rfl, rfl, rfl, rfl, rfl, rfl, rfl, trivial⟩ (fun w' hH hf => ⟨(hH.drop 1).off, Nat.zero_le _, hM, hT0, List.prefix_refl _, Own.nil, LbR.nil⟩) ?_
    rintro ⟨m, TB, esB, ckB, lbB, yB, qB, dB⟩ wB ⟨hm, hMB, hSB, hpB, hOB, hRB⟩ hfB hHB KLB hKLB
    have hm : m ≤ xs.length := hm
    have hMB : MEnc Value.string (tabM TB) esB ckB := hMB
    have hSB : ∀ t ∈ TB, t ∈ allS x := hSB
    have hpB : T2 <+: TB := hpB
    have hOB : Own tLabel 3 yB qB lbB.length dB (lbB.flatMap cLb) := hOB
    have hRB : LbR TB lbB ((x.samples[k2].texts.take m).flatMap labE1) := hRB
    refine C.begin _ (yB :: yS :: ⟨g.sams[k2], tSam, [.slice pL x.samples[k2].stack.length cL, vs, .map mo, .map mo2, .map none, .slice none 0 0, .slice qB lbB.length dB], true, true, none⟩ :: mpE mb esB ckB :: restH u2 [g.sams[k2], mb]) hfB hHB ?_
    refine CJ.s [(0, ptr g.pb), (2, .map (some mb)), (6, ptr g.sams[k2]), (68, .slice (some ⟨bq, 0, none⟩) x.samples.length c2), (69, .int .i64 (x.samples.length : Nat)), (70, .int .i64 (k2 : Nat)), (92, .slice p xs.length c), (93, .int .i64 (xs.length : Nat)), (94, .int .i64 (m : Nat))] ⟨rfl, rfl, rfl, rfl, rfl, rfl, rfl, rfl, rfl, trivial⟩ (cj_seqF fun K25 hK25 => cj_reg (j_val rfl (fun _ _ h => r_lss rfl rfl h) (j_nil (ej_then (hK25 _ _ _ (CJ.s [(0, _), (2, _), (6, _), (68, _), (69, _), (70, _), (92, _), (93, _), (94, _), (95, _)] ⟨rfl, rfl, rfl, rfl, rfl, rfl, rfl, rfl, rfl, rfl, trivial⟩ (cj_seqF fun K26 hK26 => ?_)))))))
    refine cj_dec rfl (fun h95 => ?_) (fun h95 => ?_)
    ·have hm' : m < x.samples[k2].texts.length := by omega
     obtain ⟨honS, hpS⟩ := hOS.pos (by omega)
     subst hpS
     have hkv : ((x.samples[k2].texts.map (·.key)).map Value.string)[m]? = some (.string x.samples[k2].texts[m].key) := by simp [hm']
     obtain ⟨vv, hvv, hov⟩ := hLT.get (i := m) (k := (x.samples[k2].texts[m].key, x.samples[k2].texts[m].list.map (.string))) (by simp [labT, hm']) (.slice none 0 0)
     obtain ⟨pv, lv, cv, rfl, hvl, -, hvx⟩ := hov.openF
     obtain rfl : lv = x.samples[k2].texts[m].list.length := by simpa using hvl.symm
     have hmem := List.getElem_mem hm'
     have hl60 : x.samples[k2].texts[m].list.length ≤ 60 := (hLab.tl _ hmem).2.1
     refine cj_skip (ej_then (hK26 _ _ _ (CJ.s [(0, _), (2, _), (6, _), (68, _), (69, _), (70, _), (92, _), (93, _), (94, _)] ⟨rfl, rfl, rfl, rfl, rfl, rfl, rfl, rfl, rfl, trivial⟩ (cj_seqF fun K27 hK27 => cj_block (cj_seqF fun K28 hK28 => cj_reg (j_val rfl (fun _ _ h => r_idx runUnderlying27 sizeOf9 rfl rfl (by omega) h) (j_valw rfl (fun a w ha hH hf => r_load isAgg9 rfl (hOS.cell (hH.get (i := 1) rfl honS) hkv) ha) (jA rfl rfl (j_nil (ej_then (hK28 _ _ _ (CJ.s [(0, _), (2, _), (6, _), (10, _), (68, _), (69, _), (70, _), (92, _), (93, _), (94, _)] ⟨rfl, rfl, rfl, rfl, rfl, rfl, rfl, rfl, rfl, rfl, trivial⟩ (cj_seqF fun K29 hK29 => cj_reg ?_)))))))))))))
     refine jM rfl rfl (jN rfl rfl (j_val rfl (fun _ _ h => r_fl (q := 2) (ft := 135) runUnderlying139 rfl sizeOf135 rfl h) (j_valw rfl (fun a w ha hH hf => r_ldH 2 rfl rfl isAgg135 rfl rfl ha hH) (jM rfl rfl ?_))))
     refine j_valw rfl (fun a w ha hH hf => r_mlookM runUnderlying135 (keyT_string runUnderlying9) hLT.enc zeroValue27 rfl rfl ha (mapAt_rest hAT hmoT hH (by intro x hx; repeat (first | exact hx | apply List.mem_cons_of_mem)))) ?_
     refine j_eqv hvv ?_
     refine jA rfl rfl (j_nil (ej_then (hK29 _ _ _ (CJ.s [(0, _), (2, _), (6, _), (10, _), (11, _), (68, _), (69, _), (70, _), (92, _), (93, _), (94, _)] ⟨rfl, rfl, rfl, rfl, rfl, rfl, rfl, rfl, rfl, rfl, rfl, trivial⟩ (cj_seqF fun K30 hK30 => cj_reg (jM rfl rfl (j_val rfl (fun _ _ h => r_len runUnderlying27 rfl h) (jM rfl rfl (j_nil (ej_then (hK30 _ _ _ (CJ.s [(0, _), (2, _), (6, _), (10, _), (68, _), (69, _), (70, _), (92, _), (93, _), (94, _), (104, _), (105, _), (106, _)] ⟨rfl, rfl, rfl, rfl, rfl, rfl, rfl, rfl, rfl, rfl, rfl, rfl, rfl, trivial⟩ (cj_block ?_)))))))))))))
     -- LOOP 4 live [0, 2, 6, 10, 68, 69, 70, 92, 93, 94, 104, 105, 106]
     refine cj_loop (σ := Nat × List ByteArray × List MapEntry × Nat × List (Int × Int × Int) × Ent × Option Addr × Nat) (fun s => [(0, ptr g.pb), (2, .map (some mb)), (6, ptr g.sams[k2]), (10, .string x.samples[k2].texts[m].key), (68, .slice (some ⟨bq, 0, none⟩) x.samples.length c2), (69, .int .i64 (x.samples.length : Nat)), (70, .int .i64 (k2 : Nat)), (92, .slice (some ⟨yS.b, 0, none⟩) xs.length c), (93, .int .i64 (xs.length : Nat)), (94, .int .i64 (m : Nat)), (104, .slice pv x.samples[k2].texts[m].list.length cv), (105, .int .i64 (x.samples[k2].texts[m].list.length : Nat)), (106, .int .i64 (s.1 : Nat))])
      (fun s => s.2.2.2.2.2.1 :: yS :: ⟨g.sams[k2], tSam, [.slice pL x.samples[k2].stack.length cL, vs, .map mo, .map mo2, .map none, .slice none 0 0, .slice s.2.2.2.2.2.2.1 s.2.2.2.2.1.length s.2.2.2.2.2.2.2], true, true, none⟩ :: mpE mb s.2.2.1 s.2.2.2.1 :: restH u2 [g.sams[k2], mb])
      (fun s _ => s.1 ≤ x.samples[k2].texts[m].list.length ∧ MEnc Value.string (tabM s.2.1) s.2.2.1 s.2.2.2.1 ∧ (∀ t ∈ s.2.1, t ∈ allS x) ∧ T2 <+: s.2.1 ∧ Own tLabel 3 s.2.2.2.2.2.1 s.2.2.2.2.2.2.1 s.2.2.2.2.1.length s.2.2.2.2.2.2.2 (s.2.2.2.2.1.flatMap cLb) ∧ LbR s.2.1 s.2.2.2.2.1 ((x.samples[k2].texts.take m).flatMap labE1 ++ (labE1 x.samples[k2].texts[m]).take s.1)) (fun s => x.samples[k2].texts[m].list.length - s.1)
      (0, TB, esB, ckB, lbB, yB, qB, dB) ⟨rfl, rfl, rfl, rfl, rfl, rfl, rfl, rfl, rfl, rfl, rfl, rfl, rfl, trivial⟩ (fun w' hH hf => ⟨hH, Nat.zero_le _, hMB, hSB, hpB, hOB, by simpa using hRB⟩) ?_
     rintro ⟨j, TC, esC, ckC, lbC, yC, qC, dC⟩ wC ⟨hj, hMC, hSC, hpC, hOC, hRC⟩ hfC hHC KLC hKLC
     have hj : j ≤ x.samples[k2].texts[m].list.length := hj
     have hMC : MEnc Value.string (tabM TC) esC ckC := hMC
     have hSC : ∀ t ∈ TC, t ∈ allS x := hSC
     have hpC : T2 <+: TC := hpC
     have hOC : Own tLabel 3 yC qC lbC.length dC (lbC.flatMap cLb) := hOC
     have hRC : LbR TC lbC ((x.samples[k2].texts.take m).flatMap labE1 ++ (labE1 x.samples[k2].texts[m]).take j) := hRC
     refine C.begin _ (yC :: yS :: ⟨g.sams[k2], tSam, [.slice pL x.samples[k2].stack.length cL, vs, .map mo, .map mo2, .map none, .slice none 0 0, .slice qC lbC.length dC], true, true, none⟩ :: mpE mb esC ckC :: restH u2 [g.sams[k2], mb]) hfC hHC ?_
     refine CJ.s [(0, ptr g.pb), (2, .map (some mb)), (6, ptr g.sams[k2]), (10, .string x.samples[k2].texts[m].key), (68, .slice (some ⟨bq, 0, none⟩) x.samples.length c2), (69, .int .i64 (x.samples.length : Nat)), (70, .int .i64 (k2 : Nat)), (92, .slice (some ⟨yS.b, 0, none⟩) xs.length c), (93, .int .i64 (xs.length : Nat)), (94, .int .i64 (m : Nat)), (104, .slice pv x.samples[k2].texts[m].list.length cv), (105, .int .i64 (x.samples[k2].texts[m].list.length : Nat)), (106, .int .i64 (j : Nat))] ⟨rfl, rfl, rfl, rfl, rfl, rfl, rfl, rfl, rfl, rfl, rfl, rfl, rfl, trivial⟩ (cj_seqF fun K31 hK31 => cj_reg (j_val rfl (fun _ _ h => r_lss rfl rfl h) (j_nil (ej_then (hK31 _ _ _ (CJ.s [(0, _), (2, _), (6, _), (10, _), (68, _), (69, _), (70, _), (92, _), (93, _), (94, _), (104, _), (105, _), (106, _), (107, _)] ⟨rfl, rfl, rfl, rfl, rfl, rfl, rfl, rfl, rfl, rfl, rfl, rfl, rfl, rfl, trivial⟩ (cj_seqF fun K32 hK32 => ?_)))))))
     refine cj_dec rfl (fun h107 => ?_) (fun h107 => ?_)
     ·have hj' : j < x.samples[k2].texts[m].list.length := by omega
      obtain ⟨bv, rfl, hvs4⟩ := hvx (by omega)
      have hcellv := osCellW (k := j) (v := .string x.samples[k2].texts[m].list[j]) (W1 := [tSam, 1000000]) hP2.fr rfl rfl hvs4 (by simp [hj'])
      have hlb := labs_len1 hLab m j hm'
      rw [← hRC.1] at hlb
      refine cj_skip (ej_then (hK32 _ _ _ (CJ.s [(0, _), (2, _), (6, _), (10, _), (68, _), (69, _), (70, _), (92, _), (93, _), (94, _), (104, _), (105, _), (106, _)] ⟨rfl, rfl, rfl, rfl, rfl, rfl, rfl, rfl, rfl, rfl, rfl, rfl, rfl, trivial⟩ (cj_seqF fun K33 hK33 => cj_block (cj_seqF fun K34 hK34 => cj_reg (j_val rfl (fun _ _ h => r_idx runUnderlying27 sizeOf9 rfl rfl (by omega) h) (j_valw rfl (fun a w ha hH hf => r_load isAgg9 rfl (hcellv w (hf) 0 _ rfl) ha) (jA rfl rfl (j_nil (ej_then (hK34 _ _ _ (CJ.s [(0, _), (2, _), (6, _), (10, _), (13, _), (68, _), (69, _), (70, _), (92, _), (93, _), (94, _), (104, _), (105, _), (106, _)] ⟨rfl, rfl, rfl, rfl, rfl, rfl, rfl, rfl, rfl, rfl, rfl, rfl, rfl, rfl, trivial⟩ ?_))))))))))))
      refine cj_drawI 14 [(0, true), (1, true), (2, true), (3, true), (4, true), (5, true), (6, true), (8, true), (9, true), (7, false), (10, false), (11, true), (12, false), (13, false), (14, false), (15, false), (16, false)] [2] rfl (by kernel_rfl) (by kernel_rfl) ?_
      refine dj_val rfl rfl (sub_of [2] rfl) (fun _ _ h => r_move rfl h) (dj_val rfl rfl (sub_of [2] rfl) (fun _ _ h => r_move rfl h) (dj_val rfl rfl (sub_of [2] rfl) (fun _ _ h => r_nil rfl h) (dj_val rfl rfl (sub_of [2] rfl) (fun _ _ h => r_fl (q := 6) (ft := 137) runUnderlying139 rfl sizeOf137 rfl h) (dj_ld rfl rfl (sub_of [2] rfl) (fun a w ha hS => r_ldS 0 rfl rfl isAgg137 rfl rfl ha hS) (dj_val rfl rfl (sub_of [2] rfl) (fun _ _ h => r_move rfl h) (dj_val rfl rfl (sub_of [2] rfl) (fun _ _ h => r_move rfl h) (dj_val rfl rfl (sub_of [2] rfl) (fun _ _ h => r_move rfl h) (dj_val rfl rfl (sub_of [2] rfl) (fun _ _ h => r_move rfl h) (dj_eff rfl fun K2 hK2 => ?_)))))))))
      refine j_callA 3 rfl hMC hSC (allS_s hxm (samS_key hmem)) hS2 rfl rfl fun Ta na esa cka qma hpa hsa hMa => ?_
      refine j_nil (ej_then (hK2 _ _ (.inr (sub_of [2] rfl)) ?_)); clear hK2 K2
      refine dj_eff rfl fun K2 hK2 => ?_
      refine j_callA 3 rfl hMa hsa (allS_s hxm (samS_txt hmem (List.getElem_mem hj'))) hS2 rfl rfl fun Tb nb esb ckb qmb hpb' hsb hMb => ?_
      refine j_nil (ej_then (hK2 _ _ (.inr (sub_of [2] rfl)) ?_)); clear hK2 K2
      refine dj_val rfl rfl (sub_of [2] rfl) (fun _ _ h => r_build (cs := [_, _, (.int .i64 0)]) bt164 rfl rfl h) (dj_eff rfl fun K2 hK2 => ?_)
      refine j_bslice1 runUnderlying137 sizeOf164 zeroValue164 rfl rfl rfl rfl rfl fun b122 => ?_
      refine j_nil (ej_then (hK2 _ _ (.inr (sub_of [3] rfl)) ?_)); clear hK2 K2
      refine dj_eff rfl fun K2 hK2 => ?_
      refine j_appO 0 rfl hOC runUnderlying137 el164 rfl rfl rfl rfl rfl (by omega) rfl fun y123 p123 c123 hO123 => ?_
      refine j_nil (ej_then (hK2 _ _ (.inr (sub_of [2] rfl)) ?_)); clear hK2 K2
      refine dj_eff rfl fun K2 hK2 => jN rfl rfl (j_nil (ej_then (hK2 _ _ (.inl rfl) ?_))); clear hK2 K2
      refine dj_eff rfl fun K2 hK2 => j_val rfl (fun _ _ h => r_fl (q := 6) (ft := 137) runUnderlying139 rfl sizeOf137 rfl h) (j_nil (ej_then (hK2 _ _ (.inl rfl) ?_))); clear hK2 K2
      refine dj_eff rfl fun K2 hK2 => ?_
      refine j_storeN (cs' := [_, _, _, _, _, _, _]) (H' := (_ :: _ :: _ :: _ :: _)) 2 rfl rfl rfl rfl sizeOf137 rfl rfl rfl rfl rfl rfl rfl ?_
      refine j_nil (ej_then (hK2 _ _ (.inl rfl) ?_)); clear hK2 K2
      refine dj_end (ej_blk (ej_then (hK33 _ _ _ (CJ.s [(0, _), (2, _), (6, _), (10, _), (68, _), (69, _), (70, _), (92, _), (93, _), (94, _), (104, _), (105, _), (106, _)] ⟨rfl, rfl, rfl, rfl, rfl, rfl, rfl, rfl, rfl, rfl, rfl, rfl, rfl, trivial⟩ (cj_reg (j_val rfl (fun _ _ h => r_inc (by omega) rfl rfl h) (jM rfl rfl (j_nil (ej_then ?_)))))))))
      have hpush := LbR.push (q := ((na : Int), (nb : Int), (0 : Int))) (e := (x.samples[k2].texts[m].key, some x.samples[k2].texts[m].list[j], (0 : Int))) hRC (hpa.trans hpb') ⟨At.mk qma hpb', At.mk qmb (List.prefix_refl _), rfl⟩
      have htk : (labE1 x.samples[k2].texts[m]).take (j + 1) = (labE1 x.samples[k2].texts[m]).take j ++ [(x.samples[k2].texts[m].key, some x.samples[k2].texts[m].list[j], (0 : Int))] := by
       rw [← List.take_append_getElem (by simpa [labE1] using hj')]; simp [labE1]
      rw [List.append_assoc, ← htk] at hpush
      exact fun w' hH hf => hKLC (j + 1, Tb, esb, ckb, lbC ++ [((na : Int), (nb : Int), (0 : Int))], y123, p123, c123) _ w' ⟨hj', hMb, hsb, hpC.trans (hpa.trans hpb'), by have h : Own tLabel 3 y123 p123 (lbC.length + 1) c123 (lbC.flatMap cLb ++ [.int .i64 (na : Int), .int .i64 (nb : Int), .int .i64 0]) := hO123; simpa [List.flatMap_append, cLb] using h, hpush⟩ hf (by simp only [List.length_append, List.length_singleton]; exact hH) (by simp only; omega) ⟨rfl, rfl, rfl, rfl, rfl, rfl, rfl, rfl, rfl, rfl, rfl, rfl, rfl, trivial⟩
     ·have hje : j = x.samples[k2].texts[m].list.length := by omega
      have hRD := hRC
      have etk : (labE1 x.samples[k2].texts[m]).take j = labE1 x.samples[k2].texts[m] := List.take_of_length_le (by simp [labE1, hje])
      rw [etk, ← flatMap_step' (g := labE1) hm'] at hRD
      refine cj_exit (ej_then_exit (ej_then_exit (ej_blk_hit (ej_blk (ej_then (hK27 _ _ _ (CJ.s [(0, _), (2, _), (6, _), (68, _), (69, _), (70, _), (92, _), (93, _), (94, _)] ⟨rfl, rfl, rfl, rfl, rfl, rfl, rfl, rfl, rfl, trivial⟩ (cj_reg (j_val rfl (fun _ _ h => r_inc (by omega) rfl rfl h) (jM rfl rfl (j_nil (ej_then ?_))))))))))))
      exact fun w' hH hf => hKLB (m + 1, TC, esC, ckC, lbC, yC, qC, dC) _ w' ⟨by simp only; omega, hMC, hSC, hpC, hOC, hRD⟩ hf hH (by simp only; omega) ⟨rfl, rfl, rfl, rfl, rfl, rfl, rfl, rfl, rfl, trivial⟩
    ·have hme : m = x.samples[k2].texts.length := by omega
     rw [hme, List.take_of_length_le (Nat.le_refl _)] at hRB
     refine cj_exit (ej_then_exit (ej_then_exit (ej_blk_hit (ej_then (hK23 _ _ _ (CJ.s [(0, _), (2, _), (6, _), (68, _), (69, _), (70, _)] ⟨rfl, rfl, rfl, rfl, rfl, rfl, trivial⟩ (cj_seqF fun K35 hK35 => cj_reg (jA rfl rfl (j_nil (ej_then (hK35 _ _ _ (CJ.s [(0, _), (2, _), (6, _), (14, _), (68, _), (69, _), (70, _)] ⟨rfl, rfl, rfl, rfl, rfl, rfl, rfl, trivial⟩ (cj_seqF fun K36 hK36 => cj_seqF fun K37 hK37 => cj_reg (jM rfl rfl (jN rfl rfl (j_val rfl (fun _ _ h => r_fl (q := 3) (ft := 136) runUnderlying139 rfl sizeOf136 rfl h) ?_))))))))))))))))
     refine j_valw rfl (fun a w ha hH hf => r_ldH 2 rfl rfl isAgg136 rfl rfl ha hH) ?_
     refine j_rangeM runUnderlying136 (fun w' hH hf => mapAt_rest hAN hmoN hH (by intro x hx; repeat (first | exact hx | apply List.mem_cons_of_mem))) rfl rfl fun it2 => ?_
     refine j_nil (ej_then (hK37 _ _ _ (CJ.s [(0, _), (2, _), (6, _), (14, _), (68, _), (69, _), (70, _), (132, _)] ⟨rfl, rfl, rfl, rfl, rfl, rfl, rfl, rfl, trivial⟩ (cj_block ?_))))
     -- LOOP 5 live [0, 2, 6, 14, 68, 69, 70, 132]
     refine cj_loop (σ := List Nat × List MapEntry × Ent × Option Addr × Nat) (fun s => [(0, ptr g.pb), (2, .map (some mb)), (6, ptr g.sams[k2]), (14, .slice s.2.2.2.1 s.2.1.length s.2.2.2.2), (68, .slice (some ⟨bq, 0, none⟩) x.samples.length c2), (69, .int .i64 (x.samples.length : Nat)), (70, .int .i64 (k2 : Nat)), (132, ptr it2)])
      (fun s => s.2.2.1 :: itM it2 mo2 ckN s.1 ckN :: yB :: ⟨g.sams[k2], tSam, [.slice pL x.samples[k2].stack.length cL, vs, .map mo, .map mo2, .map none, .slice none 0 0, .slice qB lbB.length dB], true, true, none⟩ :: mpE mb esB ckB :: restH u2 [g.sams[k2], mb]) (fun s _ => Vis esN s.2.1 s.1 ∧ Own tStr 1 s.2.2.1 s.2.2.2.1 s.2.1.length s.2.2.2.2 (s.2.1.map (·.key))) (fun s => esN.length - s.1.length)
      ([], [], nilE tStr, none, 0) ⟨rfl, rfl, rfl, rfl, rfl, rfl, rfl, rfl, trivial⟩ (fun w' hH hf => ⟨(hH.drop 2).off, Vis.nil, Own.nil⟩) ?_
     rintro ⟨seen2, xs2, y2, pz, cz⟩ wD ⟨hV, hO⟩ hfD hHD KLD hKLD
     have hV : Vis esN xs2 seen2 := hV
     have hO : Own tStr 1 y2 pz xs2.length cz (xs2.map (·.key)) := hO
     have hxl2 : xs2.length = seen2.length := by have := congrArg List.length hV.sn; simpa using this
     have hsl2 := hV.len hLN.enc.born
     refine C.begin _ (y2 :: itM it2 mo2 ckN seen2 ckN :: yB :: ⟨g.sams[k2], tSam, [.slice pL x.samples[k2].stack.length cL, vs, .map mo, .map mo2, .map none, .slice none 0 0, .slice qB lbB.length dB], true, true, none⟩ :: mpE mb esB ckB :: restH u2 [g.sams[k2], mb]) hfD hHD ?_
     refine CJ.s [(0, ptr g.pb), (2, .map (some mb)), (6, ptr g.sams[k2]), (14, .slice pz xs2.length cz), (68, .slice (some ⟨bq, 0, none⟩) x.samples.length c2), (69, .int .i64 (x.samples.length : Nat)), (70, .int .i64 (k2 : Nat)), (132, ptr it2)] ⟨rfl, rfl, rfl, rfl, rfl, rfl, rfl, rfl, trivial⟩ (cj_seqF fun K38 hK38 => cj_reg ?_)
     refine j_nextM 1 rfl (fun w' hH hf => mapAt_rest hAN hmoN hH (by intro x hx; repeat (first | exact hx | apply List.mem_cons_of_mem))) hLN.enc.lt (Nat.le_refl _) rfl rfl (fun hall2 => ?_) (fun xe hxe hns => ?_)
     ·refine j_val rfl (fun _ _ h => r_extract rfl rfl h) (j_nil (ej_then (hK38 _ _ _ (CJ.s [(0, _), (2, _), (6, _), (14, _), (68, _), (69, _), (70, _), (132, _), (134, _)] ⟨rfl, rfl, rfl, rfl, rfl, rfl, rfl, rfl, rfl, trivial⟩ (cj_seqF fun K39 hK39 => ?_)))))
      refine cj_if_f rfl ?_
      refine cj_exit (ej_then_exit (ej_then_exit (ej_blk_hit (ej_then (hK36 _ _ _ (CJ.s [(0, _), (2, _), (6, _), (14, _), (68, _), (69, _), (70, _)] ⟨rfl, rfl, rfl, rfl, rfl, rfl, rfl, trivial⟩ (cj_seqF fun K40 hK40 => cj_reg ?_)))))))
      obtain ⟨ks2, hks2, hkn2, hkm2⟩ := hV.keys hLN.enc hall2
      have hO' : Own tStr 1 y2 pz xs2.length cz (ks2.map .string) := hks2 ▸ hO
      have hkm2' : ∀ k, k ∈ ks2 ↔ k ∈ x.samples[k2].nums.map (·.key) := fun k => by rw [hkm2, hLN.keys]; simp [labN]
      refine jM rfl rfl ?_
      refine j_sort (rs := x.samples[k2].nums.map (·.key)) 0 rfl hO' hkn2 hkm2' hLab.npw (by omega) rfl rfl fun vS2 yS2 hOS2 => ?_
      refine j_nil (ej_then (hK40 _ _ _ (CJ.s [(0, _), (2, _), (6, _), (14, _), (68, _), (69, _), (70, _)] ⟨rfl, rfl, rfl, rfl, rfl, rfl, rfl, trivial⟩ (cj_seqF fun K41 hK41 => cj_seqF fun K42 hK42 => cj_reg ?_))))
      have hxl3 : xs2.length = x.samples[k2].nums.length := by have := hOS2.sl.1; simpa using this.symm
      refine jM rfl rfl (j_val rfl (fun _ _ h => r_len runUnderlying27 rfl h) (jM rfl rfl (j_nil (ej_then (hK42 _ _ _ (CJ.s [(0, _), (2, _), (6, _), (68, _), (69, _), (70, _), (143, _), (144, _), (145, _)] ⟨rfl, rfl, rfl, rfl, rfl, rfl, rfl, rfl, rfl, trivial⟩ (cj_block ?_)))))))
      -- LOOP 6 live [0, 2, 6, 68, 69, 70, 143, 144, 145]
      refine cj_loop (σ := Nat × List ByteArray × List MapEntry × Nat × List (Int × Int × Int) × Ent × Option Addr × Nat) (fun s => [(0, ptr g.pb), (2, .map (some mb)), (6, ptr g.sams[k2]), (68, .slice (some ⟨bq, 0, none⟩) x.samples.length c2), (69, .int .i64 (x.samples.length : Nat)), (70, .int .i64 (k2 : Nat)), (143, .slice pz xs2.length cz), (144, .int .i64 (xs2.length : Nat)), (145, .int .i64 (s.1 : Nat))])
       (fun s => yS2 :: s.2.2.2.2.2.1 :: ⟨g.sams[k2], tSam, [.slice pL x.samples[k2].stack.length cL, vs, .map mo, .map mo2, .map none, .slice none 0 0, .slice s.2.2.2.2.2.2.1 s.2.2.2.2.1.length s.2.2.2.2.2.2.2], true, true, none⟩ :: mpE mb s.2.2.1 s.2.2.2.1 :: restH u2 [g.sams[k2], mb])
       (fun s _ => s.1 ≤ xs2.length ∧ MEnc Value.string (tabM s.2.1) s.2.2.1 s.2.2.2.1 ∧ (∀ t ∈ s.2.1, t ∈ allS x) ∧ T2 <+: s.2.1 ∧ Own tLabel 3 s.2.2.2.2.2.1 s.2.2.2.2.2.2.1 s.2.2.2.2.1.length s.2.2.2.2.2.2.2 (s.2.2.2.2.1.flatMap cLb) ∧ LbR s.2.1 s.2.2.2.2.1 (x.samples[k2].texts.flatMap labE1 ++ (x.samples[k2].nums.take s.1).flatMap labE2)) (fun s => xs2.length - s.1)
       (0, TB, esB, ckB, lbB, yB, qB, dB) ⟨rfl, rfl, rfl, rfl, rfl, rfl, rfl, rfl, rfl, trivial⟩ (fun w' hH hf => ⟨hH.drop 1, Nat.zero_le _, hMB, hSB, hpB, hOB, by simpa using hRB⟩) ?_
      rintro ⟨m, TB2, esB2, ckB2, lbB2, yB2, qB2, dB2⟩ wB2 ⟨hm, hMB2, hSB2, hpB2, hOB2, hRB2⟩ hfB2 hHB2 KLB2 hKLB2
      have hm : m ≤ xs2.length := hm
      have hMB2 : MEnc Value.string (tabM TB2) esB2 ckB2 := hMB2
      have hSB2 : ∀ t ∈ TB2, t ∈ allS x := hSB2
      have hpB2 : T2 <+: TB2 := hpB2
      have hOB2 : Own tLabel 3 yB2 qB2 lbB2.length dB2 (lbB2.flatMap cLb) := hOB2
      have hRB2 : LbR TB2 lbB2 (x.samples[k2].texts.flatMap labE1 ++ (x.samples[k2].nums.take m).flatMap labE2) := hRB2
      refine C.begin _ (yS2 :: yB2 :: ⟨g.sams[k2], tSam, [.slice pL x.samples[k2].stack.length cL, vs, .map mo, .map mo2, .map none, .slice none 0 0, .slice qB2 lbB2.length dB2], true, true, none⟩ :: mpE mb esB2 ckB2 :: restH u2 [g.sams[k2], mb]) hfB2 hHB2 ?_
      refine CJ.s [(0, ptr g.pb), (2, .map (some mb)), (6, ptr g.sams[k2]), (68, .slice (some ⟨bq, 0, none⟩) x.samples.length c2), (69, .int .i64 (x.samples.length : Nat)), (70, .int .i64 (k2 : Nat)), (143, .slice pz xs2.length cz), (144, .int .i64 (xs2.length : Nat)), (145, .int .i64 (m : Nat))] ⟨rfl, rfl, rfl, rfl, rfl, rfl, rfl, rfl, rfl, trivial⟩ (cj_seqF fun K43 hK43 => cj_reg (j_val rfl (fun _ _ h => r_lss rfl rfl h) (j_nil (ej_then (hK43 _ _ _ (CJ.s [(0, _), (2, _), (6, _), (68, _), (69, _), (70, _), (143, _), (144, _), (145, _), (146, _)] ⟨rfl, rfl, rfl, rfl, rfl, rfl, rfl, rfl, rfl, rfl, trivial⟩ (cj_seqF fun K44 hK44 => ?_)))))))
      refine cj_dec rfl (fun h146 => ?_) (fun h146 => ?_)
      ·have hm' : m < x.samples[k2].nums.length := by omega
       obtain ⟨honS, hpS⟩ := hOS2.pos (by omega)
       subst hpS
       have hkv : ((x.samples[k2].nums.map (·.key)).map Value.string)[m]? = some (.string x.samples[k2].nums[m].key) := by simp [hm']
       obtain ⟨vv, hvv, hov⟩ := hLN.get (i := m) (k := (x.samples[k2].nums[m].key, x.samples[k2].nums[m].list.map (.int .i64))) (by simp [labN, hm']) (.slice none 0 0)
       obtain ⟨pv, lv, cv, rfl, hvl, -, hvx⟩ := hov.openF
       obtain rfl : lv = x.samples[k2].nums[m].list.length := by simpa using hvl.symm
       have hmem := List.getElem_mem hm'
       have hl60 : x.samples[k2].nums[m].list.length ≤ 60 := (hLab.nl _ hmem).2
       refine cj_skip (ej_then (hK44 _ _ _ (CJ.s [(0, _), (2, _), (6, _), (68, _), (69, _), (70, _), (143, _), (144, _), (145, _)] ⟨rfl, rfl, rfl, rfl, rfl, rfl, rfl, rfl, rfl, trivial⟩ (cj_seqF fun K45 hK45 => cj_block (cj_seqF fun K46 hK46 => cj_reg (j_val rfl (fun _ _ h => r_idx runUnderlying27 sizeOf9 rfl rfl (by omega) h) (j_valw rfl (fun a w ha hH hf => r_load isAgg9 rfl (hOS2.cell (hH.get (i := 0) rfl honS) hkv) ha) (jA rfl rfl (j_nil (ej_then (hK46 _ _ _ (CJ.s [(0, _), (2, _), (6, _), (17, _), (68, _), (69, _), (70, _), (143, _), (144, _), (145, _)] ⟨rfl, rfl, rfl, rfl, rfl, rfl, rfl, rfl, rfl, rfl, trivial⟩ (cj_seqF fun K47 hK47 => cj_reg ?_)))))))))))))
       refine jM rfl rfl (jN rfl rfl (j_val rfl (fun _ _ h => r_fl (q := 3) (ft := 136) runUnderlying139 rfl sizeOf136 rfl h) (j_valw rfl (fun a w ha hH hf => r_ldH 2 rfl rfl isAgg136 rfl rfl ha hH) (jM rfl rfl ?_))))
       refine j_valw rfl (fun a w ha hH hf => r_mlookM runUnderlying136 (keyT_string runUnderlying9) hLN.enc zeroValue46 rfl rfl ha (mapAt_rest hAN hmoN hH (by intro x hx; repeat (first | exact hx | apply List.mem_cons_of_mem)))) ?_
       refine j_eqv hvv ?_
       refine jA rfl rfl (j_nil (ej_then (hK47 _ _ _ (CJ.s [(0, _), (2, _), (6, _), (17, _), (18, _), (68, _), (69, _), (70, _), (143, _), (144, _), (145, _)] ⟨rfl, rfl, rfl, rfl, rfl, rfl, rfl, rfl, rfl, rfl, rfl, trivial⟩ (cj_seqF fun K48 hK48 => cj_reg (jM rfl rfl (j_val rfl (fun _ _ h => r_len runUnderlying46 rfl h) (jM rfl rfl (j_nil (ej_then (hK48 _ _ _ (CJ.s [(0, _), (2, _), (6, _), (17, _), (68, _), (69, _), (70, _), (143, _), (144, _), (145, _), (155, _), (156, _), (157, _)] ⟨rfl, rfl, rfl, rfl, rfl, rfl, rfl, rfl, rfl, rfl, rfl, rfl, rfl, trivial⟩ (cj_block ?_)))))))))))))
       -- LOOP 7 live [0, 2, 6, 17, 68, 69, 70, 143, 144, 145, 155, 156, 157]
       refine cj_loop (σ := Nat × List ByteArray × List MapEntry × Nat × List (Int × Int × Int) × Ent × Option Addr × Nat) (fun s => [(0, ptr g.pb), (2, .map (some mb)), (6, ptr g.sams[k2]), (17, .string x.samples[k2].nums[m].key), (68, .slice (some ⟨bq, 0, none⟩) x.samples.length c2), (69, .int .i64 (x.samples.length : Nat)), (70, .int .i64 (k2 : Nat)), (143, .slice (some ⟨yS2.b, 0, none⟩) xs2.length cz), (144, .int .i64 (xs2.length : Nat)), (145, .int .i64 (m : Nat)), (155, .slice pv x.samples[k2].nums[m].list.length cv), (156, .int .i64 (x.samples[k2].nums[m].list.length : Nat)), (157, .int .i64 (s.1 : Nat))])
        (fun s => yS2 :: s.2.2.2.2.2.1 :: ⟨g.sams[k2], tSam, [.slice pL x.samples[k2].stack.length cL, vs, .map mo, .map mo2, .map none, .slice none 0 0, .slice s.2.2.2.2.2.2.1 s.2.2.2.2.1.length s.2.2.2.2.2.2.2], true, true, none⟩ :: mpE mb s.2.2.1 s.2.2.2.1 :: restH u2 [g.sams[k2], mb])
        (fun s _ => s.1 ≤ x.samples[k2].nums[m].list.length ∧ MEnc Value.string (tabM s.2.1) s.2.2.1 s.2.2.2.1 ∧ (∀ t ∈ s.2.1, t ∈ allS x) ∧ T2 <+: s.2.1 ∧ Own tLabel 3 s.2.2.2.2.2.1 s.2.2.2.2.2.2.1 s.2.2.2.2.1.length s.2.2.2.2.2.2.2 (s.2.2.2.2.1.flatMap cLb) ∧ LbR s.2.1 s.2.2.2.2.1 (x.samples[k2].texts.flatMap labE1 ++ (x.samples[k2].nums.take m).flatMap labE2 ++ (labE2 x.samples[k2].nums[m]).take s.1)) (fun s => x.samples[k2].nums[m].list.length - s.1)
        (0, TB2, esB2, ckB2, lbB2, yB2, qB2, dB2) ⟨rfl, rfl, rfl, rfl, rfl, rfl, rfl, rfl, rfl, rfl, rfl, rfl, rfl, trivial⟩ (fun w' hH hf => ⟨hH, Nat.zero_le _, hMB2, hSB2, hpB2, hOB2, by simpa using hRB2⟩) ?_
       rintro ⟨j, TC, esC, ckC, lbC, yC, qC, dC⟩ wC ⟨hj, hMC, hSC, hpC, hOC, hRC⟩ hfC hHC KLC hKLC
       have hj : j ≤ x.samples[k2].nums[m].list.length := hj
       have hMC : MEnc Value.string (tabM TC) esC ckC := hMC
       have hSC : ∀ t ∈ TC, t ∈ allS x := hSC
       have hpC : T2 <+: TC := hpC
       have hOC : Own tLabel 3 yC qC lbC.length dC (lbC.flatMap cLb) := hOC
       have hRC : LbR TC lbC (x.samples[k2].texts.flatMap labE1 ++ (x.samples[k2].nums.take m).flatMap labE2 ++ (labE2 x.samples[k2].nums[m]).take j) := hRC
       refine C.begin _ (yS2 :: yC :: ⟨g.sams[k2], tSam, [.slice pL x.samples[k2].stack.length cL, vs, .map mo, .map mo2, .map none, .slice none 0 0, .slice qC lbC.length dC], true, true, none⟩ :: mpE mb esC ckC :: restH u2 [g.sams[k2], mb]) hfC hHC ?_
       refine CJ.s [(0, ptr g.pb), (2, .map (some mb)), (6, ptr g.sams[k2]), (17, .string x.samples[k2].nums[m].key), (68, .slice (some ⟨bq, 0, none⟩) x.samples.length c2), (69, .int .i64 (x.samples.length : Nat)), (70, .int .i64 (k2 : Nat)), (143, .slice (some ⟨yS2.b, 0, none⟩) xs2.length cz), (144, .int .i64 (xs2.length : Nat)), (145, .int .i64 (m : Nat)), (155, .slice pv x.samples[k2].nums[m].list.length cv), (156, .int .i64 (x.samples[k2].nums[m].list.length : Nat)), (157, .int .i64 (j : Nat))] ⟨rfl, rfl, rfl, rfl, rfl, rfl, rfl, rfl, rfl, rfl, rfl, rfl, rfl, trivial⟩ (cj_seqF fun K49 hK49 => cj_reg (j_val rfl (fun _ _ h => r_lss rfl rfl h) (j_nil (ej_then (hK49 _ _ _ (CJ.s [(0, _), (2, _), (6, _), (17, _), (68, _), (69, _), (70, _), (143, _), (144, _), (145, _), (155, _), (156, _), (157, _), (158, _)] ⟨rfl, rfl, rfl, rfl, rfl, rfl, rfl, rfl, rfl, rfl, rfl, rfl, rfl, rfl, trivial⟩ (cj_seqF fun K50 hK50 => ?_)))))))
       refine cj_dec rfl (fun h158 => ?_) (fun h158 => ?_)
       ·have hj' : j < x.samples[k2].nums[m].list.length := by omega
        obtain ⟨bv, rfl, hvs4⟩ := hvx (by omega)
        have hcellv := osCellW (k := j) (v := .int .i64 x.samples[k2].nums[m].list[j]) (W1 := [tSam, 1000000]) hP2.fr rfl rfl hvs4 (by simp [hj'])
        have hlb := labs_len2 hLab m j hm'
        rw [← hRC.1] at hlb
        refine cj_skip (ej_then (hK50 _ _ _ (CJ.s [(0, _), (2, _), (6, _), (17, _), (68, _), (69, _), (70, _), (143, _), (144, _), (145, _), (155, _), (156, _), (157, _)] ⟨rfl, rfl, rfl, rfl, rfl, rfl, rfl, rfl, rfl, rfl, rfl, rfl, rfl, trivial⟩ (cj_seqF fun K51 hK51 => cj_block (cj_seqF fun K52 hK52 => cj_reg (j_val rfl (fun _ _ h => r_idx runUnderlying46 sizeOf2 rfl rfl (by omega) h) (j_valw rfl (fun a w ha hH hf => r_load isAgg2 rfl (hcellv w (hf) 0 _ rfl) ha) (jA rfl rfl (j_nil (ej_then (hK52 _ _ _ (CJ.s [(0, _), (2, _), (6, _), (17, _), (20, _), (68, _), (69, _), (70, _), (143, _), (144, _), (145, _), (155, _), (156, _), (157, _)] ⟨rfl, rfl, rfl, rfl, rfl, rfl, rfl, rfl, rfl, rfl, rfl, rfl, rfl, rfl, trivial⟩ ?_))))))))))))
        refine cj_drawI 12 [(0, true), (1, true), (2, true), (3, true), (4, true), (5, true), (6, true), (8, true), (7, false), (9, true), (10, false), (11, false), (12, false), (13, false), (14, false)] [2] rfl (by kernel_rfl) (by kernel_rfl) ?_
        refine dj_val rfl rfl (sub_of [2] rfl) (fun _ _ h => r_move rfl h) (dj_val rfl rfl (sub_of [2] rfl) (fun _ _ h => r_move rfl h) (dj_val rfl rfl (sub_of [2] rfl) (fun _ _ h => r_nil rfl h) (dj_val rfl rfl (sub_of [2] rfl) (fun _ _ h => r_fl (q := 6) (ft := 137) runUnderlying139 rfl sizeOf137 rfl h) (dj_ld rfl rfl (sub_of [2] rfl) (fun a w ha hS => r_ldS 0 rfl rfl isAgg137 rfl rfl ha hS) (dj_val rfl rfl (sub_of [2] rfl) (fun _ _ h => r_move rfl h) (dj_val rfl rfl (sub_of [2] rfl) (fun _ _ h => r_move rfl h) (dj_val rfl rfl (sub_of [2] rfl) (fun _ _ h => r_move rfl h) (dj_eff rfl fun K2 hK2 => ?_))))))))
        refine j_callA 3 rfl hMC hSC (allS_s hxm (samS_num hmem)) hS2 rfl rfl fun Ta na esa cka qma hpa hsa hMa => ?_
        refine j_nil (ej_then (hK2 _ _ (.inr (sub_of [2] rfl)) ?_)); clear hK2 K2
        refine dj_val rfl rfl (sub_of [2] rfl) (fun _ _ h => r_build (cs := [_, (.int .i64 0), _]) bt164 rfl rfl h) (dj_eff rfl fun K2 hK2 => ?_)
        refine j_bslice1 runUnderlying137 sizeOf164 zeroValue164 rfl rfl rfl rfl rfl fun b171 => ?_
        refine j_nil (ej_then (hK2 _ _ (.inr (sub_of [3] rfl)) ?_)); clear hK2 K2
        refine dj_eff rfl fun K2 hK2 => ?_
        refine j_appO 1 rfl hOC runUnderlying137 el164 rfl rfl rfl rfl rfl (by omega) rfl fun y172 p172 c172 hO172 => ?_
        refine j_nil (ej_then (hK2 _ _ (.inr (sub_of [2] rfl)) ?_)); clear hK2 K2
        refine dj_eff rfl fun K2 hK2 => jN rfl rfl (j_nil (ej_then (hK2 _ _ (.inl rfl) ?_))); clear hK2 K2
        refine dj_eff rfl fun K2 hK2 => j_val rfl (fun _ _ h => r_fl (q := 6) (ft := 137) runUnderlying139 rfl sizeOf137 rfl h) (j_nil (ej_then (hK2 _ _ (.inl rfl) ?_))); clear hK2 K2
        refine dj_eff rfl fun K2 hK2 => ?_
        refine j_storeN (cs' := [_, _, _, _, _, _, _]) (H' := (_ :: _ :: _ :: _ :: _)) 2 rfl rfl rfl rfl sizeOf137 rfl rfl rfl rfl rfl rfl rfl ?_
        refine j_nil (ej_then (hK2 _ _ (.inl rfl) ?_)); clear hK2 K2
        refine dj_end (ej_blk (ej_then (hK51 _ _ _ (CJ.s [(0, _), (2, _), (6, _), (17, _), (68, _), (69, _), (70, _), (143, _), (144, _), (145, _), (155, _), (156, _), (157, _)] ⟨rfl, rfl, rfl, rfl, rfl, rfl, rfl, rfl, rfl, rfl, rfl, rfl, rfl, trivial⟩ (cj_reg (j_val rfl (fun _ _ h => r_inc (by omega) rfl rfl h) (jM rfl rfl (j_nil (ej_then ?_)))))))))
        have hpush := LbR.push (q := ((na : Int), (0 : Int), x.samples[k2].nums[m].list[j])) (e := (x.samples[k2].nums[m].key, none, x.samples[k2].nums[m].list[j])) hRC hpa ⟨At.mk qma (List.prefix_refl _), rfl, rfl⟩
        have htk : (labE2 x.samples[k2].nums[m]).take (j + 1) = (labE2 x.samples[k2].nums[m]).take j ++ [(x.samples[k2].nums[m].key, none, x.samples[k2].nums[m].list[j])] := by
         rw [← List.take_append_getElem (by simpa [labE2] using hj')]; simp [labE2]
        rw [List.append_assoc, ← htk] at hpush
        exact fun w' hH hf => hKLC (j + 1, Ta, esa, cka, lbC ++ [((na : Int), (0 : Int), x.samples[k2].nums[m].list[j])], y172, p172, c172) _ w' ⟨hj', hMa, hsa, hpC.trans hpa, by have h : Own tLabel 3 y172 p172 (lbC.length + 1) c172 (lbC.flatMap cLb ++ [.int .i64 (na : Int), .int .i64 0, .int .i64 x.samples[k2].nums[m].list[j]]) := hO172; simpa [List.flatMap_append, cLb] using h, hpush⟩ hf (by simp only [List.length_append, List.length_singleton]; exact hH) (by simp only; omega) ⟨rfl, rfl, rfl, rfl, rfl, rfl, rfl, rfl, rfl, rfl, rfl, rfl, rfl, trivial⟩
       ·have hje : j = x.samples[k2].nums[m].list.length := by omega
        have hRD := hRC
        have etk : (labE2 x.samples[k2].nums[m]).take j = labE2 x.samples[k2].nums[m] := List.take_of_length_le (by simp [labE2, hje])
        rw [etk, List.append_assoc, ← flatMap_step' (g := labE2) hm'] at hRD
        refine cj_exit (ej_then_exit (ej_then_exit (ej_blk_hit (ej_blk (ej_then (hK45 _ _ _ (CJ.s [(0, _), (2, _), (6, _), (68, _), (69, _), (70, _), (143, _), (144, _), (145, _)] ⟨rfl, rfl, rfl, rfl, rfl, rfl, rfl, rfl, rfl, trivial⟩ (cj_reg (j_val rfl (fun _ _ h => r_inc (by omega) rfl rfl h) (jM rfl rfl (j_nil (ej_then ?_))))))))))))
        exact fun w' hH hf => hKLB2 (m + 1, TC, esC, ckC, lbC, yC, qC, dC) _ w' ⟨by simp only; omega, hMC, hSC, hpC, hOC, hRD⟩ hf hH (by simp only; omega) ⟨rfl, rfl, rfl, rfl, rfl, rfl, rfl, rfl, rfl, trivial⟩
      ·have hme : m = x.samples[k2].nums.length := by omega
       rw [hme, List.take_of_length_le (Nat.le_refl _)] at hRB2
       refine cj_exit (ej_then_exit (ej_then_exit (ej_blk_hit (ej_then (hK41 _ _ _ (CJ.s [(0, _), (2, _), (6, _), (68, _), (69, _), (70, _)] ⟨rfl, rfl, rfl, rfl, rfl, rfl, trivial⟩ (cj_seqF fun K53 hK53 => cj_reg (jM rfl rfl (jN rfl rfl (j_val rfl (fun _ _ h => r_fl (q := 5) (ft := 67) runUnderlying139 rfl sizeOf67 rfl h) ?_))))))))))
       refine j_storeN (cs' := [_, _, _, _, _, _, _]) (H' := (_ :: _ :: _ :: _ :: _)) 2 rfl rfl rfl rfl sizeOf67 rfl rfl rfl rfl rfl rfl rfl ?_
       refine j_nil (ej_then (hK53 _ _ _ (CJ.s [(0, _), (2, _), (6, _), (68, _), (69, _), (70, _)] ⟨rfl, rfl, rfl, rfl, rfl, rfl, trivial⟩ (cj_seqF fun K54 hK54 => cj_reg (jM rfl rfl (jN rfl rfl (j_val rfl (fun _ _ h => r_fl (q := 0) (ft := 118) runUnderlying139 rfl sizeOf118 rfl h) (j_valw rfl (fun a w ha hH hf => r_ldH 2 rfl rfl isAgg118 rfl rfl ha hH) (j_val rfl (fun _ _ h => r_len runUnderlying118 rfl h) (jM rfl rfl (j_nil (ej_then (hK54 _ _ _ (CJ.s [(0, _), (2, _), (6, _), (68, _), (69, _), (70, _), (183, _), (184, _), (185, _)] ⟨rfl, rfl, rfl, rfl, rfl, rfl, rfl, rfl, rfl, trivial⟩ ?_))))))))))))))
       refine cj_block ?_
       -- LOOP 8 live [0, 2, 6, 68, 69, 70, 183, 184, 185]
       refine cj_loop (σ := Nat × Ent × Option Addr × Nat) (fun s => [(0, ptr g.pb), (2, .map (some mb)), (6, ptr g.sams[k2]), (68, .slice (some ⟨bq, 0, none⟩) x.samples.length c2), (69, .int .i64 (x.samples.length : Nat)), (70, .int .i64 (k2 : Nat)), (183, .slice pL x.samples[k2].stack.length cL), (184, .int .i64 (x.samples[k2].stack.length : Nat)), (185, .int .i64 (s.1 : Nat))])
        (fun s => s.2.1 :: yB2 :: ⟨g.sams[k2], tSam, [.slice pL x.samples[k2].stack.length cL, vs, .map mo, .map mo2, .map none, .slice s.2.2.1 s.1 s.2.2.2, .slice qB2 lbB2.length dB2], true, true, none⟩ :: mpE mb esB2 ckB2 :: restH u2 [g.sams[k2], mb])
        (fun s _ => s.1 ≤ x.samples[k2].stack.length ∧ Own tU64 1 s.2.1 s.2.2.1 s.1 s.2.2.2 ((x.samples[k2].stack.take s.1).map fun z => .int .u64 (lid x z))) (fun s => x.samples[k2].stack.length - s.1)
        (0, nilE tU64, none, 0) ⟨rfl, rfl, rfl, rfl, rfl, rfl, rfl, rfl, rfl, trivial⟩ (fun w' hH hf => ⟨(hH.drop 0).off, Nat.zero_le _, Own.nil⟩) ?_
       rintro ⟨i, yI, pI, cI⟩ wE ⟨hi, hOI⟩ hfE hHE KLE hKLE
       have hi : i ≤ x.samples[k2].stack.length := hi
       have hOI : Own tU64 1 yI pI i cI ((x.samples[k2].stack.take i).map fun z => .int .u64 (lid x z)) := hOI
       refine C.begin _ (yI :: yB2 :: ⟨g.sams[k2], tSam, [.slice pL x.samples[k2].stack.length cL, vs, .map mo, .map mo2, .map none, .slice pI i cI, .slice qB2 lbB2.length dB2], true, true, none⟩ :: mpE mb esB2 ckB2 :: restH u2 [g.sams[k2], mb]) hfE hHE ?_
       refine CJ.s [(0, ptr g.pb), (2, .map (some mb)), (6, ptr g.sams[k2]), (68, .slice (some ⟨bq, 0, none⟩) x.samples.length c2), (69, .int .i64 (x.samples.length : Nat)), (70, .int .i64 (k2 : Nat)), (183, .slice pL x.samples[k2].stack.length cL), (184, .int .i64 (x.samples[k2].stack.length : Nat)), (185, .int .i64 (i : Nat))] ⟨rfl, rfl, rfl, rfl, rfl, rfl, rfl, rfl, rfl, trivial⟩ (cj_seqF fun K55 hK55 => cj_reg (j_val rfl (fun _ _ h => r_lss rfl rfl h) (j_nil (ej_then (hK55 _ _ _ (CJ.s [(0, _), (2, _), (6, _), (68, _), (69, _), (70, _), (183, _), (184, _), (185, _), (186, _)] ⟨rfl, rfl, rfl, rfl, rfl, rfl, rfl, rfl, rfl, rfl, trivial⟩ (cj_seqF fun K56 hK56 => ?_)))))))
       refine cj_dec rfl (fun h186 => ?_) (fun h186 => ?_)
       ·have hi' : i < x.samples[k2].stack.length := by omega
        obtain ⟨bL, rfl, hLs⟩ := hLx (by omega)
        obtain ⟨hz0, hzl⟩ := hsk _ (List.getElem_mem hi')
        have hzl' : x.samples[k2].stack[i].toNat < x.locs.length := by omega
        have hzb : x.samples[k2].stack[i].toNat < g.locs.length := by rw [hG.locs.1]; exact hzl'
        obtain ⟨lsz, hlb, -⟩ := (hP2.pl _ _ _ (List.getElem?_eq_getElem hzb) (List.getElem?_eq_getElem hzl')).2 (Nat.zero_le _)
        have hcellL := osCellW (k := i) (v := ptr g.locs[x.samples[k2].stack[i].toNat]) (W1 := [tSam, 1000000]) hP2.fr rfl rfl hLs (by simp [hi', ptrAt, hz0, hzb])
        have hlc := mc (f := ⟨u2, 0, [tSam, 1000000]⟩) hlb rfl
        refine cj_skip (ej_then (hK56 _ _ _ (CJ.s [(0, _), (2, _), (6, _), (68, _), (69, _), (70, _), (183, _), (184, _), (185, _)] ⟨rfl, rfl, rfl, rfl, rfl, rfl, rfl, rfl, rfl, trivial⟩ (cj_seqF fun K57 hK57 => cj_block (cj_seqF fun K58 hK58 => cj_reg (j_val rfl (fun _ _ h => r_idx runUnderlying118 sizeOf128 rfl rfl (by omega) h) (j_valw rfl (fun a w ha hH hf => r_load isAgg128 rfl (hcellL w (hf) 0 _ rfl) ha) (jA rfl rfl (j_nil (ej_then (hK58 _ _ _ (CJ.s [(0, _), (2, _), (6, _), (22, _), (68, _), (69, _), (70, _), (183, _), (184, _), (185, _)] ⟨rfl, rfl, rfl, rfl, rfl, rfl, rfl, rfl, rfl, rfl, trivial⟩ ?_))))))))))))
        refine cj_drawI 11 [(0, true), (1, true), (2, true), (3, true), (4, true), (5, true), (6, true), (7, true), (8, true), (9, false), (10, false), (11, false), (12, false), (13, false)] [2] rfl (by kernel_rfl) (by kernel_rfl) ?_
        refine dj_val rfl rfl (sub_of [2] rfl) (fun _ _ h => r_move rfl h) (dj_val rfl rfl (sub_of [2] rfl) (fun _ _ h => r_move rfl h) (dj_val rfl rfl (sub_of [2] rfl) (fun _ _ h => r_nil rfl h) (dj_val rfl rfl (sub_of [2] rfl) (fun _ _ h => r_fl (q := 5) (ft := 67) runUnderlying139 rfl sizeOf67 rfl h) (dj_ld rfl rfl (sub_of [2] rfl) (fun a w ha hS => r_ldS 0 rfl rfl isAgg67 rfl rfl ha hS) (dj_val rfl rfl (sub_of [2] rfl) (fun _ _ h => r_move rfl h) (dj_val rfl rfl (sub_of [2] rfl) (fun _ _ h => r_nil rfl h) (dj_val rfl rfl (sub_of [2] rfl) (fun _ _ h => r_fl (q := 0) (ft := 59) runUnderlying131 rfl sizeOf59 rfl h) (dj_ld rfl rfl (sub_of [2] rfl) (fun a w ha hS => r_load isAgg59 rfl (hlc w (hS.2) 0 _ rfl) ha) (dj_eff rfl fun K2 hK2 => ?_)))))))))
        refine j_bslice1 runUnderlying67 sizeOf59 zeroValue59 rfl rfl rfl rfl rfl fun b198 => ?_
        refine j_nil (ej_then (hK2 _ _ (.inr (sub_of [3] rfl)) ?_)); clear hK2 K2
        refine dj_eff rfl fun K2 hK2 => ?_
        refine j_appO 0 rfl hOI runUnderlying67 el59 rfl rfl rfl rfl rfl (by omega) rfl fun y199 p199 c199 hO199 => ?_
        refine j_nil (ej_then (hK2 _ _ (.inr (sub_of [2] rfl)) ?_)); clear hK2 K2
        refine dj_eff rfl fun K2 hK2 => jN rfl rfl (j_nil (ej_then (hK2 _ _ (.inl rfl) ?_))); clear hK2 K2
        refine dj_eff rfl fun K2 hK2 => j_val rfl (fun _ _ h => r_fl (q := 5) (ft := 67) runUnderlying139 rfl sizeOf67 rfl h) (j_nil (ej_then (hK2 _ _ (.inl rfl) ?_))); clear hK2 K2
        refine dj_eff rfl fun K2 hK2 => ?_
        refine j_storeN (cs' := [_, _, _, _, _, _, _]) (H' := (_ :: _ :: _ :: _ :: _)) 2 rfl rfl rfl rfl sizeOf67 rfl rfl rfl rfl rfl rfl rfl ?_
        refine j_nil (ej_then (hK2 _ _ (.inl rfl) ?_)); clear hK2 K2
        refine dj_end (ej_blk (ej_then (hK57 _ _ _ (CJ.s [(0, _), (2, _), (6, _), (68, _), (69, _), (70, _), (183, _), (184, _), (185, _)] ⟨rfl, rfl, rfl, rfl, rfl, rfl, rfl, rfl, rfl, trivial⟩ (cj_reg (j_val rfl (fun _ _ h => r_inc (by omega) rfl rfl h) (jM rfl rfl (j_nil (ej_then ?_)))))))))
        exact fun w' hH hf => hKLE (i + 1, y199, p199, c199) _ w' ⟨hi', by have h : Own tU64 1 y199 p199 (i + 1) c199 (((x.samples[k2].stack.take i).map fun z => .int .u64 (lid x z)) ++ [.int .u64 x.locs[x.samples[k2].stack[i].toNat].id]) := hO199; rw [← List.take_append_getElem hi', List.map_append]; simpa [lid_get hz0 (List.getElem?_eq_getElem hzl')] using h⟩ hf hH (by simp only; omega) ⟨rfl, rfl, rfl, rfl, rfl, rfl, rfl, rfl, rfl, trivial⟩
       ·have hie : i = x.samples[k2].stack.length := by omega
        have hOI2 : Own tU64 1 yI pI i cI (x.samples[k2].stack.map fun z => .int .u64 (lid x z)) := by
         have h := hOI
         rwa [show x.samples[k2].stack.take i = x.samples[k2].stack from List.take_of_length_le (by omega)] at h
        refine cj_exit (ej_then_exit (ej_then_exit (ej_blk_hit (ej_blk (ej_then (hK14 _ _ _ (CJ.s [(0, _), (2, _), (68, _), (69, _), (70, _)] ⟨rfl, rfl, rfl, rfl, rfl, trivial⟩ (cj_reg (j_val rfl (fun _ _ h => r_inc (by omega) rfl rfl h) (jM rfl rfl (j_nil (ej_then ?_))))))))))))
        exact fun w' hH hf => hKL (k2 + 1, TB2) _ w' ⟨hk', hP2.s2 hmbF (hG.fresh.2.2.2.2.2.2 _ (List.getElem_mem hkb)) hG.nsams hbe hxe hst (Hp.keepX (l := [g.sams[k2], mb]) hH.2.2.2.2.2.2.2.2.2.2.2.2 hf) hpB2 ⟨⟨_, _, hH.obj (i := 3) rfl rfl, hMB2⟩, hSB2⟩ ⟨_, _, _, _, _, _, lbB2, hH.get (i := 2) rfl rfl, hvs, hOI2.os hH (i := 0) rfl, hOB2.os hH (i := 1) rfl, hRB2⟩⟩ (by simp only; omega) ⟨rfl, rfl, rfl, rfl, rfl, trivial⟩
     ·refine j_val rfl (fun _ _ h => r_extract rfl rfl h) (j_nil (ej_then (hK38 _ _ _ (CJ.s [(0, _), (2, _), (6, _), (14, _), (68, _), (69, _), (70, _), (132, _), (134, _)] ⟨rfl, rfl, rfl, rfl, rfl, rfl, rfl, rfl, rfl, trivial⟩ (cj_seqF fun K59 hK59 => ?_)))))
      refine cj_if_t rfl ?_
      refine cj_skip (ej_then (hK59 _ _ _ (CJ.s [(0, _), (2, _), (6, _), (14, _), (68, _), (69, _), (70, _), (132, _)] ⟨rfl, rfl, rfl, rfl, rfl, rfl, rfl, rfl, trivial⟩ (cj_block (cj_seqF fun K60 hK60 => cj_reg ?_)))))
      refine j_valw rfl (fun a w ha hH hf => r_entryM 1 rfl (fun w' hH hf => mapAt_rest hAN hmoN hH (by intro x hx; repeat (first | exact hx | apply List.mem_cons_of_mem))) rfl hxe hLN.enc.born ha hH hf) ?_
      refine j_val rfl (fun _ _ h => r_extract rfl rfl h) ?_
      obtain ⟨q1, hq1, hqk, -⟩ := menc_entry hLN.enc hxe
      refine j_eqv hqk ?_
      refine jA rfl rfl (j_nil (ej_then (hK60 _ _ _ (CJ.s [(0, _), (2, _), (6, _), (14, _), (15, _), (68, _), (69, _), (70, _), (132, _)] ⟨rfl, rfl, rfl, rfl, rfl, rfl, rfl, rfl, rfl, trivial⟩ (cj_reg (jM rfl rfl (jM rfl rfl ?_)))))))
      refine j_bslice1 runUnderlying27 sizeOf9 zeroValue9 rfl rfl rfl rfl rfl fun b139 => ?_
      refine j_appO 0 rfl hO runUnderlying27 el9 rfl rfl rfl rfl rfl (by omega) rfl fun y140 p140 c140 hO140 => ?_
      refine jA rfl rfl (j_nil (ej_blk (ej_then ?_)))
      have hlt : seen2.length < esN.length := by
       have := (hV.push hxe hns).len hLN.enc.born
       simp at this; omega
      exact fun w' hH hf => hKLD (seen2 ++ [xe.born], xs2 ++ [xe], y140, p140, c140) _ w' ⟨hV.push hxe hns, by have h : Own tStr 1 y140 p140 (xs2.length + 1) c140 (xs2.map (·.key) ++ [.string q1.1]) := hO140; simpa [hqk] using h⟩ hf hH (by simp only [List.length_append, List.length_singleton]; omega) ⟨rfl, rfl, rfl, by simp only [List.length_append, List.length_singleton]; rfl, rfl, rfl, rfl, rfl, trivial⟩
   ·refine j_val rfl (fun _ _ h => r_extract rfl rfl h) (j_nil (ej_then (hK20 _ _ _ (CJ.s [(0, _), (2, _), (6, _), (7, _), (68, _), (69, _), (70, _), (81, _), (83, _)] ⟨rfl, rfl, rfl, rfl, rfl, rfl, rfl, rfl, rfl, trivial⟩ (cj_seqF fun K61 hK61 => ?_)))))
    refine cj_if_t rfl ?_
    refine cj_skip (ej_then (hK61 _ _ _ (CJ.s [(0, _), (2, _), (6, _), (7, _), (68, _), (69, _), (70, _), (81, _)] ⟨rfl, rfl, rfl, rfl, rfl, rfl, rfl, rfl, trivial⟩ (cj_block (cj_seqF fun K62 hK62 => cj_reg ?_)))))
    refine j_valw rfl (fun a w ha hH hf => r_entryM 1 rfl (fun w' hH hf => mapAt_rest hAT hmoT hH (by intro x hx; repeat (first | exact hx | apply List.mem_cons_of_mem))) rfl hxe hLT.enc.born ha hH hf) ?_
    refine j_val rfl (fun _ _ h => r_extract rfl rfl h) ?_
    obtain ⟨q1, hq1, hqk, -⟩ := menc_entry hLT.enc hxe
    refine j_eqv hqk ?_
    refine jA rfl rfl (j_nil (ej_then (hK62 _ _ _ (CJ.s [(0, _), (2, _), (6, _), (7, _), (8, _), (68, _), (69, _), (70, _), (81, _)] ⟨rfl, rfl, rfl, rfl, rfl, rfl, rfl, rfl, rfl, trivial⟩ (cj_reg (jM rfl rfl (jM rfl rfl ?_)))))))
    refine j_bslice1 runUnderlying27 sizeOf9 zeroValue9 rfl rfl rfl rfl rfl fun b88 => ?_
    refine j_appO 0 rfl hO runUnderlying27 el9 rfl rfl rfl rfl rfl (by omega) rfl fun y89 p89 c89 hO89 => ?_
    refine jA rfl rfl (j_nil (ej_blk (ej_then ?_)))
    have hlt : seen.length < esT.length := by
     have := (hV.push hxe hns).len hLT.enc.born
     simp at this; omega
    exact fun w' hH hf => hKLA (seen ++ [xe.born], xs ++ [xe], y89, p89, c89) _ w' ⟨hV.push hxe hns, by have h : Own tStr 1 y89 p89 (xs.length + 1) c89 (xs.map (·.key) ++ [.string q1.1]) := hO89; simpa [hqk] using h⟩ hf hH (by simp only [List.length_append, List.length_singleton]; omega) ⟨rfl, rfl, rfl, by simp only [List.length_append, List.length_singleton]; rfl, rfl, rfl, rfl, rfl, trivial⟩
  ·have hke2 : k2 = x.samples.length := by omega
   subst hke2
   clear hKL hk2 h71
   refine cj_exit (ej_then_exit (ej_then_exit (ej_blk_hit (ej_then (hK10 _ _ _ (CJ.s [(0, _), (2, _)] ⟨rfl, rfl, trivial⟩ (cj_seqF fun K63 hK63 => cj_seqF fun K64 hK64 => cj_reg (jM rfl rfl (jN rfl rfl (j_val rfl (fun _ _ h => r_fl (q := 3) (ft := 117) runUnderlying121 rfl sizeOf117 rfl h) (j_valw rfl (fun a w ha hH hf => r_load isAgg117 rfl (hc0 w (hf) 3 _ rfl) ha) (j_val rfl (fun _ _ h => r_len runUnderlying117 rfl h) (jM rfl rfl (j_nil (ej_then (hK64 _ _ _ (CJ.s [(0, _), (2, _), (207, _), (208, _), (209, _)] ⟨rfl, rfl, rfl, rfl, rfl, trivial⟩ ?_)))))))))))))))))
   refine cj_block ?_
   -- LOOP 9 live [0, 2, 207, 208, 209]
   intro v3 hH3' hf3'
   refine c_loop (σ := Nat × List ByteArray) (fun s => [(0, ptr g.pb), (2, .map (some mb)), (207, .slice p3 x.mappings.length c3), (208, .int .i64 (x.mappings.length : Nat)), (209, .int .i64 (s.1 : Nat))])
    (fun s w' => s.1 ≤ x.mappings.length ∧ PS B w mb x g x.types.length x.samples.length s.1 0 0 s.2 w') (fun s => x.mappings.length - s.1) (0, T2) ⟨rfl, rfl, rfl, rfl, rfl, trivial⟩ ⟨Nat.zero_le _, hP2.keep hf3'⟩ ?_
   rintro ⟨k3, T3⟩ u3 ⟨hk3, hP3⟩ KL hKL
   have hk3 : k3 ≤ x.mappings.length := hk3
   have hP3 : PS B w mb x g x.types.length x.samples.length k3 0 0 T3 u3 := hP3
   have hc0 := mc (f := ⟨u3, 0, []⟩) (fr_row hP3.fr rfl _ _ hpb) rfl
   refine C.begin ⟨u3, 0, []⟩ [] ok_refl .nil ?_
   refine CJ.s [(0, ptr g.pb), (2, .map (some mb)), (207, .slice p3 x.mappings.length c3), (208, .int .i64 (x.mappings.length : Nat)), (209, .int .i64 (k3 : Nat))] ⟨rfl, rfl, rfl, rfl, rfl, trivial⟩ (cj_seqF fun K65 hK65 => cj_reg (j_val rfl (fun _ _ h => r_lss rfl rfl h) (j_nil (ej_then (hK65 _ _ _ (CJ.s [(0, _), (2, _), (207, _), (208, _), (209, _), (210, _)] ⟨rfl, rfl, rfl, rfl, rfl, rfl, trivial⟩ (cj_seqF fun K66 hK66 => ?_)))))))
   refine cj_dec rfl (fun h210 => ?_) (fun h210 => ?_)
   ·have hk' : k3 < x.mappings.length := by omega
    obtain ⟨bq, rfl, hsq⟩ := hx3 (by omega)
    have hkb : k3 < g.maps.length := by rw [hG.maps.1]; exact hk'
    have hbe : g.maps[k3]? = some g.maps[k3] := List.getElem?_eq_getElem hkb
    have hxe : x.mappings[k3]? = some x.mappings[k3] := List.getElem?_eq_getElem hk'
    have hxm : x.mappings[k3] ∈ x.mappings := List.getElem_mem hk'
    have hst : Blk u3 g.maps[k3] tMap _ := (hP3.pm _ _ _ hbe hxe).2 (Nat.le_refl _)
    obtain ⟨es, ck, hmap, hM⟩ := hP3.tab.ex
    have hcell := osCellW (k := k3) (v := ptr g.maps[k3]) (W1 := [tMap, 1000000]) hP3.fr rfl rfl hsq (by simp [hkb])
    refine CJ.turn (W := [tMap, 1000000]) (Hp.rowMap hst hmap rfl rfl) ?_
    refine cj_skip (ej_then (hK66 _ _ _ (CJ.s [(0, _), (2, _), (207, _), (208, _), (209, _)] ⟨rfl, rfl, rfl, rfl, rfl, trivial⟩ (cj_seqF fun K67 hK67 => cj_block (cj_seqF fun K68 hK68 => cj_reg (j_val rfl (fun _ _ h => r_idx runUnderlying117 sizeOf122 rfl rfl (by omega) h) (j_valw rfl (fun a w ha hH hf => r_load isAgg122 rfl (hcell w (hf) 0 _ rfl) ha) (jA rfl rfl (j_nil (ej_then (hK68 _ _ _ (CJ.s [(0, _), (2, _), (24, _), (207, _), (208, _), (209, _)] ⟨rfl, rfl, rfl, rfl, rfl, rfl, trivial⟩ (cj_seqF fun K69 hK69 => cj_reg ?_)))))))))))))
    refine jM rfl rfl (jM rfl rfl (jM rfl rfl (jN rfl rfl (j_val rfl (fun _ _ h => r_fl (q := 4) (ft := 9) runUnderlying124 rfl sizeOf9 rfl h) (j_valw rfl (fun a w ha hH hf => r_ldH 0 rfl rfl isAgg9 rfl rfl ha hH) ?_)))))
    refine j_callA 1 rfl hM hP3.tab.sub (allS_m hxm (by simp)) hS2 rfl rfl fun T3a m3a esa cka hma hpa hsa hMa => ?_
    refine jN rfl rfl (j_val rfl (fun _ _ h => r_fl (q := 10) (ft := 2) runUnderlying124 rfl sizeOf2 rfl h) ?_)
    refine j_storeN (cs' := [_, _, _, _, _, _, _, _, _, _, _, _]) (H' := (_ :: _ :: _)) 0 rfl rfl rfl rfl sizeOf2 rfl rfl rfl rfl rfl rfl rfl ?_
    refine j_nil (ej_then (hK69 _ _ _ (CJ.s [(0, _), (2, _), (24, _), (207, _), (208, _), (209, _)] ⟨rfl, rfl, rfl, rfl, rfl, rfl, trivial⟩ (cj_reg (jM rfl rfl (jM rfl rfl (jM rfl rfl (jN rfl rfl (j_val rfl (fun _ _ h => r_fl (q := 5) (ft := 9) runUnderlying124 rfl sizeOf9 rfl h) (j_valw rfl (fun a w ha hH hf => r_ldH 0 rfl rfl isAgg9 rfl rfl ha hH) ?_))))))))))
    refine j_callA 1 rfl hMa hsa (allS_m hxm (by simp)) hS2 rfl rfl fun T3b m3b esb ckb hmb hpb hsb hMb => ?_
    refine jN rfl rfl (j_val rfl (fun _ _ h => r_fl (q := 11) (ft := 2) runUnderlying124 rfl sizeOf2 rfl h) ?_)
    refine j_storeN (cs' := [_, _, _, _, _, _, _, _, _, _, _, _]) (H' := (_ :: _ :: _)) 0 rfl rfl rfl rfl sizeOf2 rfl rfl rfl rfl rfl rfl rfl ?_
    refine j_nil (ej_blk (ej_then (hK67 _ _ _ (CJ.s [(0, _), (2, _), (207, _), (208, _), (209, _)] ⟨rfl, rfl, rfl, rfl, rfl, trivial⟩ (cj_reg (j_val rfl (fun _ _ h => r_inc (by omega) rfl rfl h) (jM rfl rfl (j_nil (ej_then ?_)))))))))
    exact fun w' hH hf => hKL (k3 + 1, T3b) _ w' ⟨hk', hP3.s3 hmbF (hG.fresh.2.2.2.1 _ (List.getElem_mem hkb)) hG.nmaps hbe hxe hst (Hp.keepX (l := [g.maps[k3], mb]) hH.2.2.2.2.2.2 hf) (hpa.trans hpb) ⟨⟨_, _, hH.obj (i := 1) rfl rfl, hMb⟩, hsb⟩ ⟨_, _, hH.get (i := 0) rfl rfl, At.mk hma hpb, At.mk hmb (List.prefix_refl _)⟩⟩ (by simp only; omega) ⟨rfl, rfl, rfl, rfl, rfl, trivial⟩
   ·have hke3 : k3 = x.mappings.length := by omega
    subst hke3
    clear hKL hk3 h210
    refine cj_exit (ej_then_exit (ej_then_exit (ej_blk_hit (ej_then (hK63 _ _ _ (CJ.s [(0, _), (2, _)] ⟨rfl, rfl, trivial⟩ (cj_seqF fun K70 hK70 => cj_seqF fun K71 hK71 => cj_reg (jM rfl rfl (jN rfl rfl (j_val rfl (fun _ _ h => r_fl (q := 4) (ft := 118) runUnderlying121 rfl sizeOf118 rfl h) (j_valw rfl (fun a w ha hH hf => r_load isAgg118 rfl (hc0 w (hf) 4 _ rfl) ha) (j_val rfl (fun _ _ h => r_len runUnderlying118 rfl h) (jM rfl rfl (j_nil (ej_then (hK71 _ _ _ (CJ.s [(0, _), (2, _), (235, _), (236, _), (237, _)] ⟨rfl, rfl, rfl, rfl, rfl, trivial⟩ ?_)))))))))))))))))
    refine cj_block ?_
    -- LOOP 10 live [0, 2, 235, 236, 237]
    intro v4 hH4' hf4'
    refine c_loop (σ := Nat × List ByteArray) (fun s => [(0, ptr g.pb), (2, .map (some mb)), (235, .slice p4 x.locs.length c4), (236, .int .i64 (x.locs.length : Nat)), (237, .int .i64 (s.1 : Nat))])
     (fun s w' => s.1 ≤ x.locs.length ∧ PS B w mb x g x.types.length x.samples.length x.mappings.length s.1 0 s.2 w') (fun s => x.locs.length - s.1) (0, T3) ⟨rfl, rfl, rfl, rfl, rfl, trivial⟩ ⟨Nat.zero_le _, hP3.keep hf4'⟩ ?_
    rintro ⟨k4, T4⟩ u4 ⟨hk4, hP4⟩ KL hKL
    have hk4 : k4 ≤ x.locs.length := hk4
    have hP4 : PS B w mb x g x.types.length x.samples.length x.mappings.length k4 0 T4 u4 := hP4
    have hc0 := mc (f := ⟨u4, 0, []⟩) (fr_row hP4.fr rfl _ _ hpb) rfl
    refine C.begin ⟨u4, 0, []⟩ [] ok_refl .nil ?_
    refine CJ.s [(0, ptr g.pb), (2, .map (some mb)), (235, .slice p4 x.locs.length c4), (236, .int .i64 (x.locs.length : Nat)), (237, .int .i64 (k4 : Nat))] ⟨rfl, rfl, rfl, rfl, rfl, trivial⟩ (cj_seqF fun K72 hK72 => cj_reg (j_val rfl (fun _ _ h => r_lss rfl rfl h) (j_nil (ej_then (hK72 _ _ _ (CJ.s [(0, _), (2, _), (235, _), (236, _), (237, _), (238, _)] ⟨rfl, rfl, rfl, rfl, rfl, rfl, trivial⟩ (cj_seqF fun K73 hK73 => ?_)))))))
    refine cj_dec rfl (fun h238 => ?_) (fun h238 => ?_)
    ·have hk' : k4 < x.locs.length := by omega
     obtain ⟨bq, rfl, hsq⟩ := hx4 (by omega)
     have hkb : k4 < g.locs.length := by rw [hG.locs.1]; exact hk'
     have hbe : g.locs[k4]? = some g.locs[k4] := List.getElem?_eq_getElem hkb
     have hxe : x.locs[k4]? = some x.locs[k4] := List.getElem?_eq_getElem hk'
     have hxm : x.locs[k4] ∈ x.locs := List.getElem_mem hk'
     obtain ⟨ls, hst, hos, hrowB⟩ := (hP4.pl _ _ _ hbe hxe).2 (Nat.le_refl _)
     have hos' := hos
     obtain ⟨y0, pv, lv, cv, rfl, hO0, hy0⟩ := hos
     have hll : (x.locs[k4].lines.flatMap (cLine g.funs)).length = x.locs[k4].lines.length * 3 := flatMap_len (sz := 3) (fun _ => rfl) _
     obtain rfl : lv = x.locs[k4].lines.length := by have := hO0.sl.1; omega
     obtain ⟨cs1, hcs1⟩ : ∃ cs1, y0.on = true → Blk u4 y0.b tLine cs1 ∧ LC (fidV x g) y0.cs cs1 := by
      by_cases hon : y0.on = true
      ·obtain ⟨cs1, h1, h2⟩ := hP4.lines _ _ (hy0 hon)
       exact ⟨cs1, fun _ => ⟨h1, h2⟩⟩
      ·exact ⟨[], fun h => absurd h hon⟩
     obtain ⟨qm, hqm⟩ : ∃ qm, ptrAt g.maps x.locs[k4].mapping = .pointer qm := ⟨_, rfl⟩
     have hLok := hx.tab.locs _ hxm
     have hl60 : x.locs[k4].lines.length ≤ 60 := hLok.2.1
     rw [cLoc, hqm] at hst
     have hcell := osCellW (k := k4) (v := ptr g.locs[k4]) (W1 := [tLoc, tLine]) hP4.fr rfl rfl hsq (by simp [hkb])
     refine CJ.turn (W := [tLoc, tLine]) (Hp.rowOff hst (fun h => (hcs1 h).1) (by decide) rfl rfl) ?_
     refine cj_skip (ej_then (hK73 _ _ _ (CJ.s [(0, _), (2, _), (235, _), (236, _), (237, _)] ⟨rfl, rfl, rfl, rfl, rfl, trivial⟩ (cj_seqF fun K74 hK74 => cj_block (cj_seqF fun K75 hK75 => cj_reg (j_val rfl (fun _ _ h => r_idx runUnderlying118 sizeOf128 rfl rfl (by omega) h) (j_valw rfl (fun a w ha hH hf => r_load isAgg128 rfl (hcell w (hf) 0 _ rfl) ha) (jA rfl rfl (j_nil (ej_then (hK75 _ _ _ (CJ.s [(0, _), (2, _), (26, _), (235, _), (236, _), (237, _)] ⟨rfl, rfl, rfl, rfl, rfl, rfl, trivial⟩ (cj_seqF fun K76 hK76 => cj_seqF fun K77 hK77 => ?_)))))))))))))
     refine cj_reg (jM rfl rfl (jN rfl rfl (j_val rfl (fun _ _ h => r_fl (q := 3) (ft := 129) runUnderlying131 rfl sizeOf129 rfl h) (j_valw rfl (fun a w ha hH hf => r_ldH 0 rfl rfl isAgg129 rfl rfl ha hH) (j_val rfl (fun _ _ h => r_len runUnderlying129 rfl h) (jM rfl rfl (j_nil (ej_then (hK77 _ _ _ (CJ.s [(0, _), (2, _), (26, _), (235, _), (236, _), (237, _), (244, _), (245, _), (246, _)] ⟨rfl, rfl, rfl, rfl, rfl, rfl, rfl, rfl, rfl, trivial⟩ (cj_block ?_)))))))))))
     -- LOOP 11 live [0, 2, 26, 235, 236, 237, 244, 245, 246]
     refine cj_loop (σ := Nat × List Value) (fun s => [(0, ptr g.pb), (2, .map (some mb)), (26, ptr g.locs[k4]), (235, .slice (some ⟨bq, 0, none⟩) x.locs.length c4), (236, .int .i64 (x.locs.length : Nat)), (237, .int .i64 (k4 : Nat)), (244, .slice pv x.locs[k4].lines.length cv), (245, .int .i64 (x.locs[k4].lines.length : Nat)), (246, .int .i64 (s.1 : Nat))])
      (fun s => ⟨g.locs[k4], tLoc, [.int .u64 x.locs[k4].id, .pointer qm, .int .u64 x.locs[k4].addr, .slice pv x.locs[k4].lines.length cv, .bool false, .int .u64 0], true, true, none⟩ :: ⟨y0.b, tLine, s.2, true, y0.on, none⟩ :: restH u4 (g.locs[k4] :: offL y0.on y0.b))
      (fun s _ => s.1 ≤ x.locs[k4].lines.length ∧ (y0.on = true → LC (fidV x g) y0.cs s.2 ∧ LS (fidV x g) y0.cs cs1 s.2) ∧ ∀ (j : Nat) n, j < s.1 → x.locs[k4].lines[j]? = some n → s.2[j * 3 + 2]? = some (.int .u64 (fnid x n.fn))) (fun s => x.locs[k4].lines.length - s.1)
      (0, cs1) ⟨rfl, rfl, rfl, rfl, rfl, rfl, rfl, rfl, rfl, trivial⟩ (fun w' hH hf => ⟨hH, Nat.zero_le _, fun h => ⟨(hcs1 h).2, LS.refl⟩, fun j n hj => by simp at hj⟩) ?_
     rintro ⟨i, csL⟩ wB ⟨hi, hLL, hdn⟩ hfB hHB KLQ hKLQ
     have hi : i ≤ x.locs[k4].lines.length := hi
     have hLL : y0.on = true → LC (fidV x g) y0.cs csL ∧ LS (fidV x g) y0.cs cs1 csL := hLL
     have hdn : ∀ (j : Nat) n, j < i → x.locs[k4].lines[j]? = some n → csL[j * 3 + 2]? = some (.int .u64 (fnid x n.fn)) := hdn
     refine C.begin _ (⟨g.locs[k4], tLoc, [.int .u64 x.locs[k4].id, .pointer qm, .int .u64 x.locs[k4].addr, .slice pv x.locs[k4].lines.length cv, .bool false, .int .u64 0], true, true, none⟩ :: ⟨y0.b, tLine, csL, true, y0.on, none⟩ :: restH u4 (g.locs[k4] :: offL y0.on y0.b)) hfB hHB ?_
     refine CJ.s [(0, ptr g.pb), (2, .map (some mb)), (26, ptr g.locs[k4]), (235, .slice (some ⟨bq, 0, none⟩) x.locs.length c4), (236, .int .i64 (x.locs.length : Nat)), (237, .int .i64 (k4 : Nat)), (244, .slice pv x.locs[k4].lines.length cv), (245, .int .i64 (x.locs[k4].lines.length : Nat)), (246, .int .i64 (i : Nat))] ⟨rfl, rfl, rfl, rfl, rfl, rfl, rfl, rfl, rfl, trivial⟩ (cj_seqF fun K78 hK78 => cj_reg (j_val rfl (fun _ _ h => r_lss rfl rfl h) (j_nil (ej_then (hK78 _ _ _ (CJ.s [(0, _), (2, _), (26, _), (235, _), (236, _), (237, _), (244, _), (245, _), (246, _), (247, _)] ⟨rfl, rfl, rfl, rfl, rfl, rfl, rfl, rfl, rfl, rfl, trivial⟩ (cj_seqF fun K79 hK79 => ?_)))))))
     refine cj_dec rfl (fun h247 => ?_) (fun h247 => ?_)
     ·have hi' : i < x.locs[k4].lines.length := by omega
      obtain ⟨hon, hpv⟩ := hO0.pos (by omega)
      subst hpv
      obtain ⟨hLc, hLs⟩ := hLL hon
      obtain ⟨ex, hex⟩ : ∃ ex, y0.cs = x.locs[k4].lines.flatMap (cLine g.funs) ++ ex := by
       obtain ⟨-, -, q⟩ := hO0.sl
       rcases q with ⟨-, -, ⟨ex, q⟩, -⟩ | ⟨q, -⟩
       ·exact ⟨ex, q⟩
       ·rw [hon] at q; cases q
      obtain ⟨z3, hz3⟩ := flat3 (hex ▸ hLc) hi'
      obtain ⟨qf, hqf⟩ : ∃ qf, ptrAt g.funs x.locs[k4].lines[i].fn = .pointer qf := ⟨_, rfl⟩
      rw [hqf] at hz3
      have hc0f : y0.cs[i * 3]? = some (.pointer qf) := by
       rw [hex, List.getElem?_append_left (by omega), cLine_at (List.getElem?_eq_getElem hi'), hqf]
      have hlen3 : i * 3 + 2 < csL.length := by rw [hLc.1, hex, List.length_append]; omega
      have hfn := hLok.2.2 _ (List.getElem_mem hi')
      have hfv : fidV x g (.pointer qf) = fnid x x.locs[k4].lines[i].fn := by rw [← hqf]; exact fidV_ptr hG.nfuns hG.funs.1 (by omega)
      refine cj_skip (ej_then (hK79 _ _ _ (CJ.s [(0, _), (2, _), (26, _), (235, _), (236, _), (237, _), (244, _), (245, _), (246, _)] ⟨rfl, rfl, rfl, rfl, rfl, rfl, rfl, rfl, rfl, trivial⟩ (cj_seqF fun K80 hK80 => cj_block (cj_seqF fun K81 hK81 => cj_reg (jM rfl rfl (j_val rfl (fun _ _ h => r_idx runUnderlying129 sizeOf133 rfl rfl (by omega) h) (j_valw rfl (fun a w ha hH hf => r_ldA (y := ⟨y0.b, tLine, csL, true, y0.on, none⟩) (vs := [.pointer qf, .int .i64 x.locs[k4].lines[i].line, .int .u64 z3]) 1 rfl hon isAgg133 sizeOf133 rfl hz3 rfl ha hH) ?_))))))))
      refine j_allocA (zs := [(.pointer none), (.int .i64 0), (.int .u64 0)]) zeroValue133 rfl fun b28 => ?_
      refine jA rfl rfl ?_
      refine j_storeN (cs' := [_, _, _]) (H' := (_ :: _ :: _ :: _)) 0 rfl rfl rfl rfl sizeOf133 rfl rfl rfl rfl rfl rfl rfl ?_
      refine j_nil (ej_then (hK81 _ _ _ (CJ.s [(0, _), (2, _), (26, _), (27, _), (28, _), (235, _), (236, _), (237, _), (244, _), (245, _), (246, _)] ⟨rfl, rfl, rfl, rfl, rfl, rfl, rfl, rfl, rfl, rfl, rfl, trivial⟩ (cj_seqF fun K82 hK82 => cj_reg (j_val rfl (fun _ _ h => r_fl (q := 0) (ft := 125) runUnderlying133 rfl sizeOf125 rfl h) (j_valw rfl (fun a w ha hH hf => r_ldH 0 rfl rfl isAgg125 rfl rfl ha hH) (j_val rfl (fun _ _ h => r_pnneq underlying125 rfl h) (j_nil (ej_then (hK82 _ _ _ (CJ.s [(0, _), (2, _), (26, _), (27, _), (28, _), (235, _), (236, _), (237, _), (244, _), (245, _), (246, _), (253, _)] ⟨rfl, rfl, rfl, rfl, rfl, rfl, rfl, rfl, rfl, rfl, rfl, rfl, trivial⟩ ?_)))))))))))
      refine cj_if rfl (fun h253 => ?_) (fun h253 => ?_)
      ·have hfn0 : 0 ≤ x.locs[k4].lines[i].fn := by
        rcases Int.lt_or_le x.locs[k4].lines[i].fn 0 with h | h
        ·rw [ptrAt_neg (by omega)] at hqf
         cases hqf; cases h253
        ·exact h
       have hfl : x.locs[k4].lines[i].fn.toNat < x.funcs.length := by omega
       have hfb : x.locs[k4].lines[i].fn.toNat < g.funs.length := by rw [hG.funs.1]; exact hfl
       have hqe : Value.pointer qf = ptr g.funs[x.locs[k4].lines[i].fn.toNat] := by rw [← hqf]; simp [ptrAt, hfn0, hfb]
       obtain rfl : qf = some ⟨g.funs[x.locs[k4].lines[i].fn.toNat], 0, none⟩ := by injection hqe
       have hfblk : Blk u4 _ tFun _ := (hP4.pf _ _ _ (List.getElem?_eq_getElem hfb) (List.getElem?_eq_getElem hfl)).2 (Nat.zero_le _)
       have hfc := mc (f := ⟨u4, 0, [tLoc, tLine]⟩) hfblk rfl
       have hid : x.funcs[x.locs[k4].lines[i].fn.toNat].id = fnid x x.locs[k4].lines[i].fn := by simp [fnid, idAt, hfn0, hfl, List.getD_eq_getElem?_getD]
       have hfinal : (csL.set (0 + i * 3 + 2) (.int .u64 x.funcs[x.locs[k4].lines[i].fn.toNat].id)) = csL.set (i * 3 + 2) (.int .u64 (fnid x x.locs[k4].lines[i].fn)) := by rw [Nat.zero_add, hid]
       refine cj_drawI 10 [(0, true), (1, true), (2, true), (3, true), (4, true), (5, true), (6, true), (7, true), (8, true), (9, true), (10, false), (11, false), (12, false)] [0, 1] rfl (by kernel_rfl) (by kernel_rfl) ?_
       refine dj_val rfl rfl (sub_of [0, 1] rfl) (fun _ _ h => r_move rfl h) (dj_val rfl rfl (sub_of [0, 1] rfl) (fun _ _ h => r_nil rfl h) (dj_val rfl rfl (sub_of [0, 1] rfl) (fun _ _ h => r_fl (q := 3) (ft := 129) runUnderlying131 rfl sizeOf129 rfl h) (dj_ld rfl rfl (sub_of [0, 1] rfl) (fun a w ha hS => r_ldS 1 rfl rfl isAgg129 rfl rfl ha hS) (dj_val rfl rfl (sub_of [0, 1] rfl) (fun _ _ h => r_move rfl h) (dj_val rfl rfl (sub_of [0, 1] rfl) (fun _ _ h => r_fl (q := 0) (ft := 125) runUnderlying133 rfl sizeOf125 rfl h) (dj_ld rfl rfl (sub_of [0, 1] rfl) (fun a w ha hS => r_ldS 0 rfl rfl isAgg125 rfl rfl ha hS) (dj_val rfl rfl (sub_of [0, 1] rfl) (fun _ _ h => r_nil rfl h) (dj_val rfl rfl (sub_of [0, 1] rfl) (fun _ _ h => r_fl (q := 0) (ft := 59) runUnderlying127 rfl sizeOf59 rfl h) (dj_ld rfl rfl (sub_of [0, 1] rfl) (fun a w ha hS => r_load isAgg59 rfl (hfc w (hS.2) 0 _ rfl) ha) (dj_eff rfl fun K2 hK2 => j_val rfl (fun _ _ h => r_idx runUnderlying129 sizeOf133 rfl rfl (by omega) h) (j_nil (ej_then (hK2 _ _ (.inl rfl) ?_))))))))))))); clear hK2 K2
       refine dj_eff rfl fun K2 hK2 => j_val rfl (fun _ _ h => r_fl (q := 2) (ft := 59) runUnderlying133 rfl sizeOf59 rfl h) (j_nil (ej_then (hK2 _ _ (.inl rfl) ?_))); clear hK2 K2
       refine dj_eff rfl fun K2 hK2 => ?_
       refine j_store (y := ⟨y0.b, tLine, csL, true, y0.on, none⟩) (o := 0 + i * 3 + 2) 2 rfl hon rfl rfl sizeOf59 rfl rfl rfl rfl (Nat.ble_eq_true_of_le (show 0 + i * 3 + 2 + 1 ≤ csL.length by omega)) ?_
       refine j_nil (ej_then (hK2 _ _ (.inl rfl) ?_)); clear hK2 K2
       refine dj_end (ej_blk (ej_then (hK80 _ _ _ (CJ.s [(0, _), (2, _), (26, _), (235, _), (236, _), (237, _), (244, _), (245, _), (246, _)] ⟨rfl, rfl, rfl, rfl, rfl, rfl, rfl, rfl, rfl, trivial⟩ (cj_reg (j_val rfl (fun _ _ h => r_inc (by omega) rfl rfl h) (jM rfl rfl (j_nil (ej_then ?_)))))))))
       have hset : ∀ (j : Nat) n, j < i + 1 → x.locs[k4].lines[j]? = some n → (csL.set (i * 3 + 2) (.int .u64 (fnid x x.locs[k4].lines[i].fn)))[j * 3 + 2]? = some (.int .u64 (fnid x n.fn)) := fun j n hj hn => by
        by_cases hji : j = i
        ·subst hji
         rw [List.getElem?_eq_getElem hi'] at hn
         cases hn
         rw [List.getElem?_set_self hlen3]
        ·rw [List.getElem?_set_ne (by omega)]
         exact hdn j n (by omega) hn
       have hLc2 := hLc.set hc0f (by rw [← hLc.1]; exact hlen3)
       have hLs2 := hLs.set hc0f hlen3
       rw [hfv] at hLc2 hLs2
       exact fun w' hH hf => hKLQ (i + 1, csL.set (i * 3 + 2) (.int .u64 (fnid x x.locs[k4].lines[i].fn))) _ w' ⟨hi', fun _ => ⟨hLc2, hLs2⟩, hset⟩ hf (by have h : Hp _ w' (⟨g.locs[k4], tLoc, [.int .u64 x.locs[k4].id, .pointer qm, .int .u64 x.locs[k4].addr, .slice (some ⟨y0.b, 0, none⟩) x.locs[k4].lines.length cv, .bool false, .int .u64 0], true, true, none⟩ :: ⟨y0.b, tLine, csL.set (0 + i * 3 + 2) _, true, y0.on, none⟩ :: restH u4 (g.locs[k4] :: offL y0.on y0.b)) := hH.drop 0; rw [hfinal] at h; exact h) (by simp only; omega) ⟨rfl, rfl, rfl, rfl, rfl, rfl, rfl, rfl, rfl, trivial⟩
      ·have hid : (0 : Int) = fidV x g (.pointer qf) := by
        cases qf with
        | none => rfl
        | some a => cases h253
       have hfinal : (csL.set (0 + i * 3 + 2) (.int .u64 0)) = csL.set (i * 3 + 2) (.int .u64 (fnid x x.locs[k4].lines[i].fn)) := by rw [Nat.zero_add, hid, hfv]
       refine cj_reg (jM rfl rfl (jN rfl rfl (j_val rfl (fun _ _ h => r_fl (q := 3) (ft := 129) runUnderlying131 rfl sizeOf129 rfl h) (j_valw rfl (fun a w ha hH hf => r_ldH 1 rfl rfl isAgg129 rfl rfl ha hH) (jM rfl rfl (j_val rfl (fun _ _ h => r_idx runUnderlying129 sizeOf133 rfl rfl (by omega) h) (j_val rfl (fun _ _ h => r_fl (q := 2) (ft := 59) runUnderlying133 rfl sizeOf59 rfl h) ?_)))))))
       refine j_store (y := ⟨y0.b, tLine, csL, true, y0.on, none⟩) (o := 0 + i * 3 + 2) 2 rfl hon rfl rfl sizeOf59 rfl rfl rfl rfl (Nat.ble_eq_true_of_le (show 0 + i * 3 + 2 + 1 ≤ csL.length by omega)) ?_
       refine j_nil (ej_blk (ej_then (hK80 _ _ _ (CJ.s [(0, _), (2, _), (26, _), (235, _), (236, _), (237, _), (244, _), (245, _), (246, _)] ⟨rfl, rfl, rfl, rfl, rfl, rfl, rfl, rfl, rfl, trivial⟩ (cj_reg (j_val rfl (fun _ _ h => r_inc (by omega) rfl rfl h) (jM rfl rfl (j_nil (ej_then ?_)))))))))
       have hset : ∀ (j : Nat) n, j < i + 1 → x.locs[k4].lines[j]? = some n → (csL.set (i * 3 + 2) (.int .u64 (fnid x x.locs[k4].lines[i].fn)))[j * 3 + 2]? = some (.int .u64 (fnid x n.fn)) := fun j n hj hn => by
        by_cases hji : j = i
        ·subst hji
         rw [List.getElem?_eq_getElem hi'] at hn
         cases hn
         rw [List.getElem?_set_self hlen3]
        ·rw [List.getElem?_set_ne (by omega)]
         exact hdn j n (by omega) hn
       have hLc2 := hLc.set hc0f (by rw [← hLc.1]; exact hlen3)
       have hLs2 := hLs.set hc0f hlen3
       rw [hfv] at hLc2 hLs2
       exact fun w' hH hf => hKLQ (i + 1, csL.set (i * 3 + 2) (.int .u64 (fnid x x.locs[k4].lines[i].fn))) _ w' ⟨hi', fun _ => ⟨hLc2, hLs2⟩, hset⟩ hf (by have h : Hp _ w' (⟨g.locs[k4], tLoc, [.int .u64 x.locs[k4].id, .pointer qm, .int .u64 x.locs[k4].addr, .slice (some ⟨y0.b, 0, none⟩) x.locs[k4].lines.length cv, .bool false, .int .u64 0], true, true, none⟩ :: ⟨y0.b, tLine, csL.set (0 + i * 3 + 2) _, true, y0.on, none⟩ :: restH u4 (g.locs[k4] :: offL y0.on y0.b)) := hH.drop 0; rw [hfinal] at h; exact h) (by simp only; omega) ⟨rfl, rfl, rfl, rfl, rfl, rfl, rfl, rfl, rfl, trivial⟩
     ·have hie : i = x.locs[k4].lines.length := by omega
      have hmp0 := hLok.1
      refine cj_exit (ej_then_exit (ej_then_exit (ej_blk_hit (ej_then (hK76 _ _ _ (CJ.s [(0, _), (2, _), (26, _), (235, _), (236, _), (237, _)] ⟨rfl, rfl, rfl, rfl, rfl, rfl, trivial⟩ (cj_seqF fun K83 hK83 => cj_reg (jM rfl rfl (jN rfl rfl (j_val rfl (fun _ _ h => r_fl (q := 1) (ft := 122) runUnderlying131 rfl sizeOf122 rfl h) (j_valw rfl (fun a w ha hH hf => r_ldH 0 rfl rfl isAgg122 rfl rfl ha hH) (j_val rfl (fun _ _ h => r_pnneq underlying122 rfl h) (j_nil (ej_then (hK83 _ _ _ (CJ.s [(0, _), (2, _), (26, _), (235, _), (236, _), (237, _), (278, _)] ⟨rfl, rfl, rfl, rfl, rfl, rfl, rfl, trivial⟩ ?_))))))))))))))))
      refine cj_if rfl (fun h278 => ?_) (fun h278 => ?_)
      ·have hm0 : 0 ≤ x.locs[k4].mapping := by
        rcases Int.lt_or_le x.locs[k4].mapping 0 with h | h
        ·rw [ptrAt_neg (by omega)] at hqm
         cases hqm; cases h278
        ·exact h
       have hml : x.locs[k4].mapping.toNat < x.mappings.length := by omega
       have hmbk : x.locs[k4].mapping.toNat < g.maps.length := by rw [hG.maps.1]; exact hml
       have hqe : Value.pointer qm = ptr g.maps[x.locs[k4].mapping.toNat] := by rw [← hqm]; simp [ptrAt, hm0, hmbk]
       obtain rfl : qm = some ⟨g.maps[x.locs[k4].mapping.toNat], 0, none⟩ := by injection hqe
       obtain ⟨mn, mk, hmblk, -, -⟩ := (hP4.pm _ _ _ (List.getElem?_eq_getElem hmbk) (List.getElem?_eq_getElem hml)).1 hml
       have hmc := mc (f := ⟨u4, 0, [tLoc, tLine]⟩) hmblk rfl
       have hmid : x.mappings[x.locs[k4].mapping.toNat].id = mid x x.locs[k4].mapping := by simp [mid, idAt, hm0, hml, List.getD_eq_getElem?_getD]
       refine cj_reg (jM rfl rfl (jM rfl rfl (jN rfl rfl (j_val rfl (fun _ _ h => r_fl (q := 1) (ft := 122) runUnderlying131 rfl sizeOf122 rfl h) (j_valw rfl (fun a w ha hH hf => r_ldH 0 rfl rfl isAgg122 rfl rfl ha hH) (jN rfl rfl (j_val rfl (fun _ _ h => r_fl (q := 0) (ft := 59) runUnderlying124 rfl sizeOf59 rfl h) (j_valw rfl (fun a w ha hH hf => r_load isAgg59 rfl (hmc w (hf) 0 _ rfl) ha) (jN rfl rfl (j_val rfl (fun _ _ h => r_fl (q := 5) (ft := 59) runUnderlying131 rfl sizeOf59 rfl h) ?_))))))))))
       refine j_storeN (cs' := [_, _, _, _, _, _]) (H' := (_ :: _ :: _)) 0 rfl rfl rfl rfl sizeOf59 rfl rfl rfl rfl rfl rfl rfl ?_
       refine j_nil (ej_blk (ej_then (hK74 _ _ _ (CJ.s [(0, _), (2, _), (235, _), (236, _), (237, _)] ⟨rfl, rfl, rfl, rfl, rfl, trivial⟩ (cj_reg (j_val rfl (fun _ _ h => r_inc (by omega) rfl rfl h) (jM rfl rfl (j_nil (ej_then ?_)))))))))
       exact fun w' hH hf => by
        have hkx := Hp.keepX (l := g.locs[k4] :: offL y0.on y0.b) hH.2.2.2.2.2.2 hf
        have hrs := row_step hP4.lines hst hkx hy0 (fun h => (hcs1 h).1) (csF := csL) (fun h => ⟨hH.get (i := 1) rfl h, hLL h⟩)
        have hbF := hH.get (i := 0) rfl rfl
        simp only [hmid] at hbF
        refine hKL (k4 + 1, T4) _ w' ⟨hk', hP4.s4 (fun c hc => ?_) hG.nlocs hbe hxe hst hkx (fun c hc => ?_) ?_ hrs.1 hrs.2 ⟨_, by rw [hqm]; exact hbF, hos', ?_⟩⟩ (by simp only; omega) ⟨rfl, rfl, rfl, rfl, rfl, trivial⟩
        ·rcases List.mem_cons.1 hc with rfl | hc
         ·exact hG.fresh.2.2.2.2.2.1 _ (List.getElem_mem hkb)
         ·unfold offL at hc
          split at hc
          ·rename_i hon
           simp at hc
           subst hc
           rcases hO0.sl.2.2 with ⟨-, q, -⟩ | ⟨q, -⟩
           ·exact hrowB y0.b _ cv (by rw [q])
           ·rw [hon] at q; cases q
          ·cases hc
        ·rcases List.mem_cons.1 hc with hc | hc
         ·exact .inl hc
         ·unfold offL at hc
          split at hc
          ·rename_i hon
           simp at hc
           subst hc
           exact .inr ⟨_, (hcs1 hon).1⟩
          ·cases hc
        ·exact fun l hl n hn => fidV_ptr hG.nfuns hG.funs.1 (by have := (hx.tab.locs _ hl).2.2 _ hn; omega)
        ·intro p l c rb e1 e2 j n hn
         cases e1
         have hlt := (List.getElem?_eq_some_iff.1 hn).1
         obtain ⟨hon, hpv⟩ := hO0.pos (by omega)
         rw [e2] at hpv
         cases hpv
         have hbl := hH.get (i := 1) rfl hon
         rw [hbl.cell]
         exact hdn j n (by omega) hn
      ·have hmid : (0 : Int) = mid x x.locs[k4].mapping := by
        cases qm with
        | none =>
         have : ¬ 0 ≤ x.locs[k4].mapping := fun h => by
          rw [ptrAt, if_pos h, List.getElem?_eq_getElem (by rw [hG.maps.1]; omega)] at hqm
          cases hqm
         simp [mid, idAt, this]
        | some a => cases h278
       refine cj_reg (jM rfl rfl (jN rfl rfl (j_val rfl (fun _ _ h => r_fl (q := 5) (ft := 59) runUnderlying131 rfl sizeOf59 rfl h) ?_)))
       refine j_storeN (cs' := [_, _, _, _, _, _]) (H' := (_ :: _ :: _)) 0 rfl rfl rfl rfl sizeOf59 rfl rfl rfl rfl rfl rfl rfl ?_
       refine j_nil (ej_blk (ej_then (hK74 _ _ _ (CJ.s [(0, _), (2, _), (235, _), (236, _), (237, _)] ⟨rfl, rfl, rfl, rfl, rfl, trivial⟩ (cj_reg (j_val rfl (fun _ _ h => r_inc (by omega) rfl rfl h) (jM rfl rfl (j_nil (ej_then ?_)))))))))
       exact fun w' hH hf => by
        have hkx := Hp.keepX (l := g.locs[k4] :: offL y0.on y0.b) hH.2.2.2.2.2.2 hf
        have hrs := row_step hP4.lines hst hkx hy0 (fun h => (hcs1 h).1) (csF := csL) (fun h => ⟨hH.get (i := 1) rfl h, hLL h⟩)
        have hbF := hH.get (i := 0) rfl rfl
        simp only [hmid] at hbF
        refine hKL (k4 + 1, T4) _ w' ⟨hk', hP4.s4 (fun c hc => ?_) hG.nlocs hbe hxe hst hkx (fun c hc => ?_) ?_ hrs.1 hrs.2 ⟨_, by rw [hqm]; exact hbF, hos', ?_⟩⟩ (by simp only; omega) ⟨rfl, rfl, rfl, rfl, rfl, trivial⟩
        ·rcases List.mem_cons.1 hc with rfl | hc
         ·exact hG.fresh.2.2.2.2.2.1 _ (List.getElem_mem hkb)
         ·unfold offL at hc
          split at hc
          ·rename_i hon
           simp at hc
           subst hc
           rcases hO0.sl.2.2 with ⟨-, q, -⟩ | ⟨q, -⟩
           ·exact hrowB y0.b _ cv (by rw [q])
           ·rw [hon] at q; cases q
          ·cases hc
        ·rcases List.mem_cons.1 hc with hc | hc
         ·exact .inl hc
         ·unfold offL at hc
          split at hc
          ·rename_i hon
           simp at hc
           subst hc
           exact .inr ⟨_, (hcs1 hon).1⟩
          ·cases hc
        ·exact fun l hl n hn => fidV_ptr hG.nfuns hG.funs.1 (by have := (hx.tab.locs _ hl).2.2 _ hn; omega)
        ·intro p l c rb e1 e2 j n hn
         cases e1
         have hlt := (List.getElem?_eq_some_iff.1 hn).1
         obtain ⟨hon, hpv⟩ := hO0.pos (by omega)
         rw [e2] at hpv
         cases hpv
         have hbl := hH.get (i := 1) rfl hon
         rw [hbl.cell]
         exact hdn j n (by omega) hn
    ·have hke4 : k4 = x.locs.length := by omega
     subst hke4
     clear hKL hk4 h238
     refine cj_exit (ej_then_exit (ej_then_exit (ej_blk_hit (ej_then (hK70 _ _ _ (CJ.s [(0, _), (2, _)] ⟨rfl, rfl, trivial⟩ (cj_seqF fun K84 hK84 => cj_seqF fun K85 hK85 => cj_reg (jM rfl rfl (jN rfl rfl (j_val rfl (fun _ _ h => r_fl (q := 5) (ft := 119) runUnderlying121 rfl sizeOf119 rfl h) (j_valw rfl (fun a w ha hH hf => r_load isAgg119 rfl (hc0 w (hf) 5 _ rfl) ha) (j_val rfl (fun _ _ h => r_len runUnderlying119 rfl h) (jM rfl rfl (j_nil (ej_then (hK85 _ _ _ (CJ.s [(0, _), (2, _), (296, _), (297, _), (298, _)] ⟨rfl, rfl, rfl, rfl, rfl, trivial⟩ ?_)))))))))))))))))
     refine cj_block ?_
     -- LOOP 12 live [0, 2, 296, 297, 298]
     intro v5 hH5' hf5'
     refine c_loop (σ := Nat × List ByteArray) (fun s => [(0, ptr g.pb), (2, .map (some mb)), (296, .slice p5 x.funcs.length c5), (297, .int .i64 (x.funcs.length : Nat)), (298, .int .i64 (s.1 : Nat))])
      (fun s w' => s.1 ≤ x.funcs.length ∧ PS B w mb x g x.types.length x.samples.length x.mappings.length x.locs.length s.1 s.2 w') (fun s => x.funcs.length - s.1) (0, T4) ⟨rfl, rfl, rfl, rfl, rfl, trivial⟩ ⟨Nat.zero_le _, hP4.keep hf5'⟩ ?_
     rintro ⟨k5, T5⟩ u5 ⟨hk5, hP5⟩ KL hKL
     have hk5 : k5 ≤ x.funcs.length := hk5
     have hP5 : PS B w mb x g x.types.length x.samples.length x.mappings.length x.locs.length k5 T5 u5 := hP5
     have hc0 := mc (f := ⟨u5, 0, []⟩) (fr_row hP5.fr rfl _ _ hpb) rfl
     refine C.begin ⟨u5, 0, []⟩ [] ok_refl .nil ?_
     refine CJ.s [(0, ptr g.pb), (2, .map (some mb)), (296, .slice p5 x.funcs.length c5), (297, .int .i64 (x.funcs.length : Nat)), (298, .int .i64 (k5 : Nat))] ⟨rfl, rfl, rfl, rfl, rfl, trivial⟩ (cj_seqF fun K86 hK86 => cj_reg (j_val rfl (fun _ _ h => r_lss rfl rfl h) (j_nil (ej_then (hK86 _ _ _ (CJ.s [(0, _), (2, _), (296, _), (297, _), (298, _), (299, _)] ⟨rfl, rfl, rfl, rfl, rfl, rfl, trivial⟩ (cj_seqF fun K87 hK87 => ?_)))))))
     refine cj_dec rfl (fun h299 => ?_) (fun h299 => ?_)
     ·have hk' : k5 < x.funcs.length := by omega
      obtain ⟨bq, rfl, hsq⟩ := hx5 (by omega)
      have hkb : k5 < g.funs.length := by rw [hG.funs.1]; exact hk'
      have hbe : g.funs[k5]? = some g.funs[k5] := List.getElem?_eq_getElem hkb
      have hxe : x.funcs[k5]? = some x.funcs[k5] := List.getElem?_eq_getElem hk'
      have hxm : x.funcs[k5] ∈ x.funcs := List.getElem_mem hk'
      have hst : Blk u5 g.funs[k5] tFun _ := (hP5.pf _ _ _ hbe hxe).2 (Nat.le_refl _)
      obtain ⟨es, ck, hmap, hM⟩ := hP5.tab.ex
      have hcell := osCellW (k := k5) (v := ptr g.funs[k5]) (W1 := [tFun, 1000000]) hP5.fr rfl rfl hsq (by simp [hkb])
      refine CJ.turn (W := [tFun, 1000000]) (Hp.rowMap hst hmap rfl rfl) ?_
      refine cj_skip (ej_then (hK87 _ _ _ (CJ.s [(0, _), (2, _), (296, _), (297, _), (298, _)] ⟨rfl, rfl, rfl, rfl, rfl, trivial⟩ (cj_seqF fun K88 hK88 => cj_block (cj_seqF fun K89 hK89 => cj_reg (j_val rfl (fun _ _ h => r_idx runUnderlying119 sizeOf125 rfl rfl (by omega) h) (j_valw rfl (fun a w ha hH hf => r_load isAgg125 rfl (hcell w (hf) 0 _ rfl) ha) (jA rfl rfl (j_nil (ej_then (hK89 _ _ _ (CJ.s [(0, _), (2, _), (30, _), (296, _), (297, _), (298, _)] ⟨rfl, rfl, rfl, rfl, rfl, rfl, trivial⟩ (cj_seqF fun K90 hK90 => cj_reg ?_)))))))))))))
      refine jM rfl rfl (jM rfl rfl (jM rfl rfl (jN rfl rfl (j_val rfl (fun _ _ h => r_fl (q := 1) (ft := 9) runUnderlying127 rfl sizeOf9 rfl h) (j_valw rfl (fun a w ha hH hf => r_ldH 0 rfl rfl isAgg9 rfl rfl ha hH) ?_)))))
      refine j_callA 1 rfl hM hP5.tab.sub (allS_f hxm (by simp)) hS2 rfl rfl fun T5a m5a esa cka hma hpa hsa hMa => ?_
      refine jN rfl rfl (j_val rfl (fun _ _ h => r_fl (q := 5) (ft := 2) runUnderlying127 rfl sizeOf2 rfl h) ?_)
      refine j_storeN (cs' := [_, _, _, _, _, _, _, _]) (H' := (_ :: _ :: _)) 0 rfl rfl rfl rfl sizeOf2 rfl rfl rfl rfl rfl rfl rfl ?_
      refine j_nil (ej_then (hK90 _ _ _ (CJ.s [(0, _), (2, _), (30, _), (296, _), (297, _), (298, _)] ⟨rfl, rfl, rfl, rfl, rfl, rfl, trivial⟩ (cj_seqF fun K91 hK91 => cj_reg (jM rfl rfl (jM rfl rfl (jM rfl rfl (jN rfl rfl (j_val rfl (fun _ _ h => r_fl (q := 2) (ft := 9) runUnderlying127 rfl sizeOf9 rfl h) (j_valw rfl (fun a w ha hH hf => r_ldH 0 rfl rfl isAgg9 rfl rfl ha hH) ?_))))))))))
      refine j_callA 1 rfl hMa hsa (allS_f hxm (by simp)) hS2 rfl rfl fun T5b m5b esb ckb hmb hpb hsb hMb => ?_
      refine jN rfl rfl (j_val rfl (fun _ _ h => r_fl (q := 6) (ft := 2) runUnderlying127 rfl sizeOf2 rfl h) ?_)
      refine j_storeN (cs' := [_, _, _, _, _, _, _, _]) (H' := (_ :: _ :: _)) 0 rfl rfl rfl rfl sizeOf2 rfl rfl rfl rfl rfl rfl rfl ?_
      refine j_nil (ej_then (hK91 _ _ _ (CJ.s [(0, _), (2, _), (30, _), (296, _), (297, _), (298, _)] ⟨rfl, rfl, rfl, rfl, rfl, rfl, trivial⟩ (cj_reg (jM rfl rfl (jM rfl rfl (jM rfl rfl (jN rfl rfl (j_val rfl (fun _ _ h => r_fl (q := 3) (ft := 9) runUnderlying127 rfl sizeOf9 rfl h) (j_valw rfl (fun a w ha hH hf => r_ldH 0 rfl rfl isAgg9 rfl rfl ha hH) ?_))))))))))
      refine j_callA 1 rfl hMb hsb (allS_f hxm (by simp)) hS2 rfl rfl fun T5c m5c esc ckc hmc hpc hsc hMc => ?_
      refine jN rfl rfl (j_val rfl (fun _ _ h => r_fl (q := 7) (ft := 2) runUnderlying127 rfl sizeOf2 rfl h) ?_)
      refine j_storeN (cs' := [_, _, _, _, _, _, _, _]) (H' := (_ :: _ :: _)) 0 rfl rfl rfl rfl sizeOf2 rfl rfl rfl rfl rfl rfl rfl ?_
      refine j_nil (ej_blk (ej_then (hK88 _ _ _ (CJ.s [(0, _), (2, _), (296, _), (297, _), (298, _)] ⟨rfl, rfl, rfl, rfl, rfl, trivial⟩ (cj_reg (j_val rfl (fun _ _ h => r_inc (by omega) rfl rfl h) (jM rfl rfl (j_nil (ej_then ?_)))))))))
      exact fun w' hH hf => hKL (k5 + 1, T5c) _ w' ⟨hk', hP5.s5 hmbF (hG.fresh.2.2.2.2.1 _ (List.getElem_mem hkb)) hG.nfuns hbe hxe hst (Hp.keepX (l := [g.funs[k5], mb]) hH.2.2.2.2.2.2 hf) ((hpa.trans hpb).trans hpc) ⟨⟨_, _, hH.obj (i := 1) rfl rfl, hMc⟩, hsc⟩ ⟨_, _, _, hH.get (i := 0) rfl rfl, At.mk hma (hpb.trans hpc), At.mk hmb hpc, At.mk hmc (List.prefix_refl _)⟩⟩ (by simp only; omega) ⟨rfl, rfl, rfl, rfl, rfl, trivial⟩
     ·have hke5 : k5 = x.funcs.length := by omega
      subst hke5
      clear hKL hk5 h299
      obtain ⟨es, ck, hmap, hM⟩ := hP5.tab.ex
      have hT0 := hP5.tab.sub
      have hpb5 := fr_row hP5.fr rfl _ _ hpb
      unfold cProf at hpb5
      refine CJ.turn (W := [tProf, tVT, 1000000]) (Hp.rowRowMap hpb5 hP5.per (by decide) hmap rfl rfl rfl) ?_
      refine cj_exit (ej_then_exit (ej_then_exit (ej_blk_hit (ej_then (hK84 _ _ _ (CJ.s [(0, _), (2, _)] ⟨rfl, rfl, trivial⟩ (cj_seqF fun K92 hK92 => cj_reg (jM rfl rfl (jM rfl rfl (jM rfl rfl (jN rfl rfl (j_val rfl (fun _ _ h => r_fl (q := 7) (ft := 9) runUnderlying121 rfl sizeOf9 rfl h) (j_valw rfl (fun a w ha hH hf => r_ldH 0 rfl rfl isAgg9 rfl rfl ha hH) ?_)))))))))))))
      refine j_callA 2 rfl hM hT0 (by simp [allS]) hS2 rfl rfl fun Ta na esa cka qma hpa hta hMa => ?_
      refine jN rfl rfl (j_val rfl (fun _ _ h => r_fl (q := 14) (ft := 2) runUnderlying121 rfl sizeOf2 rfl h) ?_)
      refine j_storeN (cs' := [_, _, _, _, _, _, _, _, _, _, _, _, _, _, _, _, _, _]) (H' := (_ :: _ :: _ :: _)) 0 rfl rfl rfl rfl sizeOf2 rfl rfl rfl rfl rfl rfl rfl ?_
      refine j_nil (ej_then (hK92 _ _ _ (CJ.s [(0, _), (2, _)] ⟨rfl, rfl, trivial⟩ (cj_seqF fun K93 hK93 => cj_reg (jM rfl rfl (jM rfl rfl (jM rfl rfl (jN rfl rfl (j_val rfl (fun _ _ h => r_fl (q := 8) (ft := 9) runUnderlying121 rfl sizeOf9 rfl h) (j_valw rfl (fun a w ha hH hf => r_ldH 0 rfl rfl isAgg9 rfl rfl ha hH) ?_))))))))))
      refine j_callA 2 rfl hMa hta (by simp [allS]) hS2 rfl rfl fun Tb nb esb ckb qmb hpb' htb hMb => ?_
      refine jN rfl rfl (j_val rfl (fun _ _ h => r_fl (q := 15) (ft := 2) runUnderlying121 rfl sizeOf2 rfl h) ?_)
      refine j_storeN (cs' := [_, _, _, _, _, _, _, _, _, _, _, _, _, _, _, _, _, _]) (H' := (_ :: _ :: _ :: _)) 0 rfl rfl rfl rfl sizeOf2 rfl rfl rfl rfl rfl rfl rfl ?_
      refine j_nil (ej_then (hK93 _ _ _ (CJ.s [(0, _), (2, _)] ⟨rfl, rfl, trivial⟩ (cj_seqF fun K94 hK94 => cj_seqF fun K95 hK95 => cj_reg (jM rfl rfl (jN rfl rfl (j_val rfl (fun _ _ h => r_fl (q := 11) (ft := 113) runUnderlying121 rfl sizeOf113 rfl h) (j_valw rfl (fun a w ha hH hf => r_ldH 0 rfl rfl isAgg113 rfl rfl ha hH) (jA rfl rfl (j_nil (ej_then (hK95 _ _ _ (CJ.s [(0, _), (2, _), (31, _)] ⟨rfl, rfl, rfl, trivial⟩ ?_)))))))))))))
      refine cj_seqF fun K96 hK96 => cj_reg (jM rfl rfl (j_val rfl (fun _ _ h => r_pnneq underlying113 rfl h) ?_))
      refine j_eqv (u := .bool true) rfl ?_
      refine j_nil (ej_then (hK96 _ _ _ (CJ.s [(0, _), (2, _), (31, _), (353, _)] ⟨rfl, rfl, rfl, rfl, trivial⟩ ?_)))
      refine cj_if_t rfl ?_
      refine cj_seqF fun K97 hK97 => cj_reg (jM rfl rfl (jM rfl rfl (jM rfl rfl (jN rfl rfl (j_val rfl (fun _ _ h => r_fl (q := 0) (ft := 9) runUnderlying159 rfl sizeOf9 rfl h) (j_valw rfl (fun a w ha hH hf => r_ldH 1 rfl rfl isAgg9 rfl rfl ha hH) ?_))))))
      refine j_callA 2 rfl hMb htb (by simp [allS]) hS2 rfl rfl fun Tc nc esc ckc qmc hpc htc hMc => ?_
      refine jN rfl rfl (j_val rfl (fun _ _ h => r_fl (q := 2) (ft := 2) runUnderlying159 rfl sizeOf2 rfl h) ?_)
      refine j_storeN (cs' := [_, _, _, _]) (H' := (_ :: _ :: _ :: _)) 1 rfl rfl rfl rfl sizeOf2 rfl rfl rfl rfl rfl rfl rfl ?_
      refine j_nil (ej_then (hK97 _ _ _ (CJ.s [(0, _), (2, _), (31, _)] ⟨rfl, rfl, rfl, trivial⟩ (cj_reg (jM rfl rfl (jM rfl rfl (jM rfl rfl (jN rfl rfl (j_val rfl (fun _ _ h => r_fl (q := 1) (ft := 9) runUnderlying159 rfl sizeOf9 rfl h) (j_valw rfl (fun a w ha hH hf => r_ldH 1 rfl rfl isAgg9 rfl rfl ha hH) ?_))))))))))
      refine j_callA 2 rfl hMc htc (by simp [allS]) hS2 rfl rfl fun Td nd esd ckd qmd hpd htd hMd => ?_
      refine jN rfl rfl (j_val rfl (fun _ _ h => r_fl (q := 3) (ft := 2) runUnderlying159 rfl sizeOf2 rfl h) ?_)
      refine j_storeN (cs' := [_, _, _, _]) (H' := (_ :: _ :: _ :: _)) 1 rfl rfl rfl rfl sizeOf2 rfl rfl rfl rfl rfl rfl rfl ?_
      refine j_nil (ej_then (hK94 _ _ _ (CJ.s [(0, _), (2, _)] ⟨rfl, rfl, trivial⟩ (cj_seqF fun K98 hK98 => cj_reg (jM rfl rfl (jM rfl rfl ?_))))))
      have hnd : Td.Nodup := by have h := hMd.keys; rwa [tabM_keys] at h
      have htdl : Td.length ≤ 100000000 := Nat.le_trans (nodup_lenB hnd htd) hS
      have hedl : esd.length = Td.length := by have := hMd.length; simpa [tabM] using this
      refine j_valw rfl (fun a w ha hH hf => r_mlen 2 rfl runUnderlying160 rfl ha hH) ?_
      refine j_make (l := esd.length) runUnderlying27 el9 rfl rfl rfl (Nat.le_refl _) (by omega) rfl fun bR csR hcsR _ => ?_
      refine jN rfl rfl (j_val rfl (fun _ _ h => r_fl (q := 16) (ft := 27) runUnderlying121 rfl sizeOf27 rfl h) ?_)
      refine j_storeN (cs' := [_, _, _, _, _, _, _, _, _, _, _, _, _, _, _, _, _, _]) (H' := (_ :: _ :: _ :: _ :: _)) 1 rfl rfl rfl rfl sizeOf27 rfl rfl rfl rfl rfl rfl rfl ?_
      refine j_nil (ej_then (hK98 _ _ _ (CJ.s [(0, _), (2, _)] ⟨rfl, rfl, trivial⟩ (cj_seqF fun K99 hK99 => cj_reg (jM rfl rfl ?_)))))
      refine j_range 3 rfl runUnderlying160 rfl rfl fun it3 => ?_
      refine j_nil (ej_then (hK99 _ _ _ (CJ.s [(0, _), (379, _)] ⟨rfl, rfl, trivial⟩ (cj_block ?_))))
      -- LOOP 13 live [0, 379]
      refine cj_loop (σ := List Nat × List MapEntry × List Value) (fun s => [(0, ptr g.pb), (379, ptr it3)])
       (fun s => itE it3 mb ckd s.1 ckd :: ⟨bR, tStr, s.2.2, true, true, none⟩ :: ⟨g.pb, tProf, [.slice p1 x.types.length c1, .string x.deflt, .slice p2 x.samples.length c2, .slice p3 x.mappings.length c3, .slice p4 x.locs.length c4, .slice p5 x.funcs.length c5, cov, .string x.drop, .string x.keep, .int .i64 x.time, .int .i64 x.dur, ptr g.per, .int .i64 x.period, .slice none 0 0, .int .i64 (na : Nat), .int .i64 (nb : Nat), .slice (some ⟨bR, 0, none⟩) esd.length esd.length, .int .i64 0], true, true, none⟩ :: ⟨g.per, tVT, [.string x.per.ty, .string x.per.unit, .int .i64 (nc : Nat), .int .i64 (nd : Nat)], true, true, none⟩ :: mpE mb esd ckd :: restH u5 [g.pb, g.per, mb])
       (fun s _ => Vis esd s.2.1 s.1 ∧ s.2.2.length = esd.length ∧ ∀ xe ∈ s.2.1, ∀ (t : ByteArray) (i : Nat), xe.key = .string t → xe.val = .int .i64 (i : Nat) → s.2.2[i]? = some (.string t)) (fun s => esd.length - s.1.length)
       ([], [], csR) ⟨rfl, rfl, trivial⟩ (fun w' hH hf => ⟨hH, Vis.nil, by simp only; omega, by simp⟩) ?_
      rintro ⟨seen, xs, cs⟩ wZ ⟨hV, hcl, hcv⟩ hfZ hHZ KLZ hKLZ
      have hV : Vis esd xs seen := hV
      have hcl : cs.length = esd.length := hcl
      have hcv : ∀ xe ∈ xs, ∀ (t : ByteArray) (i : Nat), xe.key = .string t → xe.val = .int .i64 (i : Nat) → cs[i]? = some (.string t) := hcv
      refine C.begin _ (itE it3 mb ckd seen ckd :: ⟨bR, tStr, cs, true, true, none⟩ :: ⟨g.pb, tProf, [.slice p1 x.types.length c1, .string x.deflt, .slice p2 x.samples.length c2, .slice p3 x.mappings.length c3, .slice p4 x.locs.length c4, .slice p5 x.funcs.length c5, cov, .string x.drop, .string x.keep, .int .i64 x.time, .int .i64 x.dur, ptr g.per, .int .i64 x.period, .slice none 0 0, .int .i64 (na : Nat), .int .i64 (nb : Nat), .slice (some ⟨bR, 0, none⟩) esd.length esd.length, .int .i64 0], true, true, none⟩ :: ⟨g.per, tVT, [.string x.per.ty, .string x.per.unit, .int .i64 (nc : Nat), .int .i64 (nd : Nat)], true, true, none⟩ :: mpE mb esd ckd :: restH u5 [g.pb, g.per, mb]) hfZ hHZ ?_
      refine CJ.s [(0, ptr g.pb), (379, ptr it3)] ⟨rfl, rfl, trivial⟩ (cj_seqF fun K100 hK100 => cj_reg ?_)
      refine j_next 0 4 rfl rfl hMd.lt (Nat.le_refl _) rfl rfl (fun hall => ?_) (fun xe hxe hns => ?_)
      ·refine j_val rfl (fun _ _ h => r_extract rfl rfl h) (j_nil (ej_then (hK100 _ _ _ (CJ.s [(0, _), (379, _), (381, _)] ⟨rfl, rfl, rfl, trivial⟩ (cj_seqF fun K101 hK101 => ?_)))))
       refine cj_if_f rfl ?_
       refine cj_exit (ej_then_exit (ej_then_exit (ej_blk_hit (?_))))
       refine ej_end0 results55 fun w' hH hf => ?_
       have hcs : cs = Td.map .string := by
        apply List.ext_getElem?
        intro i
        by_cases hi : i < Td.length
        ·have hm : (Td[i], Value.int .i64 (i : Nat)) ∈ tabM Td := List.mem_map.2 ⟨(Td[i], i), (List.mem_zipIdx_iff_getElem?).2 (List.getElem?_eq_getElem hi), rfl⟩
         have h1 : (Value.string Td[i], Value.int .i64 (i : Nat)) ∈ (tabM Td).map fun p => (Value.string p.1, p.2) := List.mem_map.2 ⟨_, hm, rfl⟩
         rw [← hMd.kv] at h1
         obtain ⟨xe, hxe, he⟩ := List.mem_map.1 h1
         injection he with e1 e2
         rw [hcv xe (hV.all hMd.born hall xe hxe) _ i e1 e2]
         simp [hi]
        ·rw [List.getElem?_eq_none (by omega), List.getElem?_eq_none (by simp; omega)]
       have hkx := Hp.keepX (l := [g.pb, g.per, mb]) hH.2.2.2.2.2.2.2.2.2.2.2.2.2.2.2 hf
       have hpre := ((hpa.trans hpb').trans hpc).trans hpd
       obtain ⟨f1, f2, f3, f4, f5, f6, f7⟩ := hP5.fin hG hpb5 hmbF hkx hpre
       have hOR : Own tStr 1 ⟨bR, tStr, cs, true, true, none⟩ (some ⟨bR, 0, none⟩) esd.length esd.length (Td.map .string) := ⟨rfl, rfl, rfl, by simp [hedl], Nat.le_refl _, .inl ⟨rfl, rfl, ⟨[], by simp [hcs]⟩, by simp [hcl]⟩⟩
       exact ⟨Td, prefix_get hpre hP5.zero, htd, hnd, f1, ⟨_, _, _, _, _, _, _, _, _, hH.get (i := 2) rfl rfl, hty, hsa, hma, hlo, hfu, hOR.os hH (i := 1) rfl, At.mk qma ((hpb'.trans hpc).trans hpd), At.mk qmb (hpc.trans hpd)⟩, ⟨_, _, hH.get (i := 3) rfl rfl, At.mk qmc hpd, At.mk qmd (List.prefix_refl _)⟩, f2, f3, f4, f5, f6, f7⟩
      ·refine j_val rfl (fun _ _ h => r_extract rfl rfl h) (j_nil (ej_then (hK100 _ _ _ (CJ.s [(0, _), (379, _), (381, _)] ⟨rfl, rfl, rfl, trivial⟩ (cj_seqF fun K102 hK102 => ?_)))))
       refine cj_if_t rfl ?_
       refine cj_skip (ej_then (hK102 _ _ _ (CJ.s [(0, _), (379, _)] ⟨rfl, rfl, trivial⟩ (cj_block (cj_seqF fun K103 hK103 => cj_reg (j_valw rfl (fun a w ha hH hf => r_entry 0 4 rfl rfl rfl hxe hMd.born ha hH) (j_val rfl (fun _ _ h => r_extract rfl rfl h) ?_)))))))
       obtain ⟨⟨qs, qv⟩, hq, hqk, hqv⟩ := menc_entry hMd hxe
       obtain ⟨qi, rfl, hqi⟩ := tabM_mem hq
       have hqlt := (List.getElem?_eq_some_iff.1 hqi).1
       refine j_eqv hqk ?_
       refine j_val rfl (fun _ _ h => r_extract rfl rfl h) ?_
       refine j_eqv hqv ?_
       refine jA rfl rfl (jA rfl rfl (j_nil (ej_then (hK103 _ _ _ (CJ.s [(0, _), (32, _), (33, _), (379, _)] ⟨rfl, rfl, rfl, rfl, trivial⟩ (cj_reg (jM rfl rfl (jN rfl rfl (j_val rfl (fun _ _ h => r_fl (q := 16) (ft := 27) runUnderlying121 rfl sizeOf27 rfl h) (j_valw rfl (fun a w ha hH hf => r_ldH 2 rfl rfl isAgg27 rfl rfl ha hH) (jM rfl rfl (jM rfl rfl (j_val rfl (fun _ _ h => r_idx runUnderlying27 sizeOf9 rfl rfl (by omega) h) ?_)))))))))))))
       refine j_store (o := 0 + qi * 1) 1 rfl rfl rfl rfl sizeOf9 rfl rfl rfl rfl (Nat.ble_eq_true_of_le (show 0 + qi * 1 + 1 ≤ cs.length by omega)) ?_
       refine j_nil (ej_blk (ej_then ?_))
       have hlt : seen.length < esd.length := by
        have := (hV.push hxe hns).len hMd.born
        simp at this; omega
       exact fun w' hH hf => hKLZ (seen ++ [xe.born], xs ++ [xe], cs.set qi (.string qs)) _ w' ⟨hV.push hxe hns, by simp [hcl], fun xe' hxe' t i hk hv => by
        have hcol : ∀ {t' : ByteArray} {i' : Nat}, xe'.key = .string t' → xe'.val = .int .i64 (i' : Nat) → xe' ∈ esd → i' = qi → t' = qs := fun {t' i'} hk hv hm e => by
         obtain ⟨⟨ps, pv⟩, hp, hpk, hpv⟩ := menc_entry hMd hm
         obtain ⟨pi, rfl, hpi⟩ := tabM_mem hp
         rw [hk] at hpk
         rw [hv] at hpv
         cases hpk
         have e2 : i' = pi := by simp at hpv; omega
         subst e2; subst e
         rw [hqi] at hpi
         exact (Option.some.inj hpi).symm
        rcases List.mem_append.1 hxe' with hm | hm
        ·by_cases hi : qi = i
         ·rw [hcol hk hv (hV.sub _ hm) hi.symm, ← hi, List.getElem?_set_self (by omega)]
         ·rw [List.getElem?_set_ne hi]; exact hcv _ hm _ _ hk hv
        ·simp at hm
         subst hm
         rw [hqv] at hv
         have e2 : qi = i := by simp at hv; omega
         rw [hcol hk (by rw [hqv, e2]) hxe e2.symm, ← e2, List.getElem?_set_self (by omega)]⟩ hf (by have h := hH; rw [Nat.zero_add, Nat.mul_one] at h; exact h) (by simp only [List.length_append, List.length_singleton]; omega) ⟨rfl, rfl, trivial⟩
end Go.Proofs.YtifnhinopjgfaaaGreat
