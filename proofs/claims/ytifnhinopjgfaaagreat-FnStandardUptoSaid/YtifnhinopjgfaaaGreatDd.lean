/-
  The specification's decoder: of a profile's bytes it makes this profile. Conditions: the bytes are the fields of a profile.
-/
import Derived.Test.YtifnhinopjgfaaaGreatDb
import Derived.Test.YtifnhinopjgfaaaGreatFwP
namespace Go.Fw
open Go
section
variable {P : Program} {n : Nat} {f : Fm} {e : Env} {H : Heap}
/-- a function's two results, the first a variable's cells -/
theorem ej_ret2C {fn : Func} {R : Value → World → Prop} {s T m t : Nat} {b : Nat} {vs : List Value} {u : Value} (hres : fn.results = #[.cell s T, .tmp t]) (hag : ∀ w, (isAgg T).run P w = .ok true w) (hsz : ∀ w, (sizeOf T).run P w = .ok m w) (hvm : vs.length = m)
  (hs : look e s = some (.pointer (some ⟨b, 0, none⟩))) (ht : look e t = some u) (hb : ∀ w, Hp f w H → f.ok w → ∃ U, Blk w b U vs) (h : ∀ w, Hp f w H → f.ok w → R (.tuple #[.agg vs.toArray, u]) w) :
  EJ (bodyPost P fn (Ret R)) .ret n f e H := fun w hH hf a ha => by
 refine ⟨ha.defs, _, ?_, h w hH hf⟩
 have h2 := ha.has s _ hs
 have h4 := ha.has t _ ht
 obtain ⟨U, hbk⟩ := hb w hH hf
 have h3 := run_loadCells (P := P) (b := b) w vs 0 hbk.cells
 simp only [results, hres]
 simp [Array.getD_eq_getD_getElem?, h2, h4, asAddr, loadVar, hag, hsz, ← hvm, h3]
end
/-- one block turned into another state of it, all else kept -/
theorem Hp.chg1 {f : Fm} {w w' : World} {b T : Nat} {cs cs' : List Value} {H : Heap} (h : Hp f w (⟨b, T, cs, true, true, none⟩ :: H)) (k : KeepX [b] w w') (hb : Blk w' b T cs') : Hp f w' (⟨b, T, cs', true, true, none⟩ :: H) :=
 ⟨⟨fun _ => hb, fun _ ho => by cases ho⟩, fun _ _ => h.2.1 rfl rfl, fun _ => h.2.2.1 rfl, h.2.2.2.mono fun z hz he o hob => k.keep _ _ hob (by
  have := h.2.2.1 rfl z hz he
  simpa using this)⟩
/-- one entry made such as may only be read -/
theorem Hp.roAt {f : Fm} {w : World} {x : Ent} {r : Heap} : ∀ (pre : Heap), Hp f w (pre ++ x :: r) → Hp f w (pre ++ Go.Fw.ro x :: r)
 | [], h => ⟨⟨h.1.row, h.1.obj⟩, fun _ hw => absurd hw (by simp [Go.Fw.ro]), h.2.2.1, h.2.2.2⟩
 | a :: pre, h => ⟨h.1, h.2.1, fun he y hy hye => by
   rcases List.mem_append.1 hy with hy | hy
   ·exact h.2.2.1 he y (List.mem_append_left _ hy) hye
   ·rcases List.mem_cons.1 hy with rfl | hy
    ·exact h.2.2.1 he x (by simp) hye
    ·exact h.2.2.1 he y (by simp [hy]) hye, Hp.roAt pre h.2.2.2⟩
end Go.Fw
namespace Go.Proofs.YtifnhinopjgfaaaGreat
open Go Go.Fw Go.Proofs Go.Proofs.Tryz
def cO (x : PProf) (vT vS vM vL vF : Value) (p : PType) : List Value := [vT, .string x.deflt, vS, vM, vL, vF, .slice none 0 0, .string x.drop, .string x.keep, .int .i64 x.time, .int .i64 x.dur, .int .i64 x.period, .string p.ty, .string p.unit]
abbrev vN : Value := .slice none 0 0
abbrev zIP : List Value := [.slice none 0 0, .string ⟨#[]⟩, .slice none 0 0, .slice none 0 0, .slice none 0 0, .slice none 0 0, .slice none 0 0, .string ⟨#[]⟩, .string ⟨#[]⟩, .int .i64 0, .int .i64 0, .int .i64 0, .string ⟨#[]⟩, .string ⟨#[]⟩]
abbrev eI (b T : Nat) (cs : List Value) : Ent := ⟨b, T, cs, true, true, none⟩
def perK (x : PProf) : Nat → PType
 | 0 => ⟨eB, eB⟩
 | _ + 1 => x.per
/-- a profile in memory, part by part -/
structure GotP (w : World) (cs : List Value) (x : PProf) : Prop where
 ex : ∃ vT vS vM vL vF lq sq, cs = cO x vT vS vM vL vF x.per ∧ OS tTy 2 w vT (x.types.flatMap cTyI) ∧ OS tMp 10 w vM (x.mappings.flatMap cMpI) ∧ OS tFn 5 w vF (x.funcs.flatMap cFnI) ∧
  (lq : List (PLoc × Value)).map (·.1) = x.locs ∧ OS tLc 4 w vL (lq.flatMap cLcI) ∧ LcsV w lq ∧ (sq : List (PSample × SV)).map (·.1) = x.samples ∧ OS tSm 4 w vS (sq.flatMap cSmI) ∧ SmsV w sq
theorem OS.nil {T sz : Nat} {w : World} : OS T sz w (.slice none 0 0) [] := ⟨nilE T, none, 0, 0, rfl, Own.nil, fun h => by cases h⟩
theorem Own.osM {T sz l c : Nat} {y : Ent} {p : Option Addr} {xs : List Value} {f : Fm} {w : World} {H : Heap} (h : Own T sz y p l c xs) (hH : Hp f w H) (hy : y ∈ H) : OS T sz w (.slice p l c) xs :=
 ⟨y, p, l, c, rfl, h, fun ho => by have := hH.blk hy ho; rw [h.hT] at this; exact this⟩
theorem LcsV.nil {w : World} : LcsV w [] := fun q hq => by cases hq
theorem SmsV.nil {w : World} : SmsV w [] := fun q hq => by cases hq
theorem tab_at {fs : List Fld} {T : List ByteArray} (hS : (fs.filter fun f => fkey f = 6).map fbytes = T.map sB) {i m : Nat} (hi : i < fs.length) (hk : fkey fs[i] = 6) (hm : ((fs.take i).filter fun f => fkey f = 6).length = m) : ∃ s, T[m]? = some s ∧ sB s = fbytes fs[i] := by
 have h1 := filter_at (fun f => decide (fkey f = 6)) hi (by simpa using hk)
 have h2 : ((fs.filter fun f => fkey f = 6).map fbytes)[m]? = some (fbytes fs[i]) := by
  rw [h1, List.map_append, List.getElem?_append_right (by simp only [List.length_map]; omega), show m - (((fs.take i).filter fun f => fkey f = 6).map fbytes).length = 0 by simp only [List.length_map]; omega]
  rfl
 rw [hS, List.getElem?_map] at h2
 obtain ⟨s, h3, h4⟩ := Option.map_eq_some_iff.1 h2
 exact ⟨s, h3, h4⟩
theorem take_flat {α : Type} {c : α → List Value} {xs : List α} {k : Nat} (hk : k < xs.length) : (xs.take (k + 1)).flatMap c = (xs.take k).flatMap c ++ c xs[k] := flatMap_step' hk
theorem take_map {α : Type} {c : α → Value} {xs : List α} {k : Nat} (hk : k < xs.length) : (xs.take (k + 1)).map c = (xs.take k).map c ++ [c xs[k]] := by
 rw [← List.take_append_getElem hk, List.map_append]; rfl
set_option maxHeartbeats 4000000 in
theorem decode_c (w : World) (b o c : Nat) (x : PProf) (T : List ByteArray) (fs : List Fld) (hI : DIn x T fs) (hB : Bys w b o c (encFs fs)) (hc : (encFs fs).length ≤ 1000000000000) :
  Calls Tryz.prog 7 #[.slice (some ⟨b, o, none⟩) (encFs fs).length c] w (Ret fun v w' => (∃ cs, v = .tuple #[.agg cs.toArray, .bool true] ∧ GotP w' cs x) ∧ Fr 0 [] w w') := by
 have hfl9 := hI.len
 have hTl := hI.tl
 obtain ⟨hsm1, hsm2, hsm3, hsm4, hsm5⟩ := hI.small
 obtain ⟨gts, hgS1, hgA1⟩ := hI.ty
 obtain ⟨gps, hgS2, hgl2, hgn2, hgA2⟩ := hI.pe
 obtain ⟨n13, hgS3, hgn3⟩ := hI.cm
 obtain ⟨gms, hgS4, hgA4⟩ := hI.mp
 obtain ⟨gfs, hgS5, hgA5⟩ := hI.fn
 obtain ⟨gls, hgS6, hgA6⟩ := hI.lc
 obtain ⟨gss, hgS7, hgA7⟩ := hI.sm
 have hl1 := hgA1.1
 have hl4 := hgA4.1
 have hl5 := hgA5.1
 have hl6 := hgA6.1
 have hl7 := hgA7.1
 refine startJ (args := [_]) [(0, _)] 0 [] [] Tryz.func7 rfl Tryz.ntmps7 rfl rfl .nil ?_
 refine cj_seqF fun K1 hK1 => cj_reg ?_
 refine j_allocA (zs := [(.slice none 0 0), (.string ⟨#[]⟩), (.slice none 0 0), (.slice none 0 0), (.slice none 0 0), (.slice none 0 0), (.slice none 0 0), (.string ⟨#[]⟩), (.string ⟨#[]⟩), (.int .i64 0), (.int .i64 0), (.int .i64 0), (.string ⟨#[]⟩), (.string ⟨#[]⟩)]) Tryz.zeroValue31 rfl fun b2 => ?_
 refine jA rfl rfl (j_nil (ej_then (hK1 _ _ _ (CJ.s [(0, _), (2, _)] ⟨rfl, rfl, trivial⟩ (cj_seqF fun K2 hK2 => cj_reg (jM rfl rfl ?_))))))
 refine j_callE (R := fun w3 v w4 => (∃ lv, v = .agg #[lv, .bool true] ∧ Flds w4 lv fs) ∧ Fr 0 [] w3 w4) Tryz.call19 rfl rfl (fun w3 hH hf => messageOf_c w3 b o c fs hI.ok (hB.keep hf) hc (by omega)) fun w3 v w4 hH3 hf3 hR => ?_
 obtain ⟨⟨lv, rfl, hfl⟩, hf34⟩ := hR
 have hfr : Fr 0 [] w w4 := frQ hf3 hf34
 have hsz : w.heap.size ≤ w4.heap.size := hfr.size
 have hge : w.heap.size ≤ b2 := hH3.fresh (i := 0) rfl rfl rfl
 obtain ⟨pf, cf, rfl, -⟩ := hfl.cells
 refine J.begin ⟨w4, w.heap.size, [tIP]⟩ [eI b2 tIP zIP] ok_refl (Hp.add trivial (hf34.blk (hH3.get (i := 0) rfl rfl) (.inr (by simp))) (fun _ => .inr ⟨hge, by simp⟩) (by simp)) ?_
 refine j_allocA (zs := [(.slice none 0 0), (.bool false)]) Tryz.zeroValue54 rfl fun b4 => ?_
 refine j_storeN (cs' := [_, _]) (H' := [_, _]) 0 rfl rfl rfl rfl Tryz.sizeOf54 rfl rfl rfl rfl rfl rfl rfl ?_
 refine j_nil (ej_then (hK2 _ _ _ (CJ.s [(2, _), (4, _)] ⟨rfl, rfl, trivial⟩ (cj_seqF fun K3 hK3 => cj_reg (j_val rfl (fun _ _ h => r_build (cs := [(.slice none 0 0), (.bool false)]) bt58 rfl rfl h) ?_)))))
 refine j_boxA (vs := [_, _]) rfl rfl fun b38 => ?_
 refine jA rfl rfl (j_nil (ej_then (hK3 _ _ _ (CJ.s [(2, _), (4, _), (5, _)] ⟨rfl, rfl, rfl, trivial⟩ (cj_seqF fun K4 hK4 => cj_seqF fun K5 hK5 => cj_reg (j_val rfl (fun _ _ h => r_fl (q := 0) (ft := 52) Tryz.runUnderlying54 rfl Tryz.sizeOf52 rfl h) (j_valw rfl (fun a w ha hH hf => r_ldH 1 rfl rfl Tryz.isAgg52 rfl rfl ha hH) (j_val rfl (fun _ _ h => r_len Tryz.runUnderlying52 rfl h) (jM rfl rfl (j_nil (ej_then (hK5 _ _ _ (CJ.s [(2, _), (4, _), (5, _), (40, _), (41, _), (42, _)] ⟨rfl, rfl, rfl, rfl, rfl, rfl, trivial⟩ ?_)))))))))))))
 refine cj_block ?_
 -- LOOP 0 live [2, 4, 5, 40, 41, 42]
 intro w9 hH9 hf9
 replace hfr : Fr 0 [] w w9 := Fr.trans hfr hf9 (.inl (Nat.le_refl _))
 replace hfl : Flds w9 (.slice pf fs.length cf) fs := hfl.mono (fr_row hf9 rfl) (fr_row hf9 rfl)
 have hHw : Hp ⟨w, w.heap.size, []⟩ w9 [eI b38 tDec [.slice none 0 0, .bool false], eI b4 tMsg [.slice pf fs.length cf, .bool true], eI b2 tIP zIP] := hH9.back (W0 := []) hsz (.inl (Nat.le_refl _))
 clear hH9 hf9 hsz
 refine c_loop (σ := Nat × Nat × Ent × Option Addr × Nat) (fun s => [(2, ptr b2), (4, ptr b4), (5, ptr b38), (40, .slice pf fs.length cf), (41, .int .i64 (fs.length : Nat)), (42, .int .i64 (s.1 : Nat))])
  (fun s w9 => s.1 ≤ fs.length ∧ Fr 0 [] w w9 ∧ Hp ⟨w, w.heap.size, []⟩ w9 [s.2.2.1, eI b38 tDec [.slice s.2.2.2.1 s.2.1 s.2.2.2.2, .bool false], eI b4 tMsg [.slice pf fs.length cf, .bool true], eI b2 tIP zIP] ∧ Own tStr 1 s.2.2.1 s.2.2.2.1 s.2.1 s.2.2.2.2 ((T.take s.2.1).map .string) ∧ ((fs.take s.1).filter fun f => fkey f = 6).length = s.2.1 ∧ s.2.1 ≤ s.1 ∧ Flds w9 (.slice pf fs.length cf) fs) (fun s => fs.length - s.1)
  (0, 0, nilE tStr, none, 0) ⟨rfl, rfl, rfl, rfl, rfl, rfl, trivial⟩ ⟨Nat.zero_le _, hfr, Hp.off hHw, Own.nil, by simp, Nat.le_refl _, hfl⟩ ?_
 rintro ⟨i, m, y, p, cc⟩ w8 ⟨hi, hfr8, hHw8, hO, hfm, hmi, hfl8⟩ KL hKL
 replace hi : i ≤ fs.length := hi
 replace hO : Own tStr 1 y p m cc ((T.take m).map .string) := hO
 replace hfm : ((fs.take i).filter fun f => fkey f = 6).length = m := hfm
 replace hmi : m ≤ i := hmi
 replace hfr : Fr 0 [] w w8 := hfr8
 replace hfl : Flds w8 (.slice pf fs.length cf) fs := hfl8
 obtain ⟨p9, c9, e9, hcs⟩ := hfl.cells
 injection e9 with e1 e2 e3
 subst e1; subst e3
 have hsz : w.heap.size ≤ w8.heap.size := hfr.size
 refine C.begin ⟨w8, w.heap.size, [tStr, tDec, tMsg, tIP]⟩ [y, eI b38 tDec [.slice p m cc, .bool false], eI b4 tMsg [.slice pf fs.length cf, .bool true], eI b2 tIP zIP] ok_refl (Hp.again (Nat.le_refl _) hHw8 (TagOK.own (.row (.row (.row .nil rfl) rfl) rfl) hO rfl)) ?_
 clear hHw8 hHw
 refine CJ.s [(2, ptr b2), (4, ptr b4), (5, ptr b38), (40, .slice pf fs.length cf), (41, .int .i64 (fs.length : Nat)), (42, .int .i64 (i : Nat))] ⟨rfl, rfl, rfl, rfl, rfl, rfl, trivial⟩ (cj_seqF fun K6 hK6 => cj_reg (j_val rfl (fun _ _ h => r_lss rfl rfl h) (j_nil (ej_then (hK6 _ _ _ (CJ.s [(2, _), (4, _), (5, _), (40, _), (41, _), (42, _), (43, _)] ⟨rfl, rfl, rfl, rfl, rfl, rfl, rfl, trivial⟩ (cj_seqF fun K7 hK7 => ?_)))))))
 refine cj_dec rfl (fun h43 => ?_) (fun h43 => ?_)
 ·have hi' : i < fs.length := by omega
  obtain ⟨bq, fb, rfl, ⟨b', o', c', rfl, hBf, hc'⟩, hcell0⟩ := hcs i fs[i] (List.getElem?_eq_getElem hi')
  have hcell : ∀ w', Fm.ok ⟨w8, w.heap.size, [tStr, tDec, tMsg, tIP]⟩ w' → ∀ (j : Nat) (u : Value), (cFld (fs[i], .slice (some ⟨b', o', none⟩) (fbytes fs[i]).length c'))[j]? = some u → w'.cell? ⟨bq, 0 + i * 4 + j, none⟩ = some u := fun w' hf => hcell0 [tStr, tDec, tMsg, tIP] rfl w' (hf.mono (.inr ⟨Nat.zero_le _, fun _ h => h⟩))
  have hst := filter_step (k := 6) hi'
  refine cj_skip (ej_then (hK7 _ _ _ (CJ.s [(2, _), (4, _), (5, _), (40, _), (41, _), (42, _)] ⟨rfl, rfl, rfl, rfl, rfl, rfl, trivial⟩ (cj_seqF fun K8 hK8 => cj_block (cj_seqF fun K9 hK9 => cj_reg (j_val rfl (fun _ _ h => r_idx Tryz.runUnderlying52 Tryz.sizeOf61 rfl rfl (by omega) h) (j_valw rfl (fun a w ha hH hf => r_loadA Tryz.isAgg61 Tryz.sizeOf61 rfl rfl (hcell w (hf)) ha) ?_)))))))
  refine j_allocA (zs := [(.int .i64 0), (.int .i64 0), (.int .u64 0), (.slice none 0 0)]) Tryz.zeroValue61 rfl fun b7 => ?_
  refine j_storeN (cs' := [_, _, _, _]) (H' := [_, _, _, _, _]) 0 rfl rfl rfl rfl Tryz.sizeOf61 rfl rfl rfl rfl rfl rfl rfl ?_
  refine j_nil (ej_then (hK9 _ _ _ (CJ.s [(2, _), (4, _), (5, _), (7, _), (40, _), (41, _), (42, _)] ⟨rfl, rfl, rfl, rfl, rfl, rfl, rfl, trivial⟩ (cj_seqF fun K10 hK10 => cj_reg (j_val rfl (fun _ _ h => r_fl (q := 0) (ft := 3) Tryz.runUnderlying61 rfl Tryz.sizeOf3 rfl h) (j_valw rfl (fun a w ha hH hf => r_ldH 0 rfl rfl Tryz.isAgg3 rfl rfl ha hH) (j_val rfl (fun _ _ h => r_eql rfl rfl h) (j_nil (ej_then (hK10 _ _ _ (CJ.s [(2, _), (4, _), (5, _), (7, _), (40, _), (41, _), (42, _), (48, _)] ⟨rfl, rfl, rfl, rfl, rfl, rfl, rfl, rfl, trivial⟩ ?_)))))))))))
  refine cj_dec rfl (fun h48 => ?_) (fun h48 => ?_)
  ·have hk6 : fkey fs[i] = 6 := by
    have h : ((fkey fs[i] : Nat) : Int) = 6 := h48
    omega
   obtain ⟨s, hs1, hs2⟩ := tab_at hI.tab hi' hk6 hfm
   rw [if_pos hk6] at hst
   have hst' : ((fs.take (i + 1)).filter fun f => fkey f = 6).length = m + 1 := by rw [hst, List.length_append, hfm]; rfl
   have hmT := (List.getElem?_eq_some_iff.1 hs1)
   refine cj_drawI 12 [(0, true), (1, true), (2, true), (3, true), (4, true), (5, true), (6, true), (7, true), (8, false), (9, false), (10, true), (11, true), (12, false)] [0, 2] rfl (by kernel_rfl) (by kernel_rfl) ?_
   refine dj_val rfl rfl (sub_of [0, 2] rfl) (fun _ _ h => r_move rfl h) (dj_val rfl rfl (sub_of [0, 2] rfl) (fun _ _ h => r_move rfl h) (dj_val rfl rfl (sub_of [0, 2] rfl) (fun _ _ h => r_nil rfl h) (dj_val rfl rfl (sub_of [0, 2] rfl) (fun _ _ h => r_fl (q := 0) (ft := 27) Tryz.runUnderlying58 rfl Tryz.sizeOf27 rfl h) (dj_ld rfl rfl (sub_of [0, 2] rfl) (fun a w ha hS => r_ldS 1 rfl rfl Tryz.isAgg27 rfl rfl ha hS) (dj_val rfl rfl (sub_of [0, 2] rfl) (fun _ _ h => r_fl (q := 3) (ft := 35) Tryz.runUnderlying61 rfl Tryz.sizeOf35 rfl h) (dj_ld rfl rfl (sub_of [0, 2] rfl) (fun a w ha hS => r_ldS 0 rfl rfl Tryz.isAgg35 rfl rfl ha hS) ?_))))))
   refine dj_ld rfl rfl (sub_of [0, 2] rfl) (fun a w ha hS => r_b2s (s := s) Tryz.underlying35 Tryz.underlying5 Tryz.underlying9 rfl (by rw [hs2]) (fun j kk hj => (hBf.mono (fr_row hS.2 rfl)).at_ j kk (by rw [← hs2]; exact hj)) ha) ?_
   refine dj_eff rfl fun K2 hK2 => ?_
   refine j_bslice1 Tryz.runUnderlying27 Tryz.sizeOf9 Tryz.zeroValue9 rfl rfl rfl rfl rfl fun b57 => ?_
   refine j_nil (ej_then (hK2 _ _ (.inr (sub_of [1, 3] rfl)) ?_)); clear hK2 K2
   refine dj_eff rfl fun K2 hK2 => ?_
   refine j_appO 1 rfl hO Tryz.runUnderlying27 el9 rfl rfl rfl rfl rfl (by omega) rfl fun y58 p58 c58 hO58 => ?_
   refine j_nil (ej_then (hK2 _ _ (.inr (sub_of [0, 2] rfl)) ?_)); clear hK2 K2
   refine dj_val rfl rfl (sub_of [0, 2] rfl) (fun _ _ h => r_nil rfl h) (dj_val rfl rfl (sub_of [0, 2] rfl) (fun _ _ h => r_fl (q := 0) (ft := 27) Tryz.runUnderlying58 rfl Tryz.sizeOf27 rfl h) (dj_eff rfl fun K2 hK2 => ?_))
   refine j_storeN (cs' := [_, _]) (H' := [_, _, _, _, _]) 2 rfl rfl rfl rfl Tryz.sizeOf27 rfl rfl rfl rfl rfl rfl rfl ?_
   refine j_nil (ej_then (hK2 _ _ (.inl rfl) ?_)); clear hK2 K2
   refine dj_end (ej_blk (ej_then (hK8 _ _ _ (CJ.s [(2, _), (4, _), (5, _), (40, _), (41, _), (42, _)] ⟨rfl, rfl, rfl, rfl, rfl, rfl, trivial⟩ (cj_reg (j_val rfl (fun _ _ h => r_inc (by omega) rfl rfl h) (jM rfl rfl (j_nil (ej_then ?_)))))))))
   first
   | (exact fun w' hH hf => hKL (i + 1, m + 1, y58, p58, c58) _ w' ⟨hi', Fr.trans hfr hf (.inl (Nat.le_refl _)), (hH.drop 0).back hsz (.inl (Nat.le_refl _)), by
     obtain ⟨h1, h2⟩ := hmT
     simp only
     rw [take_map h1, h2]; exact hO58, hst', by simp only; omega, hfl.mono (fr_row hf rfl) (fr_row hf rfl)⟩ (by simp only; omega) ⟨rfl, rfl, rfl, rfl, rfl, rfl, trivial⟩)
   | (exact fun w' hH hf => hKL (i + 1, m, y, p, cc) _ w' ⟨hi', Fr.trans hfr hf (.inl (Nat.le_refl _)), (hH.drop 0).back hsz (.inl (Nat.le_refl _)), hO, hst', by simp only; omega, hfl.mono (fr_row hf rfl) (fr_row hf rfl)⟩ (by simp only; omega) ⟨rfl, rfl, rfl, rfl, rfl, rfl, trivial⟩)
  ·rw [if_neg (fun hc => h48 (congrArg (fun n : Nat => (n : Int)) hc)), List.append_nil] at hst
   have hst' : ((fs.take (i + 1)).filter fun f => fkey f = 6).length = m := by rw [hst, hfm]
   refine cj_skip (ej_blk (ej_then (hK8 _ _ _ (CJ.s [(2, _), (4, _), (5, _), (40, _), (41, _), (42, _)] ⟨rfl, rfl, rfl, rfl, rfl, rfl, trivial⟩ (cj_reg (j_val rfl (fun _ _ h => r_inc (by omega) rfl rfl h) (jM rfl rfl (j_nil (ej_then ?_)))))))))
   first
   | (exact fun w' hH hf => hKL (i + 1, m + 1, y58, p58, c58) _ w' ⟨hi', Fr.trans hfr hf (.inl (Nat.le_refl _)), (hH.drop 0).back hsz (.inl (Nat.le_refl _)), by
     obtain ⟨h1, h2⟩ := hmT
     simp only
     rw [take_map h1, h2]; exact hO58, hst', by simp only; omega, hfl.mono (fr_row hf rfl) (fr_row hf rfl)⟩ (by simp only; omega) ⟨rfl, rfl, rfl, rfl, rfl, rfl, trivial⟩)
   | (exact fun w' hH hf => hKL (i + 1, m, y, p, cc) _ w' ⟨hi', Fr.trans hfr hf (.inl (Nat.le_refl _)), (hH.drop 0).back hsz (.inl (Nat.le_refl _)), hO, hst', by simp only; omega, hfl.mono (fr_row hf rfl) (fr_row hf rfl)⟩ (by simp only; omega) ⟨rfl, rfl, rfl, rfl, rfl, rfl, trivial⟩)
 ·obtain rfl : m = T.length := by
   have h1 := congrArg List.length hI.tab
   simp only [List.length_map] at h1
   rw [List.take_of_length_le (by omega)] at hfm
   omega
  rw [List.take_of_length_le (Nat.le_refl _)] at hO
  obtain ⟨hz1, hz2⟩ := List.getElem?_eq_some_iff.1 hI.z0
  intro w9 hH9 hf9
  have htb : OS tStr 1 w9 (.slice p T.length cc) (T.map .string) := hO.os hH9 (i := 0) rfl
  replace hfl : Flds w9 (.slice pf fs.length cf) fs := hfl.mono (fr_row hf9 rfl) (fr_row hf9 rfl)
  replace hfr : Fr 0 [] w w9 := Fr.trans hfr hf9 (.inl (Nat.le_refl _))
  have hsz0 := hsz
  replace hsz : w.heap.size ≤ w9.heap.size := hfr.size
  obtain ⟨pt, lt, ct, et, -, -, htx⟩ := htb.openF
  injection et with e1 e2 e3
  subst e1; subst e2; subst e3
  obtain ⟨bt, rfl, htc⟩ := htx hz1
  have hzc := cell1 (f := ⟨w9, w.heap.size, [tDec, tIP]⟩) (v := .string eB) (k := 0) (htc ⟨w9, w.heap.size, [tDec, tIP]⟩ rfl rfl) (by rw [List.getElem?_map, hI.z0]; rfl)
  refine C.begin ⟨w9, w.heap.size, [tDec, tIP]⟩ [eI b38 tDec [.slice (some ⟨bt, 0, none⟩) T.length cc, .bool false], ⟨b4, tMsg, [.slice pf fs.length cf, .bool true], false, true, none⟩, eI b2 tIP zIP] ok_refl (Hp.again (W0 := [tStr, tDec, tMsg, tIP]) hsz0 (Hp.roAt [eI b38 tDec [.slice (some ⟨bt, 0, none⟩) T.length cc, .bool false]] (hH9.drop 0)) (TagOK.row (.ro (.row .nil rfl) rfl) rfl)) ?_
  clear hO hfm hmi hi hH9 hf9 hsz0
  refine cj_exit (ej_then_exit (ej_then_exit (ej_blk_hit (ej_then (hK4 _ _ _ (CJ.s [(2, _), (4, _), (5, _)] ⟨rfl, rfl, rfl, trivial⟩ (cj_seqF fun K11 hK11 => cj_seqF fun K12 hK12 => cj_reg (j_val rfl (fun _ _ h => r_fl (q := 1) (ft := 4) Tryz.runUnderlying54 rfl Tryz.sizeOf4 rfl h) (j_valw rfl (fun a w ha hH hf => r_ldH 1 rfl rfl Tryz.isAgg4 rfl rfl ha hH) (j_val rfl (fun _ _ h => r_not rfl h) ?_))))))))))
  refine j_eqv (u := .bool false) rfl ?_
  refine jM rfl rfl (j_gt rfl rfl (jM rfl rfl (j_gt rfl rfl (jN rfl rfl (j_gt rfl rfl (j_val rfl (fun _ _ h => r_fl (q := 0) (ft := 27) Tryz.runUnderlying58 rfl Tryz.sizeOf27 rfl h) (j_gt rfl rfl (j_valw rfl (fun a w ha hH hf => r_ldH 0 rfl rfl Tryz.isAgg27 rfl rfl ha hH) (j_gt rfl rfl (j_val rfl (fun _ _ h => r_len Tryz.runUnderlying27 rfl h) (j_gt rfl rfl (j_val rfl (fun _ _ h => r_eql rfl rfl h) ?_))))))))))))
  refine j_eqv (u := .bool false) (congrArg Value.bool (decide_eq_false (by omega))) ?_
  refine j_val rfl (fun _ _ h => r_pick_f rfl rfl h) (jM rfl rfl (j_gt rfl rfl (jM rfl rfl (j_gt rfl rfl (jN rfl rfl (j_gt rfl rfl (j_val rfl (fun _ _ h => r_fl (q := 0) (ft := 27) Tryz.runUnderlying58 rfl Tryz.sizeOf27 rfl h) (j_gt rfl rfl (j_valw rfl (fun a w ha hH hf => r_ldH 0 rfl rfl Tryz.isAgg27 rfl rfl ha hH) (j_gt rfl rfl (j_val rfl (fun _ _ h => r_idx Tryz.runUnderlying27 Tryz.sizeOf9 rfl rfl (by omega) h) (j_gt rfl rfl (j_valw rfl (fun a w ha hH hf => r_load Tryz.isAgg9 rfl (hzc w (hf) 0 _ rfl) ha) ?_)))))))))))))
  refine j_gt rfl rfl (j_val rfl (fun _ _ h => r_sneq rfl rfl h) ?_)
  refine j_eqv (u := .bool false) rfl ?_
  refine j_val rfl (fun _ _ h => r_pick_f rfl rfl h) (j_nil (ej_then (hK12 _ _ _ (CJ.s [(2, _), (4, _), (5, _), (81, _)] ⟨rfl, rfl, rfl, rfl, trivial⟩ ?_))))
  refine cj_if_f rfl ?_
  refine cj_skip (ej_then (hK11 _ _ _ (CJ.s [(2, _), (4, _), (5, _)] ⟨rfl, rfl, rfl, trivial⟩ ?_)))
  refine cj_seqJ ((fun b8 : Nat => [(2, ptr b2), (4, ptr b4), (5, ptr b38), (8, ptr b8)])) ((fun b8 : Nat => [eI b8 tIP (cO x vN vN vN vN vN ⟨eB, eB⟩), eI b38 tDec [.slice (some ⟨bt, 0, none⟩) T.length cc, .bool false], ⟨b4, tMsg, [.slice pf fs.length cf, .bool true], false, true, none⟩, eI b2 tIP zIP])) (fun KJ hKJ => ?_) (fun b8 => ?_)
  ·refine cj_drawF 23 22 [(0, true), (1, true), (4, true), (5, true), (8, true), (11, true), (14, true), (17, true), (18, true), (2, false), (3, false), (6, false), (7, false), (9, false), (10, true), (12, false), (13, true), (15, false), (16, true), (19, false), (20, false), (21, true), (22, false), (23, false)] [0, 1] rfl (by kernel_rfl) (by kernel_rfl) ?_
   refine df_val rfl rfl (sub_of [0, 1] rfl) (fun _ _ h => r_move rfl h) ?_
   refine df_ld rfl rfl (sub_of [0, 1] rfl) (fun a w ha hS => r_ldSA (vs := [_, _]) 1 rfl rfl Tryz.isAgg54 Tryz.sizeOf54 rfl rfl rfl ha hS) ?_
   refine df_val rfl rfl (sub_of [0, 1] rfl) (fun _ _ h => r_move rfl h) ?_
   refine df_ld rfl rfl (sub_of [0, 1] rfl) (fun a w ha hS => r_ldSA (vs := [_, _]) 1 rfl rfl Tryz.isAgg54 Tryz.sizeOf54 rfl rfl rfl ha hS) ?_
   refine df_ld rfl rfl (sub_of [0, 1] rfl) (fun a w ha hS => r_ldSA (vs := [_, _]) 1 rfl rfl Tryz.isAgg54 Tryz.sizeOf54 rfl rfl rfl ha hS) ?_
   refine df_ld rfl rfl (sub_of [0, 1] rfl) (fun a w ha hS => r_ldSA (vs := [_, _]) 1 rfl rfl Tryz.isAgg54 Tryz.sizeOf54 rfl rfl rfl ha hS) ?_
   refine df_ld rfl rfl (sub_of [0, 1] rfl) (fun a w ha hS => r_ldSA (vs := [_, _]) 1 rfl rfl Tryz.isAgg54 Tryz.sizeOf54 rfl rfl rfl ha hS) ?_
   refine df_val rfl rfl (sub_of [0, 1] rfl) (fun _ _ h => r_move rfl h) ?_
   refine df_ld rfl rfl (sub_of [0, 1] rfl) (fun a w ha hS => r_ldSA (vs := [_, _]) 1 rfl rfl Tryz.isAgg54 Tryz.sizeOf54 rfl rfl rfl ha hS) ?_
   refine df_fork rfl rfl rfl (fun K2 hK2 => ?_) (fun K2 hK2 => ?_)
   ·refine j_allocA (zs := [(.slice none 0 0), (.string ⟨#[]⟩), (.slice none 0 0), (.slice none 0 0), (.slice none 0 0), (.slice none 0 0), (.slice none 0 0), (.string ⟨#[]⟩), (.string ⟨#[]⟩), (.int .i64 0), (.int .i64 0), (.int .i64 0), (.string ⟨#[]⟩), (.string ⟨#[]⟩)]) Tryz.zeroValue31 rfl fun b8 => ?_
    refine j_nil (ej_then (hK2 _ _ (sub_of [1, 2] rfl) ?_)); clear hK2 K2
    refine dj_eff rfl fun K2 hK2 => ?_
    refine j_callQ (φ := fun v => v = .int .u64 (oneN 7 fs : Nat)) Tryz.call21 rfl rfl (fun w3 hH hf => one_c w3 _ true 7 fs (hfl.mono (fr_row hf rfl) (fr_row hf rfl)) (by omega)) fun v hv => ?_
    subst hv
    refine j_nil (ej_then (hK2 _ _ (.inr (sub_of [1, 2] rfl)) ?_)); clear hK2 K2
    refine dj_eff rfl fun K2 hK2 => ?_
    refine j_callQ (φ := fun v => v = .string (x.drop)) Tryz.call20 rfl rfl (fun w3 hH hf => text_c w3 b38 _ T _ ⟨_, hH.blk (x := eI b38 tDec [.slice (some ⟨bt, 0, none⟩) T.length cc, .bool false]) (by repeat (first | exact List.Mem.head _ | apply List.Mem.tail)) rfl, htb.mono (fr_row hf rfl)⟩ hI.drop hTl) fun v hv => ?_
    subst hv
    refine j_nil (ej_then (hK2 _ _ (.inr (sub_of [1, 2] rfl)) ?_)); clear hK2 K2
    refine dj_eff rfl fun K2 hK2 => ?_
    refine j_callQ (φ := fun v => v = .int .u64 (oneN 8 fs : Nat)) Tryz.call21 rfl rfl (fun w3 hH hf => one_c w3 _ true 8 fs (hfl.mono (fr_row hf rfl) (fr_row hf rfl)) (by omega)) fun v hv => ?_
    subst hv
    refine j_nil (ej_then (hK2 _ _ (.inr (sub_of [1, 2] rfl)) ?_)); clear hK2 K2
    refine dj_eff rfl fun K2 hK2 => ?_
    refine j_callQ (φ := fun v => v = .string (x.keep)) Tryz.call20 rfl rfl (fun w3 hH hf => text_c w3 b38 _ T _ ⟨_, hH.blk (x := eI b38 tDec [.slice (some ⟨bt, 0, none⟩) T.length cc, .bool false]) (by repeat (first | exact List.Mem.head _ | apply List.Mem.tail)) rfl, htb.mono (fr_row hf rfl)⟩ hI.keep hTl) fun v hv => ?_
    subst hv
    refine j_nil (ej_then (hK2 _ _ (.inr (sub_of [1, 2] rfl)) ?_)); clear hK2 K2
    refine dj_eff rfl fun K2 hK2 => ?_
    refine j_callQ (φ := fun v => v = .int .u64 (oneN 9 fs : Nat)) Tryz.call21 rfl rfl (fun w3 hH hf => one_c w3 _ true 9 fs (hfl.mono (fr_row hf rfl) (fr_row hf rfl)) (by omega)) fun v hv => ?_
    subst hv
    refine j_nil (ej_then (hK2 _ _ (.inr (sub_of [1, 2] rfl)) ?_)); clear hK2 K2
    refine dj_val rfl rfl (sub_of [1, 2] rfl) (fun _ _ h => r_conv Tryz.runUnderlying59 Tryz.runUnderlying2 rfl h) ?_
    refine dj_eqv (u := .int .i64 x.time) (congrArg (Value.int .i64) hI.time) ?_
    refine dj_eff rfl fun K2 hK2 => ?_
    refine j_callQ (φ := fun v => v = .int .u64 (oneN 10 fs : Nat)) Tryz.call21 rfl rfl (fun w3 hH hf => one_c w3 _ true 10 fs (hfl.mono (fr_row hf rfl) (fr_row hf rfl)) (by omega)) fun v hv => ?_
    subst hv
    refine j_nil (ej_then (hK2 _ _ (.inr (sub_of [1, 2] rfl)) ?_)); clear hK2 K2
    refine dj_val rfl rfl (sub_of [1, 2] rfl) (fun _ _ h => r_conv Tryz.runUnderlying59 Tryz.runUnderlying2 rfl h) ?_
    refine dj_eqv (u := .int .i64 x.dur) (congrArg (Value.int .i64) hI.dur) ?_
    refine dj_eff rfl fun K2 hK2 => ?_
    refine j_callQ (φ := fun v => v = .int .u64 (oneN 12 fs : Nat)) Tryz.call21 rfl rfl (fun w3 hH hf => one_c w3 _ true 12 fs (hfl.mono (fr_row hf rfl) (fr_row hf rfl)) (by omega)) fun v hv => ?_
    subst hv
    refine j_nil (ej_then (hK2 _ _ (.inr (sub_of [1, 2] rfl)) ?_)); clear hK2 K2
    refine dj_val rfl rfl (sub_of [1, 2] rfl) (fun _ _ h => r_conv Tryz.runUnderlying59 Tryz.runUnderlying2 rfl h) ?_
    refine dj_eqv (u := .int .i64 x.period) (congrArg (Value.int .i64) hI.period) ?_
    refine dj_eff rfl fun K2 hK2 => ?_
    refine j_callQ (φ := fun v => v = .int .u64 (oneN 14 fs : Nat)) Tryz.call21 rfl rfl (fun w3 hH hf => one_c w3 _ true 14 fs (hfl.mono (fr_row hf rfl) (fr_row hf rfl)) (by omega)) fun v hv => ?_
    subst hv
    refine j_nil (ej_then (hK2 _ _ (.inr (sub_of [1, 2] rfl)) ?_)); clear hK2 K2
    refine dj_eff rfl fun K2 hK2 => ?_
    refine j_callQ (φ := fun v => v = .string (x.deflt)) Tryz.call20 rfl rfl (fun w3 hH hf => text_c w3 b38 _ T _ ⟨_, hH.blk (x := eI b38 tDec [.slice (some ⟨bt, 0, none⟩) T.length cc, .bool false]) (by repeat (first | exact List.Mem.head _ | apply List.Mem.tail)) rfl, htb.mono (fr_row hf rfl)⟩ hI.dfl hTl) fun v hv => ?_
    subst hv
    refine j_nil (ej_then (hK2 _ _ (.inr (sub_of [1, 2] rfl)) ?_)); clear hK2 K2
    refine dj_val rfl rfl (sub_of [1, 2] rfl) (fun _ _ h => r_build (cs := [(.slice none 0 0), _, (.slice none 0 0), (.slice none 0 0), (.slice none 0 0), (.slice none 0 0), (.slice none 0 0), _, _, _, _, _, (.string ⟨#[]⟩), (.string ⟨#[]⟩)]) bt31 rfl rfl h) (dj_eff rfl fun K2 hK2 => ?_)
    refine j_storeN (cs' := [_, _, _, _, _, _, _, _, _, _, _, _, _, _]) (H' := [_, _, _, _]) 0 rfl rfl rfl rfl Tryz.sizeOf31 rfl rfl rfl rfl rfl rfl rfl ?_
    refine j_nil (ej_then (hK2 _ _ (.inl rfl) ?_)); clear hK2 K2
    refine dj_end ?_
    exact ej_then (hKJ b8 _ _ ⟨rfl, rfl, rfl, rfl, trivial⟩ fun w h => h)
   ·refine j_callQ (φ := fun v => v = .int .u64 (oneN 7 fs : Nat)) Tryz.call21 rfl rfl (fun w3 hH hf => one_c w3 _ true 7 fs (hfl.mono (fr_row hf rfl) (fr_row hf rfl)) (by omega)) fun v hv => ?_
    subst hv
    refine j_nil (ej_then (hK2 _ _ (sub_of [0, 1] rfl) ?_)); clear hK2 K2
    refine df_fork rfl rfl rfl (fun K2 hK2 => ?_) (fun K2 hK2 => ?_)
    ·refine j_allocA (zs := [(.slice none 0 0), (.string ⟨#[]⟩), (.slice none 0 0), (.slice none 0 0), (.slice none 0 0), (.slice none 0 0), (.slice none 0 0), (.string ⟨#[]⟩), (.string ⟨#[]⟩), (.int .i64 0), (.int .i64 0), (.int .i64 0), (.string ⟨#[]⟩), (.string ⟨#[]⟩)]) Tryz.zeroValue31 rfl fun b8 => ?_
     refine j_nil (ej_then (hK2 _ _ (sub_of [1, 2] rfl) ?_)); clear hK2 K2
     refine dj_eff rfl fun K2 hK2 => ?_
     refine j_callQ (φ := fun v => v = .string (x.drop)) Tryz.call20 rfl rfl (fun w3 hH hf => text_c w3 b38 _ T _ ⟨_, hH.blk (x := eI b38 tDec [.slice (some ⟨bt, 0, none⟩) T.length cc, .bool false]) (by repeat (first | exact List.Mem.head _ | apply List.Mem.tail)) rfl, htb.mono (fr_row hf rfl)⟩ hI.drop hTl) fun v hv => ?_
     subst hv
     refine j_nil (ej_then (hK2 _ _ (.inr (sub_of [1, 2] rfl)) ?_)); clear hK2 K2
     refine dj_eff rfl fun K2 hK2 => ?_
     refine j_callQ (φ := fun v => v = .int .u64 (oneN 8 fs : Nat)) Tryz.call21 rfl rfl (fun w3 hH hf => one_c w3 _ true 8 fs (hfl.mono (fr_row hf rfl) (fr_row hf rfl)) (by omega)) fun v hv => ?_
     subst hv
     refine j_nil (ej_then (hK2 _ _ (.inr (sub_of [1, 2] rfl)) ?_)); clear hK2 K2
     refine dj_eff rfl fun K2 hK2 => ?_
     refine j_callQ (φ := fun v => v = .string (x.keep)) Tryz.call20 rfl rfl (fun w3 hH hf => text_c w3 b38 _ T _ ⟨_, hH.blk (x := eI b38 tDec [.slice (some ⟨bt, 0, none⟩) T.length cc, .bool false]) (by repeat (first | exact List.Mem.head _ | apply List.Mem.tail)) rfl, htb.mono (fr_row hf rfl)⟩ hI.keep hTl) fun v hv => ?_
     subst hv
     refine j_nil (ej_then (hK2 _ _ (.inr (sub_of [1, 2] rfl)) ?_)); clear hK2 K2
     refine dj_eff rfl fun K2 hK2 => ?_
     refine j_callQ (φ := fun v => v = .int .u64 (oneN 9 fs : Nat)) Tryz.call21 rfl rfl (fun w3 hH hf => one_c w3 _ true 9 fs (hfl.mono (fr_row hf rfl) (fr_row hf rfl)) (by omega)) fun v hv => ?_
     subst hv
     refine j_nil (ej_then (hK2 _ _ (.inr (sub_of [1, 2] rfl)) ?_)); clear hK2 K2
     refine dj_val rfl rfl (sub_of [1, 2] rfl) (fun _ _ h => r_conv Tryz.runUnderlying59 Tryz.runUnderlying2 rfl h) ?_
     refine dj_eqv (u := .int .i64 x.time) (congrArg (Value.int .i64) hI.time) ?_
     refine dj_eff rfl fun K2 hK2 => ?_
     refine j_callQ (φ := fun v => v = .int .u64 (oneN 10 fs : Nat)) Tryz.call21 rfl rfl (fun w3 hH hf => one_c w3 _ true 10 fs (hfl.mono (fr_row hf rfl) (fr_row hf rfl)) (by omega)) fun v hv => ?_
     subst hv
     refine j_nil (ej_then (hK2 _ _ (.inr (sub_of [1, 2] rfl)) ?_)); clear hK2 K2
     refine dj_val rfl rfl (sub_of [1, 2] rfl) (fun _ _ h => r_conv Tryz.runUnderlying59 Tryz.runUnderlying2 rfl h) ?_
     refine dj_eqv (u := .int .i64 x.dur) (congrArg (Value.int .i64) hI.dur) ?_
     refine dj_eff rfl fun K2 hK2 => ?_
     refine j_callQ (φ := fun v => v = .int .u64 (oneN 12 fs : Nat)) Tryz.call21 rfl rfl (fun w3 hH hf => one_c w3 _ true 12 fs (hfl.mono (fr_row hf rfl) (fr_row hf rfl)) (by omega)) fun v hv => ?_
     subst hv
     refine j_nil (ej_then (hK2 _ _ (.inr (sub_of [1, 2] rfl)) ?_)); clear hK2 K2
     refine dj_val rfl rfl (sub_of [1, 2] rfl) (fun _ _ h => r_conv Tryz.runUnderlying59 Tryz.runUnderlying2 rfl h) ?_
     refine dj_eqv (u := .int .i64 x.period) (congrArg (Value.int .i64) hI.period) ?_
     refine dj_eff rfl fun K2 hK2 => ?_
     refine j_callQ (φ := fun v => v = .int .u64 (oneN 14 fs : Nat)) Tryz.call21 rfl rfl (fun w3 hH hf => one_c w3 _ true 14 fs (hfl.mono (fr_row hf rfl) (fr_row hf rfl)) (by omega)) fun v hv => ?_
     subst hv
     refine j_nil (ej_then (hK2 _ _ (.inr (sub_of [1, 2] rfl)) ?_)); clear hK2 K2
     refine dj_eff rfl fun K2 hK2 => ?_
     refine j_callQ (φ := fun v => v = .string (x.deflt)) Tryz.call20 rfl rfl (fun w3 hH hf => text_c w3 b38 _ T _ ⟨_, hH.blk (x := eI b38 tDec [.slice (some ⟨bt, 0, none⟩) T.length cc, .bool false]) (by repeat (first | exact List.Mem.head _ | apply List.Mem.tail)) rfl, htb.mono (fr_row hf rfl)⟩ hI.dfl hTl) fun v hv => ?_
     subst hv
     refine j_nil (ej_then (hK2 _ _ (.inr (sub_of [1, 2] rfl)) ?_)); clear hK2 K2
     refine dj_val rfl rfl (sub_of [1, 2] rfl) (fun _ _ h => r_build (cs := [(.slice none 0 0), _, (.slice none 0 0), (.slice none 0 0), (.slice none 0 0), (.slice none 0 0), (.slice none 0 0), _, _, _, _, _, (.string ⟨#[]⟩), (.string ⟨#[]⟩)]) bt31 rfl rfl h) (dj_eff rfl fun K2 hK2 => ?_)
     refine j_storeN (cs' := [_, _, _, _, _, _, _, _, _, _, _, _, _, _]) (H' := [_, _, _, _]) 0 rfl rfl rfl rfl Tryz.sizeOf31 rfl rfl rfl rfl rfl rfl rfl ?_
     refine j_nil (ej_then (hK2 _ _ (.inl rfl) ?_)); clear hK2 K2
     refine dj_end ?_
     exact ej_then (hKJ b8 _ _ ⟨rfl, rfl, rfl, rfl, trivial⟩ fun w h => h)
    ·refine j_callQ (φ := fun v => v = .string (x.drop)) Tryz.call20 rfl rfl (fun w3 hH hf => text_c w3 b38 _ T _ ⟨_, hH.blk (x := eI b38 tDec [.slice (some ⟨bt, 0, none⟩) T.length cc, .bool false]) (by repeat (first | exact List.Mem.head _ | apply List.Mem.tail)) rfl, htb.mono (fr_row hf rfl)⟩ hI.drop hTl) fun v hv => ?_
     subst hv
     refine j_nil (ej_then (hK2 _ _ (sub_of [0, 1] rfl) ?_)); clear hK2 K2
     refine df_fork rfl rfl rfl (fun K2 hK2 => ?_) (fun K2 hK2 => ?_)
     ·refine j_allocA (zs := [(.slice none 0 0), (.string ⟨#[]⟩), (.slice none 0 0), (.slice none 0 0), (.slice none 0 0), (.slice none 0 0), (.slice none 0 0), (.string ⟨#[]⟩), (.string ⟨#[]⟩), (.int .i64 0), (.int .i64 0), (.int .i64 0), (.string ⟨#[]⟩), (.string ⟨#[]⟩)]) Tryz.zeroValue31 rfl fun b8 => ?_
      refine j_nil (ej_then (hK2 _ _ (sub_of [1, 2] rfl) ?_)); clear hK2 K2
      refine dj_eff rfl fun K2 hK2 => ?_
      refine j_callQ (φ := fun v => v = .int .u64 (oneN 8 fs : Nat)) Tryz.call21 rfl rfl (fun w3 hH hf => one_c w3 _ true 8 fs (hfl.mono (fr_row hf rfl) (fr_row hf rfl)) (by omega)) fun v hv => ?_
      subst hv
      refine j_nil (ej_then (hK2 _ _ (.inr (sub_of [1, 2] rfl)) ?_)); clear hK2 K2
      refine dj_eff rfl fun K2 hK2 => ?_
      refine j_callQ (φ := fun v => v = .string (x.keep)) Tryz.call20 rfl rfl (fun w3 hH hf => text_c w3 b38 _ T _ ⟨_, hH.blk (x := eI b38 tDec [.slice (some ⟨bt, 0, none⟩) T.length cc, .bool false]) (by repeat (first | exact List.Mem.head _ | apply List.Mem.tail)) rfl, htb.mono (fr_row hf rfl)⟩ hI.keep hTl) fun v hv => ?_
      subst hv
      refine j_nil (ej_then (hK2 _ _ (.inr (sub_of [1, 2] rfl)) ?_)); clear hK2 K2
      refine dj_eff rfl fun K2 hK2 => ?_
      refine j_callQ (φ := fun v => v = .int .u64 (oneN 9 fs : Nat)) Tryz.call21 rfl rfl (fun w3 hH hf => one_c w3 _ true 9 fs (hfl.mono (fr_row hf rfl) (fr_row hf rfl)) (by omega)) fun v hv => ?_
      subst hv
      refine j_nil (ej_then (hK2 _ _ (.inr (sub_of [1, 2] rfl)) ?_)); clear hK2 K2
      refine dj_val rfl rfl (sub_of [1, 2] rfl) (fun _ _ h => r_conv Tryz.runUnderlying59 Tryz.runUnderlying2 rfl h) ?_
      refine dj_eqv (u := .int .i64 x.time) (congrArg (Value.int .i64) hI.time) ?_
      refine dj_eff rfl fun K2 hK2 => ?_
      refine j_callQ (φ := fun v => v = .int .u64 (oneN 10 fs : Nat)) Tryz.call21 rfl rfl (fun w3 hH hf => one_c w3 _ true 10 fs (hfl.mono (fr_row hf rfl) (fr_row hf rfl)) (by omega)) fun v hv => ?_
      subst hv
      refine j_nil (ej_then (hK2 _ _ (.inr (sub_of [1, 2] rfl)) ?_)); clear hK2 K2
      refine dj_val rfl rfl (sub_of [1, 2] rfl) (fun _ _ h => r_conv Tryz.runUnderlying59 Tryz.runUnderlying2 rfl h) ?_
      refine dj_eqv (u := .int .i64 x.dur) (congrArg (Value.int .i64) hI.dur) ?_
      refine dj_eff rfl fun K2 hK2 => ?_
      refine j_callQ (φ := fun v => v = .int .u64 (oneN 12 fs : Nat)) Tryz.call21 rfl rfl (fun w3 hH hf => one_c w3 _ true 12 fs (hfl.mono (fr_row hf rfl) (fr_row hf rfl)) (by omega)) fun v hv => ?_
      subst hv
      refine j_nil (ej_then (hK2 _ _ (.inr (sub_of [1, 2] rfl)) ?_)); clear hK2 K2
      refine dj_val rfl rfl (sub_of [1, 2] rfl) (fun _ _ h => r_conv Tryz.runUnderlying59 Tryz.runUnderlying2 rfl h) ?_
      refine dj_eqv (u := .int .i64 x.period) (congrArg (Value.int .i64) hI.period) ?_
      refine dj_eff rfl fun K2 hK2 => ?_
      refine j_callQ (φ := fun v => v = .int .u64 (oneN 14 fs : Nat)) Tryz.call21 rfl rfl (fun w3 hH hf => one_c w3 _ true 14 fs (hfl.mono (fr_row hf rfl) (fr_row hf rfl)) (by omega)) fun v hv => ?_
      subst hv
      refine j_nil (ej_then (hK2 _ _ (.inr (sub_of [1, 2] rfl)) ?_)); clear hK2 K2
      refine dj_eff rfl fun K2 hK2 => ?_
      refine j_callQ (φ := fun v => v = .string (x.deflt)) Tryz.call20 rfl rfl (fun w3 hH hf => text_c w3 b38 _ T _ ⟨_, hH.blk (x := eI b38 tDec [.slice (some ⟨bt, 0, none⟩) T.length cc, .bool false]) (by repeat (first | exact List.Mem.head _ | apply List.Mem.tail)) rfl, htb.mono (fr_row hf rfl)⟩ hI.dfl hTl) fun v hv => ?_
      subst hv
      refine j_nil (ej_then (hK2 _ _ (.inr (sub_of [1, 2] rfl)) ?_)); clear hK2 K2
      refine dj_val rfl rfl (sub_of [1, 2] rfl) (fun _ _ h => r_build (cs := [(.slice none 0 0), _, (.slice none 0 0), (.slice none 0 0), (.slice none 0 0), (.slice none 0 0), (.slice none 0 0), _, _, _, _, _, (.string ⟨#[]⟩), (.string ⟨#[]⟩)]) bt31 rfl rfl h) (dj_eff rfl fun K2 hK2 => ?_)
      refine j_storeN (cs' := [_, _, _, _, _, _, _, _, _, _, _, _, _, _]) (H' := [_, _, _, _]) 0 rfl rfl rfl rfl Tryz.sizeOf31 rfl rfl rfl rfl rfl rfl rfl ?_
      refine j_nil (ej_then (hK2 _ _ (.inl rfl) ?_)); clear hK2 K2
      refine dj_end ?_
      exact ej_then (hKJ b8 _ _ ⟨rfl, rfl, rfl, rfl, trivial⟩ fun w h => h)
     ·refine j_callQ (φ := fun v => v = .int .u64 (oneN 8 fs : Nat)) Tryz.call21 rfl rfl (fun w3 hH hf => one_c w3 _ true 8 fs (hfl.mono (fr_row hf rfl) (fr_row hf rfl)) (by omega)) fun v hv => ?_
      subst hv
      refine j_nil (ej_then (hK2 _ _ (sub_of [0, 1] rfl) ?_)); clear hK2 K2
      refine df_fork rfl rfl rfl (fun K2 hK2 => ?_) (fun K2 hK2 => ?_)
      ·refine j_allocA (zs := [(.slice none 0 0), (.string ⟨#[]⟩), (.slice none 0 0), (.slice none 0 0), (.slice none 0 0), (.slice none 0 0), (.slice none 0 0), (.string ⟨#[]⟩), (.string ⟨#[]⟩), (.int .i64 0), (.int .i64 0), (.int .i64 0), (.string ⟨#[]⟩), (.string ⟨#[]⟩)]) Tryz.zeroValue31 rfl fun b8 => ?_
       refine j_nil (ej_then (hK2 _ _ (sub_of [1, 2] rfl) ?_)); clear hK2 K2
       refine dj_eff rfl fun K2 hK2 => ?_
       refine j_callQ (φ := fun v => v = .string (x.keep)) Tryz.call20 rfl rfl (fun w3 hH hf => text_c w3 b38 _ T _ ⟨_, hH.blk (x := eI b38 tDec [.slice (some ⟨bt, 0, none⟩) T.length cc, .bool false]) (by repeat (first | exact List.Mem.head _ | apply List.Mem.tail)) rfl, htb.mono (fr_row hf rfl)⟩ hI.keep hTl) fun v hv => ?_
       subst hv
       refine j_nil (ej_then (hK2 _ _ (.inr (sub_of [1, 2] rfl)) ?_)); clear hK2 K2
       refine dj_eff rfl fun K2 hK2 => ?_
       refine j_callQ (φ := fun v => v = .int .u64 (oneN 9 fs : Nat)) Tryz.call21 rfl rfl (fun w3 hH hf => one_c w3 _ true 9 fs (hfl.mono (fr_row hf rfl) (fr_row hf rfl)) (by omega)) fun v hv => ?_
       subst hv
       refine j_nil (ej_then (hK2 _ _ (.inr (sub_of [1, 2] rfl)) ?_)); clear hK2 K2
       refine dj_val rfl rfl (sub_of [1, 2] rfl) (fun _ _ h => r_conv Tryz.runUnderlying59 Tryz.runUnderlying2 rfl h) ?_
       refine dj_eqv (u := .int .i64 x.time) (congrArg (Value.int .i64) hI.time) ?_
       refine dj_eff rfl fun K2 hK2 => ?_
       refine j_callQ (φ := fun v => v = .int .u64 (oneN 10 fs : Nat)) Tryz.call21 rfl rfl (fun w3 hH hf => one_c w3 _ true 10 fs (hfl.mono (fr_row hf rfl) (fr_row hf rfl)) (by omega)) fun v hv => ?_
       subst hv
       refine j_nil (ej_then (hK2 _ _ (.inr (sub_of [1, 2] rfl)) ?_)); clear hK2 K2
       refine dj_val rfl rfl (sub_of [1, 2] rfl) (fun _ _ h => r_conv Tryz.runUnderlying59 Tryz.runUnderlying2 rfl h) ?_
       refine dj_eqv (u := .int .i64 x.dur) (congrArg (Value.int .i64) hI.dur) ?_
       refine dj_eff rfl fun K2 hK2 => ?_
       refine j_callQ (φ := fun v => v = .int .u64 (oneN 12 fs : Nat)) Tryz.call21 rfl rfl (fun w3 hH hf => one_c w3 _ true 12 fs (hfl.mono (fr_row hf rfl) (fr_row hf rfl)) (by omega)) fun v hv => ?_
       subst hv
       refine j_nil (ej_then (hK2 _ _ (.inr (sub_of [1, 2] rfl)) ?_)); clear hK2 K2
       refine dj_val rfl rfl (sub_of [1, 2] rfl) (fun _ _ h => r_conv Tryz.runUnderlying59 Tryz.runUnderlying2 rfl h) ?_
       refine dj_eqv (u := .int .i64 x.period) (congrArg (Value.int .i64) hI.period) ?_
       refine dj_eff rfl fun K2 hK2 => ?_
       refine j_callQ (φ := fun v => v = .int .u64 (oneN 14 fs : Nat)) Tryz.call21 rfl rfl (fun w3 hH hf => one_c w3 _ true 14 fs (hfl.mono (fr_row hf rfl) (fr_row hf rfl)) (by omega)) fun v hv => ?_
       subst hv
       refine j_nil (ej_then (hK2 _ _ (.inr (sub_of [1, 2] rfl)) ?_)); clear hK2 K2
       refine dj_eff rfl fun K2 hK2 => ?_
       refine j_callQ (φ := fun v => v = .string (x.deflt)) Tryz.call20 rfl rfl (fun w3 hH hf => text_c w3 b38 _ T _ ⟨_, hH.blk (x := eI b38 tDec [.slice (some ⟨bt, 0, none⟩) T.length cc, .bool false]) (by repeat (first | exact List.Mem.head _ | apply List.Mem.tail)) rfl, htb.mono (fr_row hf rfl)⟩ hI.dfl hTl) fun v hv => ?_
       subst hv
       refine j_nil (ej_then (hK2 _ _ (.inr (sub_of [1, 2] rfl)) ?_)); clear hK2 K2
       refine dj_val rfl rfl (sub_of [1, 2] rfl) (fun _ _ h => r_build (cs := [(.slice none 0 0), _, (.slice none 0 0), (.slice none 0 0), (.slice none 0 0), (.slice none 0 0), (.slice none 0 0), _, _, _, _, _, (.string ⟨#[]⟩), (.string ⟨#[]⟩)]) bt31 rfl rfl h) (dj_eff rfl fun K2 hK2 => ?_)
       refine j_storeN (cs' := [_, _, _, _, _, _, _, _, _, _, _, _, _, _]) (H' := [_, _, _, _]) 0 rfl rfl rfl rfl Tryz.sizeOf31 rfl rfl rfl rfl rfl rfl rfl ?_
       refine j_nil (ej_then (hK2 _ _ (.inl rfl) ?_)); clear hK2 K2
       refine dj_end ?_
       exact ej_then (hKJ b8 _ _ ⟨rfl, rfl, rfl, rfl, trivial⟩ fun w h => h)
      ·refine j_callQ (φ := fun v => v = .string (x.keep)) Tryz.call20 rfl rfl (fun w3 hH hf => text_c w3 b38 _ T _ ⟨_, hH.blk (x := eI b38 tDec [.slice (some ⟨bt, 0, none⟩) T.length cc, .bool false]) (by repeat (first | exact List.Mem.head _ | apply List.Mem.tail)) rfl, htb.mono (fr_row hf rfl)⟩ hI.keep hTl) fun v hv => ?_
       subst hv
       refine j_nil (ej_then (hK2 _ _ (sub_of [0, 1] rfl) ?_)); clear hK2 K2
       refine df_fork rfl rfl rfl (fun K2 hK2 => ?_) (fun K2 hK2 => ?_)
       ·refine j_allocA (zs := [(.slice none 0 0), (.string ⟨#[]⟩), (.slice none 0 0), (.slice none 0 0), (.slice none 0 0), (.slice none 0 0), (.slice none 0 0), (.string ⟨#[]⟩), (.string ⟨#[]⟩), (.int .i64 0), (.int .i64 0), (.int .i64 0), (.string ⟨#[]⟩), (.string ⟨#[]⟩)]) Tryz.zeroValue31 rfl fun b8 => ?_
        refine j_nil (ej_then (hK2 _ _ (sub_of [1, 2] rfl) ?_)); clear hK2 K2
        refine dj_eff rfl fun K2 hK2 => ?_
        refine j_callQ (φ := fun v => v = .int .u64 (oneN 9 fs : Nat)) Tryz.call21 rfl rfl (fun w3 hH hf => one_c w3 _ true 9 fs (hfl.mono (fr_row hf rfl) (fr_row hf rfl)) (by omega)) fun v hv => ?_
        subst hv
        refine j_nil (ej_then (hK2 _ _ (.inr (sub_of [1, 2] rfl)) ?_)); clear hK2 K2
        refine dj_val rfl rfl (sub_of [1, 2] rfl) (fun _ _ h => r_conv Tryz.runUnderlying59 Tryz.runUnderlying2 rfl h) ?_
        refine dj_eqv (u := .int .i64 x.time) (congrArg (Value.int .i64) hI.time) ?_
        refine dj_eff rfl fun K2 hK2 => ?_
        refine j_callQ (φ := fun v => v = .int .u64 (oneN 10 fs : Nat)) Tryz.call21 rfl rfl (fun w3 hH hf => one_c w3 _ true 10 fs (hfl.mono (fr_row hf rfl) (fr_row hf rfl)) (by omega)) fun v hv => ?_
        subst hv
        refine j_nil (ej_then (hK2 _ _ (.inr (sub_of [1, 2] rfl)) ?_)); clear hK2 K2
        refine dj_val rfl rfl (sub_of [1, 2] rfl) (fun _ _ h => r_conv Tryz.runUnderlying59 Tryz.runUnderlying2 rfl h) ?_
        refine dj_eqv (u := .int .i64 x.dur) (congrArg (Value.int .i64) hI.dur) ?_
        refine dj_eff rfl fun K2 hK2 => ?_
        refine j_callQ (φ := fun v => v = .int .u64 (oneN 12 fs : Nat)) Tryz.call21 rfl rfl (fun w3 hH hf => one_c w3 _ true 12 fs (hfl.mono (fr_row hf rfl) (fr_row hf rfl)) (by omega)) fun v hv => ?_
        subst hv
        refine j_nil (ej_then (hK2 _ _ (.inr (sub_of [1, 2] rfl)) ?_)); clear hK2 K2
        refine dj_val rfl rfl (sub_of [1, 2] rfl) (fun _ _ h => r_conv Tryz.runUnderlying59 Tryz.runUnderlying2 rfl h) ?_
        refine dj_eqv (u := .int .i64 x.period) (congrArg (Value.int .i64) hI.period) ?_
        refine dj_eff rfl fun K2 hK2 => ?_
        refine j_callQ (φ := fun v => v = .int .u64 (oneN 14 fs : Nat)) Tryz.call21 rfl rfl (fun w3 hH hf => one_c w3 _ true 14 fs (hfl.mono (fr_row hf rfl) (fr_row hf rfl)) (by omega)) fun v hv => ?_
        subst hv
        refine j_nil (ej_then (hK2 _ _ (.inr (sub_of [1, 2] rfl)) ?_)); clear hK2 K2
        refine dj_eff rfl fun K2 hK2 => ?_
        refine j_callQ (φ := fun v => v = .string (x.deflt)) Tryz.call20 rfl rfl (fun w3 hH hf => text_c w3 b38 _ T _ ⟨_, hH.blk (x := eI b38 tDec [.slice (some ⟨bt, 0, none⟩) T.length cc, .bool false]) (by repeat (first | exact List.Mem.head _ | apply List.Mem.tail)) rfl, htb.mono (fr_row hf rfl)⟩ hI.dfl hTl) fun v hv => ?_
        subst hv
        refine j_nil (ej_then (hK2 _ _ (.inr (sub_of [1, 2] rfl)) ?_)); clear hK2 K2
        refine dj_val rfl rfl (sub_of [1, 2] rfl) (fun _ _ h => r_build (cs := [(.slice none 0 0), _, (.slice none 0 0), (.slice none 0 0), (.slice none 0 0), (.slice none 0 0), (.slice none 0 0), _, _, _, _, _, (.string ⟨#[]⟩), (.string ⟨#[]⟩)]) bt31 rfl rfl h) (dj_eff rfl fun K2 hK2 => ?_)
        refine j_storeN (cs' := [_, _, _, _, _, _, _, _, _, _, _, _, _, _]) (H' := [_, _, _, _]) 0 rfl rfl rfl rfl Tryz.sizeOf31 rfl rfl rfl rfl rfl rfl rfl ?_
        refine j_nil (ej_then (hK2 _ _ (.inl rfl) ?_)); clear hK2 K2
        refine dj_end ?_
        exact ej_then (hKJ b8 _ _ ⟨rfl, rfl, rfl, rfl, trivial⟩ fun w h => h)
       ·refine j_callQ (φ := fun v => v = .int .u64 (oneN 9 fs : Nat)) Tryz.call21 rfl rfl (fun w3 hH hf => one_c w3 _ true 9 fs (hfl.mono (fr_row hf rfl) (fr_row hf rfl)) (by omega)) fun v hv => ?_
        subst hv
        refine j_nil (ej_then (hK2 _ _ (sub_of [0, 1] rfl) ?_)); clear hK2 K2
        refine df_val rfl rfl (sub_of [0, 1] rfl) (fun _ _ h => r_conv Tryz.runUnderlying59 Tryz.runUnderlying2 rfl h) ?_
        refine df_eqv (u := .int .i64 x.time) (congrArg (Value.int .i64) hI.time) ?_
        refine df_fork rfl rfl rfl (fun K2 hK2 => ?_) (fun K2 hK2 => ?_)
        ·refine j_allocA (zs := [(.slice none 0 0), (.string ⟨#[]⟩), (.slice none 0 0), (.slice none 0 0), (.slice none 0 0), (.slice none 0 0), (.slice none 0 0), (.string ⟨#[]⟩), (.string ⟨#[]⟩), (.int .i64 0), (.int .i64 0), (.int .i64 0), (.string ⟨#[]⟩), (.string ⟨#[]⟩)]) Tryz.zeroValue31 rfl fun b8 => ?_
         refine j_nil (ej_then (hK2 _ _ (sub_of [1, 2] rfl) ?_)); clear hK2 K2
         refine dj_eff rfl fun K2 hK2 => ?_
         refine j_callQ (φ := fun v => v = .int .u64 (oneN 10 fs : Nat)) Tryz.call21 rfl rfl (fun w3 hH hf => one_c w3 _ true 10 fs (hfl.mono (fr_row hf rfl) (fr_row hf rfl)) (by omega)) fun v hv => ?_
         subst hv
         refine j_nil (ej_then (hK2 _ _ (.inr (sub_of [1, 2] rfl)) ?_)); clear hK2 K2
         refine dj_val rfl rfl (sub_of [1, 2] rfl) (fun _ _ h => r_conv Tryz.runUnderlying59 Tryz.runUnderlying2 rfl h) ?_
         refine dj_eqv (u := .int .i64 x.dur) (congrArg (Value.int .i64) hI.dur) ?_
         refine dj_eff rfl fun K2 hK2 => ?_
         refine j_callQ (φ := fun v => v = .int .u64 (oneN 12 fs : Nat)) Tryz.call21 rfl rfl (fun w3 hH hf => one_c w3 _ true 12 fs (hfl.mono (fr_row hf rfl) (fr_row hf rfl)) (by omega)) fun v hv => ?_
         subst hv
         refine j_nil (ej_then (hK2 _ _ (.inr (sub_of [1, 2] rfl)) ?_)); clear hK2 K2
         refine dj_val rfl rfl (sub_of [1, 2] rfl) (fun _ _ h => r_conv Tryz.runUnderlying59 Tryz.runUnderlying2 rfl h) ?_
         refine dj_eqv (u := .int .i64 x.period) (congrArg (Value.int .i64) hI.period) ?_
         refine dj_eff rfl fun K2 hK2 => ?_
         refine j_callQ (φ := fun v => v = .int .u64 (oneN 14 fs : Nat)) Tryz.call21 rfl rfl (fun w3 hH hf => one_c w3 _ true 14 fs (hfl.mono (fr_row hf rfl) (fr_row hf rfl)) (by omega)) fun v hv => ?_
         subst hv
         refine j_nil (ej_then (hK2 _ _ (.inr (sub_of [1, 2] rfl)) ?_)); clear hK2 K2
         refine dj_eff rfl fun K2 hK2 => ?_
         refine j_callQ (φ := fun v => v = .string (x.deflt)) Tryz.call20 rfl rfl (fun w3 hH hf => text_c w3 b38 _ T _ ⟨_, hH.blk (x := eI b38 tDec [.slice (some ⟨bt, 0, none⟩) T.length cc, .bool false]) (by repeat (first | exact List.Mem.head _ | apply List.Mem.tail)) rfl, htb.mono (fr_row hf rfl)⟩ hI.dfl hTl) fun v hv => ?_
         subst hv
         refine j_nil (ej_then (hK2 _ _ (.inr (sub_of [1, 2] rfl)) ?_)); clear hK2 K2
         refine dj_val rfl rfl (sub_of [1, 2] rfl) (fun _ _ h => r_build (cs := [(.slice none 0 0), _, (.slice none 0 0), (.slice none 0 0), (.slice none 0 0), (.slice none 0 0), (.slice none 0 0), _, _, _, _, _, (.string ⟨#[]⟩), (.string ⟨#[]⟩)]) bt31 rfl rfl h) (dj_eff rfl fun K2 hK2 => ?_)
         refine j_storeN (cs' := [_, _, _, _, _, _, _, _, _, _, _, _, _, _]) (H' := [_, _, _, _]) 0 rfl rfl rfl rfl Tryz.sizeOf31 rfl rfl rfl rfl rfl rfl rfl ?_
         refine j_nil (ej_then (hK2 _ _ (.inl rfl) ?_)); clear hK2 K2
         refine dj_end ?_
         exact ej_then (hKJ b8 _ _ ⟨rfl, rfl, rfl, rfl, trivial⟩ fun w h => h)
        ·refine j_callQ (φ := fun v => v = .int .u64 (oneN 10 fs : Nat)) Tryz.call21 rfl rfl (fun w3 hH hf => one_c w3 _ true 10 fs (hfl.mono (fr_row hf rfl) (fr_row hf rfl)) (by omega)) fun v hv => ?_
         subst hv
         refine j_nil (ej_then (hK2 _ _ (sub_of [0, 1] rfl) ?_)); clear hK2 K2
         refine df_val rfl rfl (sub_of [0, 1] rfl) (fun _ _ h => r_conv Tryz.runUnderlying59 Tryz.runUnderlying2 rfl h) ?_
         refine df_eqv (u := .int .i64 x.dur) (congrArg (Value.int .i64) hI.dur) ?_
         refine df_fork rfl rfl rfl (fun K2 hK2 => ?_) (fun K2 hK2 => ?_)
         ·refine j_allocA (zs := [(.slice none 0 0), (.string ⟨#[]⟩), (.slice none 0 0), (.slice none 0 0), (.slice none 0 0), (.slice none 0 0), (.slice none 0 0), (.string ⟨#[]⟩), (.string ⟨#[]⟩), (.int .i64 0), (.int .i64 0), (.int .i64 0), (.string ⟨#[]⟩), (.string ⟨#[]⟩)]) Tryz.zeroValue31 rfl fun b8 => ?_
          refine j_nil (ej_then (hK2 _ _ (sub_of [1, 2] rfl) ?_)); clear hK2 K2
          refine dj_eff rfl fun K2 hK2 => ?_
          refine j_callQ (φ := fun v => v = .int .u64 (oneN 12 fs : Nat)) Tryz.call21 rfl rfl (fun w3 hH hf => one_c w3 _ true 12 fs (hfl.mono (fr_row hf rfl) (fr_row hf rfl)) (by omega)) fun v hv => ?_
          subst hv
          refine j_nil (ej_then (hK2 _ _ (.inr (sub_of [1, 2] rfl)) ?_)); clear hK2 K2
          refine dj_val rfl rfl (sub_of [1, 2] rfl) (fun _ _ h => r_conv Tryz.runUnderlying59 Tryz.runUnderlying2 rfl h) ?_
          refine dj_eqv (u := .int .i64 x.period) (congrArg (Value.int .i64) hI.period) ?_
          refine dj_eff rfl fun K2 hK2 => ?_
          refine j_callQ (φ := fun v => v = .int .u64 (oneN 14 fs : Nat)) Tryz.call21 rfl rfl (fun w3 hH hf => one_c w3 _ true 14 fs (hfl.mono (fr_row hf rfl) (fr_row hf rfl)) (by omega)) fun v hv => ?_
          subst hv
          refine j_nil (ej_then (hK2 _ _ (.inr (sub_of [1, 2] rfl)) ?_)); clear hK2 K2
          refine dj_eff rfl fun K2 hK2 => ?_
          refine j_callQ (φ := fun v => v = .string (x.deflt)) Tryz.call20 rfl rfl (fun w3 hH hf => text_c w3 b38 _ T _ ⟨_, hH.blk (x := eI b38 tDec [.slice (some ⟨bt, 0, none⟩) T.length cc, .bool false]) (by repeat (first | exact List.Mem.head _ | apply List.Mem.tail)) rfl, htb.mono (fr_row hf rfl)⟩ hI.dfl hTl) fun v hv => ?_
          subst hv
          refine j_nil (ej_then (hK2 _ _ (.inr (sub_of [1, 2] rfl)) ?_)); clear hK2 K2
          refine dj_val rfl rfl (sub_of [1, 2] rfl) (fun _ _ h => r_build (cs := [(.slice none 0 0), _, (.slice none 0 0), (.slice none 0 0), (.slice none 0 0), (.slice none 0 0), (.slice none 0 0), _, _, _, _, _, (.string ⟨#[]⟩), (.string ⟨#[]⟩)]) bt31 rfl rfl h) (dj_eff rfl fun K2 hK2 => ?_)
          refine j_storeN (cs' := [_, _, _, _, _, _, _, _, _, _, _, _, _, _]) (H' := [_, _, _, _]) 0 rfl rfl rfl rfl Tryz.sizeOf31 rfl rfl rfl rfl rfl rfl rfl ?_
          refine j_nil (ej_then (hK2 _ _ (.inl rfl) ?_)); clear hK2 K2
          refine dj_end ?_
          exact ej_then (hKJ b8 _ _ ⟨rfl, rfl, rfl, rfl, trivial⟩ fun w h => h)
         ·refine j_callQ (φ := fun v => v = .int .u64 (oneN 12 fs : Nat)) Tryz.call21 rfl rfl (fun w3 hH hf => one_c w3 _ true 12 fs (hfl.mono (fr_row hf rfl) (fr_row hf rfl)) (by omega)) fun v hv => ?_
          subst hv
          refine j_nil (ej_then (hK2 _ _ (sub_of [0, 1] rfl) ?_)); clear hK2 K2
          refine df_val rfl rfl (sub_of [0, 1] rfl) (fun _ _ h => r_conv Tryz.runUnderlying59 Tryz.runUnderlying2 rfl h) ?_
          refine df_eqv (u := .int .i64 x.period) (congrArg (Value.int .i64) hI.period) ?_
          refine df_fork rfl rfl rfl (fun K2 hK2 => ?_) (fun K2 hK2 => ?_)
          ·refine j_allocA (zs := [(.slice none 0 0), (.string ⟨#[]⟩), (.slice none 0 0), (.slice none 0 0), (.slice none 0 0), (.slice none 0 0), (.slice none 0 0), (.string ⟨#[]⟩), (.string ⟨#[]⟩), (.int .i64 0), (.int .i64 0), (.int .i64 0), (.string ⟨#[]⟩), (.string ⟨#[]⟩)]) Tryz.zeroValue31 rfl fun b8 => ?_
           refine j_nil (ej_then (hK2 _ _ (sub_of [1, 2] rfl) ?_)); clear hK2 K2
           refine dj_eff rfl fun K2 hK2 => ?_
           refine j_callQ (φ := fun v => v = .int .u64 (oneN 14 fs : Nat)) Tryz.call21 rfl rfl (fun w3 hH hf => one_c w3 _ true 14 fs (hfl.mono (fr_row hf rfl) (fr_row hf rfl)) (by omega)) fun v hv => ?_
           subst hv
           refine j_nil (ej_then (hK2 _ _ (.inr (sub_of [1, 2] rfl)) ?_)); clear hK2 K2
           refine dj_eff rfl fun K2 hK2 => ?_
           refine j_callQ (φ := fun v => v = .string (x.deflt)) Tryz.call20 rfl rfl (fun w3 hH hf => text_c w3 b38 _ T _ ⟨_, hH.blk (x := eI b38 tDec [.slice (some ⟨bt, 0, none⟩) T.length cc, .bool false]) (by repeat (first | exact List.Mem.head _ | apply List.Mem.tail)) rfl, htb.mono (fr_row hf rfl)⟩ hI.dfl hTl) fun v hv => ?_
           subst hv
           refine j_nil (ej_then (hK2 _ _ (.inr (sub_of [1, 2] rfl)) ?_)); clear hK2 K2
           refine dj_val rfl rfl (sub_of [1, 2] rfl) (fun _ _ h => r_build (cs := [(.slice none 0 0), _, (.slice none 0 0), (.slice none 0 0), (.slice none 0 0), (.slice none 0 0), (.slice none 0 0), _, _, _, _, _, (.string ⟨#[]⟩), (.string ⟨#[]⟩)]) bt31 rfl rfl h) (dj_eff rfl fun K2 hK2 => ?_)
           refine j_storeN (cs' := [_, _, _, _, _, _, _, _, _, _, _, _, _, _]) (H' := [_, _, _, _]) 0 rfl rfl rfl rfl Tryz.sizeOf31 rfl rfl rfl rfl rfl rfl rfl ?_
           refine j_nil (ej_then (hK2 _ _ (.inl rfl) ?_)); clear hK2 K2
           refine dj_end ?_
           exact ej_then (hKJ b8 _ _ ⟨rfl, rfl, rfl, rfl, trivial⟩ fun w h => h)
          ·refine j_callQ (φ := fun v => v = .int .u64 (oneN 14 fs : Nat)) Tryz.call21 rfl rfl (fun w3 hH hf => one_c w3 _ true 14 fs (hfl.mono (fr_row hf rfl) (fr_row hf rfl)) (by omega)) fun v hv => ?_
           subst hv
           refine j_nil (ej_then (hK2 _ _ (sub_of [0, 1] rfl) ?_)); clear hK2 K2
           refine df_fork rfl rfl rfl (fun K2 hK2 => ?_) (fun K2 hK2 => ?_)
           ·refine j_allocA (zs := [(.slice none 0 0), (.string ⟨#[]⟩), (.slice none 0 0), (.slice none 0 0), (.slice none 0 0), (.slice none 0 0), (.slice none 0 0), (.string ⟨#[]⟩), (.string ⟨#[]⟩), (.int .i64 0), (.int .i64 0), (.int .i64 0), (.string ⟨#[]⟩), (.string ⟨#[]⟩)]) Tryz.zeroValue31 rfl fun b8 => ?_
            refine j_nil (ej_then (hK2 _ _ (sub_of [1, 2] rfl) ?_)); clear hK2 K2
            refine dj_eff rfl fun K2 hK2 => ?_
            refine j_callQ (φ := fun v => v = .string (x.deflt)) Tryz.call20 rfl rfl (fun w3 hH hf => text_c w3 b38 _ T _ ⟨_, hH.blk (x := eI b38 tDec [.slice (some ⟨bt, 0, none⟩) T.length cc, .bool false]) (by repeat (first | exact List.Mem.head _ | apply List.Mem.tail)) rfl, htb.mono (fr_row hf rfl)⟩ hI.dfl hTl) fun v hv => ?_
            subst hv
            refine j_nil (ej_then (hK2 _ _ (.inr (sub_of [1, 2] rfl)) ?_)); clear hK2 K2
            refine dj_val rfl rfl (sub_of [1, 2] rfl) (fun _ _ h => r_build (cs := [(.slice none 0 0), _, (.slice none 0 0), (.slice none 0 0), (.slice none 0 0), (.slice none 0 0), (.slice none 0 0), _, _, _, _, _, (.string ⟨#[]⟩), (.string ⟨#[]⟩)]) bt31 rfl rfl h) (dj_eff rfl fun K2 hK2 => ?_)
            refine j_storeN (cs' := [_, _, _, _, _, _, _, _, _, _, _, _, _, _]) (H' := [_, _, _, _]) 0 rfl rfl rfl rfl Tryz.sizeOf31 rfl rfl rfl rfl rfl rfl rfl ?_
            refine j_nil (ej_then (hK2 _ _ (.inl rfl) ?_)); clear hK2 K2
            refine dj_end ?_
            exact ej_then (hKJ b8 _ _ ⟨rfl, rfl, rfl, rfl, trivial⟩ fun w h => h)
           ·refine j_callQ (φ := fun v => v = .string (x.deflt)) Tryz.call20 rfl rfl (fun w3 hH hf => text_c w3 b38 _ T _ ⟨_, hH.blk (x := eI b38 tDec [.slice (some ⟨bt, 0, none⟩) T.length cc, .bool false]) (by repeat (first | exact List.Mem.head _ | apply List.Mem.tail)) rfl, htb.mono (fr_row hf rfl)⟩ hI.dfl hTl) fun v hv => ?_
            subst hv
            refine j_nil (ej_then (hK2 _ _ (sub_of [0, 1] rfl) ?_)); clear hK2 K2
            refine df_val rfl rfl (sub_of [0, 1] rfl) (fun _ _ h => r_build (cs := [(.slice none 0 0), _, (.slice none 0 0), (.slice none 0 0), (.slice none 0 0), (.slice none 0 0), (.slice none 0 0), _, _, _, _, _, (.string ⟨#[]⟩), (.string ⟨#[]⟩)]) bt31 rfl rfl h) ?_
            refine df_al rfl fun K2 hK2 => ?_
            refine j_allocA (zs := [(.slice none 0 0), (.string ⟨#[]⟩), (.slice none 0 0), (.slice none 0 0), (.slice none 0 0), (.slice none 0 0), (.slice none 0 0), (.string ⟨#[]⟩), (.string ⟨#[]⟩), (.int .i64 0), (.int .i64 0), (.int .i64 0), (.string ⟨#[]⟩), (.string ⟨#[]⟩)]) Tryz.zeroValue31 rfl fun b8 => ?_
            refine j_nil (ej_then (hK2 _ _ (sub_of [1, 2] rfl) ?_)); clear hK2 K2
            refine dj_eff rfl fun K2 hK2 => ?_
            refine j_storeN (cs' := [_, _, _, _, _, _, _, _, _, _, _, _, _, _]) (H' := [_, _, _, _]) 0 rfl rfl rfl rfl Tryz.sizeOf31 rfl rfl rfl rfl rfl rfl rfl ?_
            refine j_nil (ej_then (hK2 _ _ (.inl rfl) ?_)); clear hK2 K2
            refine dj_end ?_
            exact ej_then (hKJ b8 _ _ ⟨rfl, rfl, rfl, rfl, trivial⟩ fun w h => h)
  ·refine cj_seqF fun K13 hK13 => cj_seqF fun K14 hK14 => cj_reg (j_valw rfl (fun a w ha hH hf => r_ldA (vs := [_, _]) 2 rfl rfl Tryz.isAgg54 Tryz.sizeOf54 rfl rfl rfl ha hH) ?_)
   refine j_callE (R := fun w3 v w4 => Msgs w4 v gts ∧ Fr 0 [] w3 w4) Tryz.call22 rfl rfl (fun w3 hH hf => parts_c w3 _ true 1 _ gts (hfl.mono (fr_row hf rfl) (fr_row hf rfl)) hfl9 hgS1) fun w3 v w4 hH3 hf3 hR => ?_
   obtain ⟨hms0, hf34⟩ := hR
   obtain ⟨pm1, cm1, rfl, -⟩ := hms0.cells
   have hsz0 := hsz
   replace hfl : Flds w4 (.slice pf fs.length cf) fs := hfl.mono (fr_row (hf3.fr hf34) rfl) (fr_row (hf3.fr hf34) rfl)
   replace htb : OS tStr 1 w4 (.slice (some ⟨bt, 0, none⟩) T.length cc) (T.map .string) := htb.mono (fr_row (hf3.fr hf34) rfl)
   replace hfr : Fr 0 [] w w4 := Fr.trans hfr (hf3.fr hf34) (.inl (Nat.le_refl _))
   replace hsz : w.heap.size ≤ w4.heap.size := hfr.size
   refine J.begin ⟨w4, w.heap.size, [tIP, tDec, tTy]⟩ [eI b8 tIP (cO x (vN) (vN) (vN) (vN) (vN) ⟨eB, eB⟩), eI b38 tDec [.slice (some ⟨bt, 0, none⟩) T.length cc, .bool false], ⟨b4, tMsg, [.slice pf fs.length cf, .bool true], false, true, none⟩, eI b2 tIP zIP] ok_refl (Hp.again hsz0 (hH3.fr hf34) (TagOK.row (.row (.ro (.row .nil rfl) rfl) rfl) rfl)) ?_
   have hms1 := hms0
   clear hH3 hf3 hf34 hms0 hsz0
   refine j_val rfl (fun _ _ h => r_len Tryz.runUnderlying64 rfl h) (jM rfl rfl (j_nil (ej_then (hK14 _ _ _ (CJ.s [(2, _), (4, _), (5, _), (8, _), (106, _), (107, _), (108, _)] ⟨rfl, rfl, rfl, rfl, rfl, rfl, rfl, trivial⟩ (cj_block ?_))))))
   -- LOOP 1 live [2, 4, 5, 8, 106, 107, 108]
   intro w9 hH9 hf9
   replace hfr : Fr 0 [] w w9 := Fr.trans hfr hf9 (.inl (Nat.le_refl _))
   replace hfl : Flds w9 (.slice pf fs.length cf) fs := hfl.mono (fr_row hf9 rfl) (fr_row hf9 rfl)
   replace htb : OS tStr 1 w9 (.slice (some ⟨bt, 0, none⟩) T.length cc) (T.map .string) := htb.mono (fr_row hf9 rfl)
   replace hms1 : Msgs w9 (.slice pm1 gts.length cm1) gts := hms1.mono (fr_row hf9 rfl) (fr_row hf9 rfl) (fr_row hf9 rfl)
   have hHw := hH9.back (W0 := []) hsz (.inl (Nat.le_refl _))
   clear hH9 hf9 hsz
   refine c_loop (σ := Nat × Ent × Option Addr × Nat) (fun s => [(2, ptr b2), (4, ptr b4), (5, ptr b38), (8, ptr b8), (106, .slice pm1 gts.length cm1), (107, .int .i64 (gts.length : Nat)), (108, .int .i64 (s.1 : Nat))])
    (fun s w9 => s.1 ≤ gts.length ∧ Fr 0 [] w w9 ∧ Hp ⟨w, w.heap.size, []⟩ w9 [s.2.1, eI b8 tIP (cO x (.slice s.2.2.1 s.1 s.2.2.2) (vN) (vN) (vN) (vN) ⟨eB, eB⟩), eI b38 tDec [.slice (some ⟨bt, 0, none⟩) T.length cc, .bool false], ⟨b4, tMsg, [.slice pf fs.length cf, .bool true], false, true, none⟩, eI b2 tIP zIP] ∧ Own tTy 2 s.2.1 s.2.2.1 s.1 s.2.2.2 ((x.types.take s.1).flatMap cTyI) ∧ Flds w9 (.slice pf fs.length cf) fs ∧ OS tStr 1 w9 (.slice (some ⟨bt, 0, none⟩) T.length cc) (T.map .string) ∧ Msgs w9 (.slice pm1 gts.length cm1) gts) (fun s => gts.length - s.1)
    (0, nilE tTy, none, 0) ⟨rfl, rfl, rfl, rfl, rfl, rfl, rfl, trivial⟩ ⟨Nat.zero_le _, hfr, Hp.off hHw, Own.nil, hfl, htb, hms1⟩ ?_
   rintro ⟨k, y1, p1, c1⟩ w8 ⟨hk1, hfr8, hHw8, hO, hfl8, htb8, hms18⟩ KL1 hKL1
   replace hk1 : k ≤ gts.length := hk1
   replace hO : Own tTy 2 y1 p1 k c1 ((x.types.take k).flatMap cTyI) := hO
   replace hfr : Fr 0 [] w w8 := hfr8
   replace hfl : Flds w8 (.slice pf fs.length cf) fs := hfl8
   replace htb : OS tStr 1 w8 (.slice (some ⟨bt, 0, none⟩) T.length cc) (T.map .string) := htb8
   replace hms1 : Msgs w8 (.slice pm1 gts.length cm1) gts := hms18
   have hsz : w.heap.size ≤ w8.heap.size := hfr.size
   refine C.begin ⟨w8, w.heap.size, [tIP, tDec, tTy]⟩ [y1, eI b8 tIP (cO x (.slice p1 k c1) (vN) (vN) (vN) (vN) ⟨eB, eB⟩), eI b38 tDec [.slice (some ⟨bt, 0, none⟩) T.length cc, .bool false], ⟨b4, tMsg, [.slice pf fs.length cf, .bool true], false, true, none⟩, eI b2 tIP zIP] ok_refl (Hp.again (Nat.le_refl _) hHw8 (TagOK.own (.row (.row (.ro (.row .nil rfl) rfl) rfl) rfl) hO rfl)) ?_
   clear hHw8 hHw
   refine CJ.s [(2, ptr b2), (4, ptr b4), (5, ptr b38), (8, ptr b8), (106, .slice pm1 gts.length cm1), (107, .int .i64 (gts.length : Nat)), (108, .int .i64 (k : Nat))] ⟨rfl, rfl, rfl, rfl, rfl, rfl, rfl, trivial⟩ (cj_seqF fun K15 hK15 => cj_reg (j_val rfl (fun _ _ h => r_lss rfl rfl h) (j_nil (ej_then (hK15 _ _ _ (CJ.s [(2, _), (4, _), (5, _), (8, _), (106, _), (107, _), (108, _), (109, _)] ⟨rfl, rfl, rfl, rfl, rfl, rfl, rfl, rfl, trivial⟩ (cj_seqF fun K16 hK16 => ?_)))))))
   refine cj_dec rfl (fun h109 => ?_) (fun h109 => ?_)
   ·have hk' : k < gts.length := by omega
    have hkx : k < x.types.length := by omega
    obtain ⟨_, hTy⟩ := hgA1.at_ hkx
    obtain ⟨p9, c9, e9, hcm⟩ := hms1.cells
    injection e9 with e1 e2 e3
    subst e1; subst e3
    obtain ⟨bm, pl, ll, cl, rfl, hFg0, hcell0⟩ := hcm k gts[k] (List.getElem?_eq_getElem hk')
    have hcell : ∀ w', Fm.ok ⟨w8, w.heap.size, [tIP, tDec, tTy]⟩ w' → ∀ (jj : Nat) (u : Value), ([.slice pl ll cl, .bool true] : List Value)[jj]? = some u → w'.cell? ⟨bm, 0 + k * 2 + jj, none⟩ = some u := fun w' hf => hcell0 [tIP, tDec, tTy] rfl w' (hf.mono (.inr ⟨Nat.zero_le _, fun _ h => h⟩))
    have hFg : ∀ w', Fm.ok ⟨w8, w.heap.size, [tIP, tDec, tTy]⟩ w' → Flds w' (.slice pl ll cl) gts[k] := fun w' hf => hFg0.mono (fr_row hf rfl) (fr_row hf rfl)
    clear hFg0 hcell0 hcm
    refine cj_skip (ej_then (hK16 _ _ _ (CJ.s [(2, _), (4, _), (5, _), (8, _), (106, _), (107, _), (108, _)] ⟨rfl, rfl, rfl, rfl, rfl, rfl, rfl, trivial⟩ (cj_seqF fun K17 hK17 => cj_block (cj_seqF fun K18 hK18 => cj_reg (j_val rfl (fun _ _ h => r_idx Tryz.runUnderlying64 Tryz.sizeOf54 rfl rfl (by omega) h) (j_valw rfl (fun a w ha hH hf => r_loadA Tryz.isAgg54 Tryz.sizeOf54 rfl rfl (hcell w (hf)) ha) ?_)))))))
    refine j_allocA (zs := [(.slice none 0 0), (.bool false)]) Tryz.zeroValue54 rfl fun b10 => ?_
    refine j_storeN (cs' := [_, _]) (H' := [_, _, _, _, _, _]) 0 rfl rfl rfl rfl Tryz.sizeOf54 rfl rfl rfl rfl rfl rfl rfl ?_
    refine j_nil (ej_then (hK18 _ _ _ (CJ.s [(2, _), (4, _), (5, _), (8, _), (10, _), (106, _), (107, _), (108, _)] ⟨rfl, rfl, rfl, rfl, rfl, rfl, rfl, rfl, trivial⟩ ?_)))
    refine cj_drawI 8 [(0, true), (1, true), (2, true), (3, true), (4, false), (5, false), (6, false), (7, true), (8, false)] [0, 2] rfl (by kernel_rfl) (by kernel_rfl) ?_
    refine dj_val rfl rfl (sub_of [0, 2] rfl) (fun _ _ h => r_fl (q := 0) (ft := 22) Tryz.runUnderlying31 rfl Tryz.sizeOf22 rfl h) (dj_ld rfl rfl (sub_of [0, 2] rfl) (fun a w ha hS => r_ldS 1 rfl rfl Tryz.isAgg22 rfl rfl ha hS) (dj_val rfl rfl (sub_of [0, 2] rfl) (fun _ _ h => r_move rfl h) (dj_ld rfl rfl (sub_of [0, 2] rfl) (fun a w ha hS => r_ldSA (vs := [_, _]) 0 rfl rfl Tryz.isAgg54 Tryz.sizeOf54 rfl rfl rfl ha hS) (dj_eff rfl fun K2 hK2 => ?_))))
    refine j_callQ (φ := fun v => v = .agg #[.string x.types[k].ty, .string x.types[k].unit]) Tryz.call23 rfl rfl (fun w3 hH hf => typed_c w3 b38 T _ gts[k] _ _ ⟨_, hH.blk (x := eI b38 tDec [.slice (some ⟨bt, 0, none⟩) T.length cc, .bool false]) (by repeat (first | exact List.Mem.head _ | apply List.Mem.tail)) rfl, htb.mono (fr_row hf rfl)⟩ (hFg w3 hf) hTy.h1 hTy.h2 hTl hTy.len) fun v hv => ?_
    subst hv
    refine j_nil (ej_then (hK2 _ _ (.inr (sub_of [0, 2] rfl)) ?_)); clear hK2 K2
    refine dj_eff rfl fun K2 hK2 => ?_
    refine j_bslice1 Tryz.runUnderlying22 Tryz.sizeOf29 Tryz.zeroValue29 rfl rfl rfl rfl rfl fun b117 => ?_
    refine j_nil (ej_then (hK2 _ _ (.inr (sub_of [1, 3] rfl)) ?_)); clear hK2 K2
    refine dj_eff rfl fun K2 hK2 => ?_
    refine j_appO 1 rfl hO Tryz.runUnderlying22 el29 rfl rfl rfl rfl rfl (by omega) rfl fun y118 p118 c118 hO118 => ?_
    refine j_nil (ej_then (hK2 _ _ (.inr (sub_of [0, 2] rfl)) ?_)); clear hK2 K2
    refine dj_val rfl rfl (sub_of [0, 2] rfl) (fun _ _ h => r_fl (q := 0) (ft := 22) Tryz.runUnderlying31 rfl Tryz.sizeOf22 rfl h) (dj_eff rfl fun K2 hK2 => ?_)
    refine j_storeN (cs' := [_, _, _, _, _, _, _, _, _, _, _, _, _, _]) (H' := [_, _, _, _, _, _]) 2 rfl rfl rfl rfl Tryz.sizeOf22 rfl rfl rfl rfl rfl rfl rfl ?_
    refine j_nil (ej_then (hK2 _ _ (.inl rfl) ?_)); clear hK2 K2
    refine dj_end (ej_blk (ej_then (hK17 _ _ _ (CJ.s [(2, _), (4, _), (5, _), (8, _), (106, _), (107, _), (108, _)] ⟨rfl, rfl, rfl, rfl, rfl, rfl, rfl, trivial⟩ (cj_reg (j_val rfl (fun _ _ h => r_inc (by omega) rfl rfl h) (jM rfl rfl (j_nil (ej_then ?_)))))))))
    exact fun w' hH hf => hKL1 (k + 1, y118, p118, c118) _ w' ⟨hk', Fr.trans hfr hf (.inl (Nat.le_refl _)), (hH.drop 0).back hsz (.inl (Nat.le_refl _)), by simp only; rw [take_flat hkx]; exact hO118, hfl.mono (fr_row hf rfl) (fr_row hf rfl), htb.mono (fr_row hf rfl), hms1.mono (fr_row hf rfl) (fr_row hf rfl) (fr_row hf rfl)⟩ (by simp only; omega) ⟨rfl, rfl, rfl, rfl, rfl, rfl, rfl, trivial⟩
   ·obtain rfl : k = gts.length := by omega
    rw [List.take_of_length_le (by omega)] at hO
    intro w9 hH9 hf9
    have hty : OS tTy 2 w9 (.slice p1 gts.length c1) (x.types.flatMap cTyI) := hO.os hH9 (i := 0) rfl
    replace hfl : Flds w9 (.slice pf fs.length cf) fs := hfl.mono (fr_row hf9 rfl) (fr_row hf9 rfl)
    replace htb : OS tStr 1 w9 (.slice (some ⟨bt, 0, none⟩) T.length cc) (T.map .string) := htb.mono (fr_row hf9 rfl)
    replace hfr : Fr 0 [] w w9 := Fr.trans hfr hf9 (.inl (Nat.le_refl _))
    have hsz0 := hsz
    replace hsz : w.heap.size ≤ w9.heap.size := hfr.size
    refine C.begin ⟨w9, w.heap.size, [tDec, tIP]⟩ [eI b8 tIP (cO x (.slice p1 gts.length c1) (vN) (vN) (vN) (vN) ⟨eB, eB⟩), eI b38 tDec [.slice (some ⟨bt, 0, none⟩) T.length cc, .bool false], ⟨b4, tMsg, [.slice pf fs.length cf, .bool true], false, true, none⟩, eI b2 tIP zIP] ok_refl (Hp.again hsz0 (hH9.drop 0) (TagOK.row (.row (.ro (.row .nil rfl) rfl) rfl) rfl)) ?_
    clear hH9 hf9 hsz0
    refine cj_exit (ej_then_exit (ej_then_exit (ej_blk_hit (ej_then (hK13 _ _ _ (CJ.s [(2, _), (4, _), (5, _), (8, _)] ⟨rfl, rfl, rfl, rfl, trivial⟩ (cj_seqF fun K19 hK19 => cj_seqF fun K20 hK20 => cj_reg (j_valw rfl (fun a w ha hH hf => r_ldA (vs := [_, _]) 2 rfl rfl Tryz.isAgg54 Tryz.sizeOf54 rfl rfl rfl ha hH) ?_))))))))
    refine j_callE (R := fun w3 v w4 => Msgs w4 v gps ∧ Fr 0 [] w3 w4) Tryz.call22 rfl rfl (fun w3 hH hf => parts_c w3 _ true 11 _ gps (hfl.mono (fr_row hf rfl) (fr_row hf rfl)) hfl9 hgS2) fun w3 v w4 hH3 hf3 hR => ?_
    obtain ⟨hms0, hf34⟩ := hR
    obtain ⟨pm2, cm2, rfl, -⟩ := hms0.cells
    have hsz0 := hsz
    replace hfl : Flds w4 (.slice pf fs.length cf) fs := hfl.mono (fr_row (hf3.fr hf34) rfl) (fr_row (hf3.fr hf34) rfl)
    replace htb : OS tStr 1 w4 (.slice (some ⟨bt, 0, none⟩) T.length cc) (T.map .string) := htb.mono (fr_row (hf3.fr hf34) rfl)
    replace hty : OS tTy 2 w4 (.slice p1 gts.length c1) (x.types.flatMap cTyI) := hty.mono (fr_row (hf3.fr hf34) rfl)
    replace hfr : Fr 0 [] w w4 := Fr.trans hfr (hf3.fr hf34) (.inl (Nat.le_refl _))
    replace hsz : w.heap.size ≤ w4.heap.size := hfr.size
    refine J.begin ⟨w4, w.heap.size, [tIP, tDec]⟩ [eI b8 tIP (cO x (.slice p1 gts.length c1) (vN) (vN) (vN) (vN) ⟨eB, eB⟩), eI b38 tDec [.slice (some ⟨bt, 0, none⟩) T.length cc, .bool false], ⟨b4, tMsg, [.slice pf fs.length cf, .bool true], false, true, none⟩, eI b2 tIP zIP] ok_refl (Hp.again hsz0 (hH3.fr hf34) (TagOK.row (.row (.ro (.row .nil rfl) rfl) rfl) rfl)) ?_
    have hms2 := hms0
    clear hH3 hf3 hf34 hms0 hsz0
    refine j_val rfl (fun _ _ h => r_len Tryz.runUnderlying64 rfl h) (jM rfl rfl (j_nil (ej_then (hK20 _ _ _ (CJ.s [(2, _), (4, _), (5, _), (8, _), (122, _), (123, _), (124, _)] ⟨rfl, rfl, rfl, rfl, rfl, rfl, rfl, trivial⟩ (cj_block ?_))))))
    -- LOOP 2 live [2, 4, 5, 8, 122, 123, 124]
    intro w9 hH9 hf9
    replace hfr : Fr 0 [] w w9 := Fr.trans hfr hf9 (.inl (Nat.le_refl _))
    replace hfl : Flds w9 (.slice pf fs.length cf) fs := hfl.mono (fr_row hf9 rfl) (fr_row hf9 rfl)
    replace htb : OS tStr 1 w9 (.slice (some ⟨bt, 0, none⟩) T.length cc) (T.map .string) := htb.mono (fr_row hf9 rfl)
    replace hty : OS tTy 2 w9 (.slice p1 gts.length c1) (x.types.flatMap cTyI) := hty.mono (fr_row hf9 rfl)
    replace hms2 : Msgs w9 (.slice pm2 gps.length cm2) gps := hms2.mono (fr_row hf9 rfl) (fr_row hf9 rfl) (fr_row hf9 rfl)
    have hHw := hH9.back (W0 := []) hsz (.inl (Nat.le_refl _))
    clear hH9 hf9 hsz
    refine c_loop (σ := Nat × Nat) (fun s => [(2, ptr b2), (4, ptr b4), (5, ptr b38), (8, ptr b8), (122, .slice pm2 gps.length cm2), (123, .int .i64 (gps.length : Nat)), (124, .int .i64 (s.1 : Nat))])
     (fun s w9 => s.1 ≤ gps.length ∧ Fr 0 [] w w9 ∧ Hp ⟨w, w.heap.size, []⟩ w9 [eI b8 tIP (cO x (.slice p1 gts.length c1) (vN) (vN) (vN) (vN) (perK x s.1)), eI b38 tDec [.slice (some ⟨bt, 0, none⟩) T.length cc, .bool false], ⟨b4, tMsg, [.slice pf fs.length cf, .bool true], false, true, none⟩, eI b2 tIP zIP] ∧ Flds w9 (.slice pf fs.length cf) fs ∧ OS tStr 1 w9 (.slice (some ⟨bt, 0, none⟩) T.length cc) (T.map .string) ∧ OS tTy 2 w9 (.slice p1 gts.length c1) (x.types.flatMap cTyI) ∧ Msgs w9 (.slice pm2 gps.length cm2) gps) (fun s => gps.length - s.1)
     (0, 0) ⟨rfl, rfl, rfl, rfl, rfl, rfl, rfl, trivial⟩ ⟨Nat.zero_le _, hfr, hHw, hfl, htb, hty, hms2⟩ ?_
    rintro ⟨k, u0⟩ w8 ⟨hk2, hfr8, hHw8, hfl8, htb8, hty8, hms28⟩ KL2 hKL2
    replace hk2 : k ≤ gps.length := hk2
    replace hfr : Fr 0 [] w w8 := hfr8
    replace hfl : Flds w8 (.slice pf fs.length cf) fs := hfl8
    replace htb : OS tStr 1 w8 (.slice (some ⟨bt, 0, none⟩) T.length cc) (T.map .string) := htb8
    replace hty : OS tTy 2 w8 (.slice p1 gts.length c1) (x.types.flatMap cTyI) := hty8
    replace hms2 : Msgs w8 (.slice pm2 gps.length cm2) gps := hms28
    have hsz : w.heap.size ≤ w8.heap.size := hfr.size
    refine C.begin ⟨w8, w.heap.size, [tIP, tDec]⟩ [eI b8 tIP (cO x (.slice p1 gts.length c1) (vN) (vN) (vN) (vN) (perK x k)), eI b38 tDec [.slice (some ⟨bt, 0, none⟩) T.length cc, .bool false], ⟨b4, tMsg, [.slice pf fs.length cf, .bool true], false, true, none⟩, eI b2 tIP zIP] ok_refl (Hp.again (Nat.le_refl _) hHw8 (TagOK.row (.row (.ro (.row .nil rfl) rfl) rfl) rfl)) ?_
    clear hHw8 hHw
    refine CJ.s [(2, ptr b2), (4, ptr b4), (5, ptr b38), (8, ptr b8), (122, .slice pm2 gps.length cm2), (123, .int .i64 (gps.length : Nat)), (124, .int .i64 (k : Nat))] ⟨rfl, rfl, rfl, rfl, rfl, rfl, rfl, trivial⟩ (cj_seqF fun K21 hK21 => cj_reg (j_val rfl (fun _ _ h => r_lss rfl rfl h) (j_nil (ej_then (hK21 _ _ _ (CJ.s [(2, _), (4, _), (5, _), (8, _), (122, _), (123, _), (124, _), (125, _)] ⟨rfl, rfl, rfl, rfl, rfl, rfl, rfl, rfl, trivial⟩ (cj_seqF fun K22 hK22 => ?_)))))))
    refine cj_dec rfl (fun h125 => ?_) (fun h125 => ?_)
    ·have hk' : k < gps.length := by omega
     have hTy := hgA2 _ (List.getElem_mem hk')
     obtain ⟨p9, c9, e9, hcm⟩ := hms2.cells
     injection e9 with e1 e2 e3
     subst e1; subst e3
     obtain ⟨bm, pl, ll, cl, rfl, hFg0, hcell0⟩ := hcm k gps[k] (List.getElem?_eq_getElem hk')
     have hcell : ∀ w', Fm.ok ⟨w8, w.heap.size, [tIP, tDec]⟩ w' → ∀ (jj : Nat) (u : Value), ([.slice pl ll cl, .bool true] : List Value)[jj]? = some u → w'.cell? ⟨bm, 0 + k * 2 + jj, none⟩ = some u := fun w' hf => hcell0 [tIP, tDec] rfl w' (hf.mono (.inr ⟨Nat.zero_le _, fun _ h => h⟩))
     have hFg : ∀ w', Fm.ok ⟨w8, w.heap.size, [tIP, tDec]⟩ w' → Flds w' (.slice pl ll cl) gps[k] := fun w' hf => hFg0.mono (fr_row hf rfl) (fr_row hf rfl)
     clear hFg0 hcell0 hcm
     refine cj_skip (ej_then (hK22 _ _ _ (CJ.s [(2, _), (4, _), (5, _), (8, _), (122, _), (123, _), (124, _)] ⟨rfl, rfl, rfl, rfl, rfl, rfl, rfl, trivial⟩ (cj_seqF fun K23 hK23 => cj_block (cj_seqF fun K24 hK24 => cj_reg (j_val rfl (fun _ _ h => r_idx Tryz.runUnderlying64 Tryz.sizeOf54 rfl rfl (by omega) h) (j_valw rfl (fun a w ha hH hf => r_loadA Tryz.isAgg54 Tryz.sizeOf54 rfl rfl (hcell w (hf)) ha) ?_)))))))
     refine j_allocA (zs := [(.slice none 0 0), (.bool false)]) Tryz.zeroValue54 rfl fun b12 => ?_
     refine j_storeN (cs' := [_, _]) (H' := [_, _, _, _, _]) 0 rfl rfl rfl rfl Tryz.sizeOf54 rfl rfl rfl rfl rfl rfl rfl ?_
     refine j_nil (ej_then (hK24 _ _ _ (CJ.s [(2, _), (4, _), (5, _), (8, _), (12, _), (122, _), (123, _), (124, _)] ⟨rfl, rfl, rfl, rfl, rfl, rfl, rfl, rfl, trivial⟩ (cj_reg (jM rfl rfl (j_valw rfl (fun a w ha hH hf => r_ldA (vs := [_, _]) 0 rfl rfl Tryz.isAgg54 Tryz.sizeOf54 rfl rfl rfl ha hH) ?_))))))
     refine j_callQ (φ := fun v => v = .agg #[.string x.per.ty, .string x.per.unit]) Tryz.call23 rfl rfl (fun w3 hH hf => typed_c w3 b38 T _ gps[k] _ _ ⟨_, hH.blk (x := eI b38 tDec [.slice (some ⟨bt, 0, none⟩) T.length cc, .bool false]) (by repeat (first | exact List.Mem.head _ | apply List.Mem.tail)) rfl, htb.mono (fr_row hf rfl)⟩ (hFg w3 hf) hTy.h1 hTy.h2 hTl hTy.len) fun v hv => ?_
     subst hv
     refine j_val rfl (fun _ _ h => r_fl (q := 12) (ft := 29) Tryz.runUnderlying31 rfl Tryz.sizeOf29 rfl h) ?_
     refine j_storeN (cs' := [_, _, _, _, _, _, _, _, _, _, _, _, _, _]) (H' := [_, _, _, _, _]) 1 rfl rfl rfl rfl Tryz.sizeOf29 rfl rfl rfl rfl rfl rfl rfl ?_
     refine j_nil (ej_blk (ej_then (hK23 _ _ _ (CJ.s [(2, _), (4, _), (5, _), (8, _), (122, _), (123, _), (124, _)] ⟨rfl, rfl, rfl, rfl, rfl, rfl, rfl, trivial⟩ (cj_reg (j_val rfl (fun _ _ h => r_inc (by omega) rfl rfl h) (jM rfl rfl (j_nil (ej_then ?_)))))))))
     exact fun w' hH hf => hKL2 (k + 1, 0) _ w' ⟨hk', Fr.trans hfr hf (.inl (Nat.le_refl _)), (hH.drop 0).back hsz (.inl (Nat.le_refl _)), hfl.mono (fr_row hf rfl) (fr_row hf rfl), htb.mono (fr_row hf rfl), hty.mono (fr_row hf rfl), hms2.mono (fr_row hf rfl) (fr_row hf rfl) (fr_row hf rfl)⟩ (by simp only; omega) ⟨rfl, rfl, rfl, rfl, rfl, rfl, rfl, trivial⟩
    ·obtain rfl : k = gps.length := by omega
     have hper : perK x gps.length = x.per := by
      cases gps with
      | nil => exact (hgn2 rfl).symm
      | cons => rfl
     intro w9 hH9 hf9
     replace hfl : Flds w9 (.slice pf fs.length cf) fs := hfl.mono (fr_row hf9 rfl) (fr_row hf9 rfl)
     replace htb : OS tStr 1 w9 (.slice (some ⟨bt, 0, none⟩) T.length cc) (T.map .string) := htb.mono (fr_row hf9 rfl)
     replace hty : OS tTy 2 w9 (.slice p1 gts.length c1) (x.types.flatMap cTyI) := hty.mono (fr_row hf9 rfl)
     replace hfr : Fr 0 [] w w9 := Fr.trans hfr hf9 (.inl (Nat.le_refl _))
     have hsz0 := hsz
     replace hsz : w.heap.size ≤ w9.heap.size := hfr.size
     refine C.begin ⟨w9, w.heap.size, [tDec, tIP]⟩ [eI b8 tIP (cO x (.slice p1 gts.length c1) (vN) (vN) (vN) (vN) x.per), eI b38 tDec [.slice (some ⟨bt, 0, none⟩) T.length cc, .bool false], ⟨b4, tMsg, [.slice pf fs.length cf, .bool true], false, true, none⟩, eI b2 tIP zIP] ok_refl (Hp.again hsz0 (by rw [hper] at hH9; exact hH9) (TagOK.row (.row (.ro (.row .nil rfl) rfl) rfl) rfl)) ?_
     clear hH9 hf9 hsz0
     refine cj_exit (ej_then_exit (ej_then_exit (ej_blk_hit (ej_then (hK19 _ _ _ (CJ.s [(2, _), (4, _), (5, _), (8, _)] ⟨rfl, rfl, rfl, rfl, trivial⟩ (cj_seqF fun K25 hK25 => cj_seqF fun K26 hK26 => cj_reg (j_valw rfl (fun a w ha hH hf => r_ldA (vs := [_, _]) 2 rfl rfl Tryz.isAgg54 Tryz.sizeOf54 rfl rfl rfl ha hH) ?_))))))))
     refine j_callE (R := fun w3 v w4 => OS tU64 1 w4 v (n13.flatten.map uv) ∧ Fr 0 [] w3 w4) Tryz.call24 rfl rfl (fun w3 hH hf => many_c w3 _ true 13 _ n13 (hfl.mono (fr_row hf rfl) (fr_row hf rfl)) hfl9 hgS3 (by rw [hgn3]; simp)) fun w3 v w4 hH3 hf3 hR => ?_
     obtain ⟨hmn0, hf34⟩ := hR
     obtain ⟨pq, l9, cq, rfl, hl9⟩ := hmn0.scal
     obtain rfl : l9 = n13.flatten.length := by rw [List.length_map] at hl9; omega
     clear hl9
     have hsz0 := hsz
     replace hfl : Flds w4 (.slice pf fs.length cf) fs := hfl.mono (fr_row (hf3.fr hf34) rfl) (fr_row (hf3.fr hf34) rfl)
     replace htb : OS tStr 1 w4 (.slice (some ⟨bt, 0, none⟩) T.length cc) (T.map .string) := htb.mono (fr_row (hf3.fr hf34) rfl)
     replace hty : OS tTy 2 w4 (.slice p1 gts.length c1) (x.types.flatMap cTyI) := hty.mono (fr_row (hf3.fr hf34) rfl)
     replace hfr : Fr 0 [] w w4 := Fr.trans hfr (hf3.fr hf34) (.inl (Nat.le_refl _))
     replace hsz : w.heap.size ≤ w4.heap.size := hfr.size
     refine J.begin ⟨w4, w.heap.size, [tIP, tDec]⟩ [eI b8 tIP (cO x (.slice p1 gts.length c1) (vN) (vN) (vN) (vN) x.per), eI b38 tDec [.slice (some ⟨bt, 0, none⟩) T.length cc, .bool false], ⟨b4, tMsg, [.slice pf fs.length cf, .bool true], false, true, none⟩, eI b2 tIP zIP] ok_refl (Hp.again hsz0 (hH3.fr hf34) (TagOK.row (.row (.ro (.row .nil rfl) rfl) rfl) rfl)) ?_
     clear hH3 hf3 hf34 hmn0 hsz0
     refine j_val rfl (fun _ _ h => r_len Tryz.runUnderlying67 rfl h) (jM rfl rfl (j_nil (ej_then (hK26 _ _ _ (CJ.s [(2, _), (4, _), (5, _), (8, _), (134, _), (135, _), (136, _)] ⟨rfl, rfl, rfl, rfl, rfl, rfl, rfl, trivial⟩ (cj_block ?_))))))
     -- LOOP 3 live [2, 4, 5, 8, 134, 135, 136]
     intro w9 hH9 hf9
     replace hfr : Fr 0 [] w w9 := Fr.trans hfr hf9 (.inl (Nat.le_refl _))
     replace hfl : Flds w9 (.slice pf fs.length cf) fs := hfl.mono (fr_row hf9 rfl) (fr_row hf9 rfl)
     replace htb : OS tStr 1 w9 (.slice (some ⟨bt, 0, none⟩) T.length cc) (T.map .string) := htb.mono (fr_row hf9 rfl)
     replace hty : OS tTy 2 w9 (.slice p1 gts.length c1) (x.types.flatMap cTyI) := hty.mono (fr_row hf9 rfl)
     have hHw := hH9.back (W0 := []) hsz (.inl (Nat.le_refl _))
     clear hH9 hf9 hsz
     refine c_loop (σ := Nat × Nat) (fun s => [(2, ptr b2), (4, ptr b4), (5, ptr b38), (8, ptr b8), (134, .slice pq n13.flatten.length cq), (135, .int .i64 (n13.flatten.length : Nat)), (136, .int .i64 (s.1 : Nat))])
      (fun s w9 => s.1 ≤ 0 ∧ Fr 0 [] w w9 ∧ Hp ⟨w, w.heap.size, []⟩ w9 [eI b8 tIP (cO x (.slice p1 gts.length c1) (vN) (vN) (vN) (vN) x.per), eI b38 tDec [.slice (some ⟨bt, 0, none⟩) T.length cc, .bool false], ⟨b4, tMsg, [.slice pf fs.length cf, .bool true], false, true, none⟩, eI b2 tIP zIP] ∧ Flds w9 (.slice pf fs.length cf) fs ∧ OS tStr 1 w9 (.slice (some ⟨bt, 0, none⟩) T.length cc) (T.map .string) ∧ OS tTy 2 w9 (.slice p1 gts.length c1) (x.types.flatMap cTyI)) (fun s => 0 - s.1)
      (0, 0) ⟨rfl, rfl, rfl, rfl, rfl, rfl, rfl, trivial⟩ ⟨Nat.zero_le _, hfr, hHw, hfl, htb, hty⟩ ?_
     rintro ⟨k, u0⟩ w8 ⟨hk3, hfr8, hHw8, hfl8, htb8, hty8⟩ KL3 hKL3
     replace hk3 : k ≤ 0 := hk3
     replace hfr : Fr 0 [] w w8 := hfr8
     replace hfl : Flds w8 (.slice pf fs.length cf) fs := hfl8
     replace htb : OS tStr 1 w8 (.slice (some ⟨bt, 0, none⟩) T.length cc) (T.map .string) := htb8
     replace hty : OS tTy 2 w8 (.slice p1 gts.length c1) (x.types.flatMap cTyI) := hty8
     have hsz : w.heap.size ≤ w8.heap.size := hfr.size
     refine C.begin ⟨w8, w.heap.size, [tIP, tDec]⟩ [eI b8 tIP (cO x (.slice p1 gts.length c1) (vN) (vN) (vN) (vN) x.per), eI b38 tDec [.slice (some ⟨bt, 0, none⟩) T.length cc, .bool false], ⟨b4, tMsg, [.slice pf fs.length cf, .bool true], false, true, none⟩, eI b2 tIP zIP] ok_refl (Hp.again (Nat.le_refl _) hHw8 (TagOK.row (.row (.ro (.row .nil rfl) rfl) rfl) rfl)) ?_
     clear hHw8 hHw
     refine CJ.s [(2, ptr b2), (4, ptr b4), (5, ptr b38), (8, ptr b8), (134, .slice pq n13.flatten.length cq), (135, .int .i64 (n13.flatten.length : Nat)), (136, .int .i64 (k : Nat))] ⟨rfl, rfl, rfl, rfl, rfl, rfl, rfl, trivial⟩ (cj_seqF fun K27 hK27 => cj_reg (j_val rfl (fun _ _ h => r_lss rfl rfl h) ?_))
     refine j_eqv (u := .bool false) (congrArg Value.bool (decide_eq_false (by rw [hgn3]; simp))) ?_
     refine j_nil (ej_then (hK27 _ _ _ (CJ.s [(2, _), (4, _), (5, _), (8, _), (134, _), (135, _), (136, _), (137, _)] ⟨rfl, rfl, rfl, rfl, rfl, rfl, rfl, rfl, trivial⟩ (cj_seqF fun K28 hK28 => ?_))))
     refine cj_if_f rfl ?_
     refine cj_exit (ej_then_exit (ej_then_exit (ej_blk_hit (ej_then (hK25 _ _ _ (CJ.s [(2, _), (4, _), (5, _), (8, _)] ⟨rfl, rfl, rfl, rfl, trivial⟩ (cj_seqF fun K29 hK29 => cj_reg (jA rfl rfl (jA rfl rfl (jA rfl rfl (j_nil (ej_then (hK29 _ _ _ (CJ.s [(2, _), (4, _), (5, _), (8, _), (15, _), (16, _), (17, _)] ⟨rfl, rfl, rfl, rfl, rfl, rfl, rfl, trivial⟩ (cj_seqF fun K30 hK30 => cj_seqF fun K31 hK31 => cj_reg (j_valw rfl (fun a w ha hH hf => r_ldA (vs := [_, _]) 2 rfl rfl Tryz.isAgg54 Tryz.sizeOf54 rfl rfl rfl ha hH) ?_))))))))))))))))
     refine j_callE (R := fun w3 v w4 => Msgs w4 v gms ∧ Fr 0 [] w3 w4) Tryz.call22 rfl rfl (fun w3 hH hf => parts_c w3 _ true 3 _ gms (hfl.mono (fr_row hf rfl) (fr_row hf rfl)) hfl9 hgS4) fun w3 v w4 hH3 hf3 hR => ?_
     obtain ⟨hms0, hf34⟩ := hR
     obtain ⟨pm4, cm4, rfl, -⟩ := hms0.cells
     have hsz0 := hsz
     replace hfl : Flds w4 (.slice pf fs.length cf) fs := hfl.mono (fr_row (hf3.fr hf34) rfl) (fr_row (hf3.fr hf34) rfl)
     replace htb : OS tStr 1 w4 (.slice (some ⟨bt, 0, none⟩) T.length cc) (T.map .string) := htb.mono (fr_row (hf3.fr hf34) rfl)
     replace hty : OS tTy 2 w4 (.slice p1 gts.length c1) (x.types.flatMap cTyI) := hty.mono (fr_row (hf3.fr hf34) rfl)
     replace hfr : Fr 0 [] w w4 := Fr.trans hfr (hf3.fr hf34) (.inl (Nat.le_refl _))
     replace hsz : w.heap.size ≤ w4.heap.size := hfr.size
     refine J.begin ⟨w4, w.heap.size, [tIP, tDec, tMp, tU64]⟩ [eI b8 tIP (cO x (.slice p1 gts.length c1) (vN) (vN) (vN) (vN) x.per), eI b38 tDec [.slice (some ⟨bt, 0, none⟩) T.length cc, .bool false], ⟨b4, tMsg, [.slice pf fs.length cf, .bool true], false, true, none⟩, eI b2 tIP zIP] ok_refl (Hp.again hsz0 (hH3.fr hf34) (TagOK.row (.row (.ro (.row .nil rfl) rfl) rfl) rfl)) ?_
     have hms4 := hms0
     clear hH3 hf3 hf34 hms0 hsz0
     refine j_val rfl (fun _ _ h => r_len Tryz.runUnderlying64 rfl h) (jM rfl rfl (j_nil (ej_then (hK31 _ _ _ (CJ.s [(2, _), (4, _), (5, _), (8, _), (15, _), (16, _), (17, _), (150, _), (151, _), (152, _)] ⟨rfl, rfl, rfl, rfl, rfl, rfl, rfl, rfl, rfl, rfl, trivial⟩ (cj_block ?_))))))
     -- LOOP 4 live [2, 4, 5, 8, 15, 16, 17, 150, 151, 152]
     intro w9 hH9 hf9
     replace hfr : Fr 0 [] w w9 := Fr.trans hfr hf9 (.inl (Nat.le_refl _))
     replace hfl : Flds w9 (.slice pf fs.length cf) fs := hfl.mono (fr_row hf9 rfl) (fr_row hf9 rfl)
     replace htb : OS tStr 1 w9 (.slice (some ⟨bt, 0, none⟩) T.length cc) (T.map .string) := htb.mono (fr_row hf9 rfl)
     replace hty : OS tTy 2 w9 (.slice p1 gts.length c1) (x.types.flatMap cTyI) := hty.mono (fr_row hf9 rfl)
     replace hms4 : Msgs w9 (.slice pm4 gms.length cm4) gms := hms4.mono (fr_row hf9 rfl) (fr_row hf9 rfl) (fr_row hf9 rfl)
     have hHw := hH9.back (W0 := []) hsz (.inl (Nat.le_refl _))
     clear hH9 hf9 hsz
     refine c_loop (σ := Nat × Ent × Option Addr × Nat × Ent × Option Addr × Nat) (fun s => [(2, ptr b2), (4, ptr b4), (5, ptr b38), (8, ptr b8), (15, .slice s.2.2.2.2.2.1 s.1 s.2.2.2.2.2.2), (16, .slice none 0 0), (17, .slice none 0 0), (150, .slice pm4 gms.length cm4), (151, .int .i64 (gms.length : Nat)), (152, .int .i64 (s.1 : Nat))])
      (fun s w9 => s.1 ≤ gms.length ∧ Fr 0 [] w w9 ∧ Hp ⟨w, w.heap.size, []⟩ w9 [s.2.1, s.2.2.2.2.1, eI b8 tIP (cO x (.slice p1 gts.length c1) (vN) (.slice s.2.2.1 s.1 s.2.2.2.1) (vN) (vN) x.per), eI b38 tDec [.slice (some ⟨bt, 0, none⟩) T.length cc, .bool false], ⟨b4, tMsg, [.slice pf fs.length cf, .bool true], false, true, none⟩, eI b2 tIP zIP] ∧ Own tMp 10 s.2.1 s.2.2.1 s.1 s.2.2.2.1 ((x.mappings.take s.1).flatMap cMpI) ∧ Own tU64 1 s.2.2.2.2.1 s.2.2.2.2.2.1 s.1 s.2.2.2.2.2.2 (((mids x).take s.1).map uv) ∧ Flds w9 (.slice pf fs.length cf) fs ∧ OS tStr 1 w9 (.slice (some ⟨bt, 0, none⟩) T.length cc) (T.map .string) ∧ OS tTy 2 w9 (.slice p1 gts.length c1) (x.types.flatMap cTyI) ∧ Msgs w9 (.slice pm4 gms.length cm4) gms) (fun s => gms.length - s.1)
      (0, nilE tMp, none, 0, nilE tU64, none, 0) ⟨rfl, rfl, rfl, rfl, rfl, rfl, rfl, rfl, rfl, rfl, trivial⟩ ⟨Nat.zero_le _, hfr, Hp.off (Hp.off hHw), Own.nil, by simpa using Own.nil, hfl, htb, hty, hms4⟩ ?_
     rintro ⟨k, y4, p4, c4, ym, pmi, cmi⟩ w8 ⟨hk4, hfr8, hHw8, hO4, hOmi, hfl8, htb8, hty8, hms48⟩ KL4 hKL4
     replace hk4 : k ≤ gms.length := hk4
     replace hO4 : Own tMp 10 y4 p4 k c4 ((x.mappings.take k).flatMap cMpI) := hO4
     replace hOmi : Own tU64 1 ym pmi k cmi (((mids x).take k).map uv) := hOmi
     replace hfr : Fr 0 [] w w8 := hfr8
     replace hfl : Flds w8 (.slice pf fs.length cf) fs := hfl8
     replace htb : OS tStr 1 w8 (.slice (some ⟨bt, 0, none⟩) T.length cc) (T.map .string) := htb8
     replace hty : OS tTy 2 w8 (.slice p1 gts.length c1) (x.types.flatMap cTyI) := hty8
     replace hms4 : Msgs w8 (.slice pm4 gms.length cm4) gms := hms48
     have hsz : w.heap.size ≤ w8.heap.size := hfr.size
     refine C.begin ⟨w8, w.heap.size, [tIP, tDec, tMp, tU64]⟩ [y4, ym, eI b8 tIP (cO x (.slice p1 gts.length c1) (vN) (.slice p4 k c4) (vN) (vN) x.per), eI b38 tDec [.slice (some ⟨bt, 0, none⟩) T.length cc, .bool false], ⟨b4, tMsg, [.slice pf fs.length cf, .bool true], false, true, none⟩, eI b2 tIP zIP] ok_refl (Hp.again (Nat.le_refl _) hHw8 (TagOK.own (.own (.row (.row (.ro (.row .nil rfl) rfl) rfl) rfl) hOmi rfl) hO4 rfl)) ?_
     clear hHw8 hHw
     refine CJ.s [(2, ptr b2), (4, ptr b4), (5, ptr b38), (8, ptr b8), (15, .slice pmi k cmi), (16, .slice none 0 0), (17, .slice none 0 0), (150, .slice pm4 gms.length cm4), (151, .int .i64 (gms.length : Nat)), (152, .int .i64 (k : Nat))] ⟨rfl, rfl, rfl, rfl, rfl, rfl, rfl, rfl, rfl, rfl, trivial⟩ (cj_seqF fun K32 hK32 => cj_reg (j_val rfl (fun _ _ h => r_lss rfl rfl h) (j_nil (ej_then (hK32 _ _ _ (CJ.s [(2, _), (4, _), (5, _), (8, _), (15, _), (16, _), (17, _), (150, _), (151, _), (152, _), (153, _)] ⟨rfl, rfl, rfl, rfl, rfl, rfl, rfl, rfl, rfl, rfl, rfl, trivial⟩ (cj_seqF fun K33 hK33 => ?_)))))))
     refine cj_dec rfl (fun h153 => ?_) (fun h153 => ?_)
     ·have hk' : k < gms.length := by omega
      have hkx : k < x.mappings.length := by omega
      have hkm : k < (mids x).length := by simp; omega
      obtain ⟨_, hMp⟩ := hgA4.at_ hkx
      have hidk : oneN 1 gms[k] = (mids x)[k] := by have := hMp.id; simp; omega
      obtain ⟨p9, c9, e9, hcm⟩ := hms4.cells
      injection e9 with e1 e2 e3
      subst e1; subst e3
      obtain ⟨bm, pl, ll, cl, rfl, hFg0, hcell0⟩ := hcm k gms[k] (List.getElem?_eq_getElem hk')
      have hcell : ∀ w', Fm.ok ⟨w8, w.heap.size, [tIP, tDec, tMp, tU64]⟩ w' → ∀ (jj : Nat) (u : Value), ([.slice pl ll cl, .bool true] : List Value)[jj]? = some u → w'.cell? ⟨bm, 0 + k * 2 + jj, none⟩ = some u := fun w' hf => hcell0 [tIP, tDec, tMp, tU64] rfl w' (hf.mono (.inr ⟨Nat.zero_le _, fun _ h => h⟩))
      have hFg : ∀ w', Fm.ok ⟨w8, w.heap.size, [tIP, tDec, tMp, tU64]⟩ w' → Flds w' (.slice pl ll cl) gms[k] := fun w' hf => hFg0.mono (fr_row hf rfl) (fr_row hf rfl)
      clear hFg0 hcell0 hcm
      refine cj_skip (ej_then (hK33 _ _ _ (CJ.s [(2, _), (4, _), (5, _), (8, _), (15, _), (16, _), (17, _), (150, _), (151, _), (152, _)] ⟨rfl, rfl, rfl, rfl, rfl, rfl, rfl, rfl, rfl, rfl, trivial⟩ (cj_seqF fun K34 hK34 => cj_block (cj_seqF fun K35 hK35 => cj_reg (j_val rfl (fun _ _ h => r_idx Tryz.runUnderlying64 Tryz.sizeOf54 rfl rfl (by omega) h) (j_valw rfl (fun a w ha hH hf => r_loadA Tryz.isAgg54 Tryz.sizeOf54 rfl rfl (hcell w (hf)) ha) ?_)))))))
      refine j_allocA (zs := [(.slice none 0 0), (.bool false)]) Tryz.zeroValue54 rfl fun b19 => ?_
      refine j_storeN (cs' := [_, _]) (H' := [_, _, _, _, _, _, _]) 0 rfl rfl rfl rfl Tryz.sizeOf54 rfl rfl rfl rfl rfl rfl rfl ?_
      refine j_nil (ej_then (hK35 _ _ _ (CJ.s [(2, _), (4, _), (5, _), (8, _), (15, _), (16, _), (17, _), (19, _), (150, _), (151, _), (152, _)] ⟨rfl, rfl, rfl, rfl, rfl, rfl, rfl, rfl, rfl, rfl, rfl, trivial⟩ (cj_seqF fun K36 hK36 => cj_reg (jM rfl rfl (j_valw rfl (fun a w ha hH hf => r_ldA (vs := [_, _]) 0 rfl rfl Tryz.isAgg54 Tryz.sizeOf54 rfl rfl rfl ha hH) ?_))))))
      refine j_callQ (φ := fun v => v = .int .u64 (oneN 1 gms[k] : Nat)) Tryz.call21 rfl rfl (fun w3 hH hf => one_c w3 _ true 1 gms[k] (hFg w3 hf) hMp.len) fun v hv => ?_
      subst hv
      refine j_bslice1 Tryz.runUnderlying67 Tryz.sizeOf59 Tryz.zeroValue59 rfl rfl rfl rfl rfl fun b159 => ?_
      refine j_appO 2 rfl hOmi Tryz.runUnderlying67 el59 rfl rfl rfl rfl rfl (by omega) rfl fun y160 p160 c160 hO160 => ?_
      refine jA rfl rfl (j_nil (ej_then (hK36 _ _ _ (CJ.s [(2, _), (4, _), (5, _), (8, _), (15, _), (16, _), (17, _), (19, _), (150, _), (151, _), (152, _)] ⟨rfl, rfl, rfl, rfl, rfl, rfl, rfl, rfl, rfl, rfl, rfl, trivial⟩ ?_))))
      refine cj_drawI 34 [(0, true), (1, true), (2, true), (4, true), (6, true), (8, true), (10, true), (11, true), (14, true), (15, true), (18, true), (21, true), (24, true), (27, true), (3, false), (5, false), (7, false), (9, false), (12, false), (13, false), (16, false), (17, false), (19, false), (20, true), (22, false), (23, true), (25, false), (26, true), (28, false), (29, true), (30, true), (31, false), (32, false), (33, true), (34, false)] [0, 3] rfl (by kernel_rfl) (by kernel_rfl) ?_
      refine dj_val rfl rfl (sub_of [0, 3] rfl) (fun _ _ h => r_fl (q := 3) (ft := 24) Tryz.runUnderlying31 rfl Tryz.sizeOf24 rfl h) (dj_ld rfl rfl (sub_of [0, 3] rfl) (fun a w ha hS => r_ldS 1 rfl rfl Tryz.isAgg24 rfl rfl ha hS) (dj_ld rfl rfl (sub_of [0, 3] rfl) (fun a w ha hS => r_ldSA (vs := [_, _]) 0 rfl rfl Tryz.isAgg54 Tryz.sizeOf54 rfl rfl rfl ha hS) (dj_ld rfl rfl (sub_of [0, 3] rfl) (fun a w ha hS => r_ldSA (vs := [_, _]) 0 rfl rfl Tryz.isAgg54 Tryz.sizeOf54 rfl rfl rfl ha hS) (dj_ld rfl rfl (sub_of [0, 3] rfl) (fun a w ha hS => r_ldSA (vs := [_, _]) 0 rfl rfl Tryz.isAgg54 Tryz.sizeOf54 rfl rfl rfl ha hS) (dj_ld rfl rfl (sub_of [0, 3] rfl) (fun a w ha hS => r_ldSA (vs := [_, _]) 0 rfl rfl Tryz.isAgg54 Tryz.sizeOf54 rfl rfl rfl ha hS) (dj_val rfl rfl (sub_of [0, 3] rfl) (fun _ _ h => r_move rfl h) (dj_ld rfl rfl (sub_of [0, 3] rfl) (fun a w ha hS => r_ldSA (vs := [_, _]) 0 rfl rfl Tryz.isAgg54 Tryz.sizeOf54 rfl rfl rfl ha hS) (dj_val rfl rfl (sub_of [0, 3] rfl) (fun _ _ h => r_move rfl h) (dj_ld rfl rfl (sub_of [0, 3] rfl) (fun a w ha hS => r_ldSA (vs := [_, _]) 0 rfl rfl Tryz.isAgg54 Tryz.sizeOf54 rfl rfl rfl ha hS) (dj_ld rfl rfl (sub_of [0, 3] rfl) (fun a w ha hS => r_ldSA (vs := [_, _]) 0 rfl rfl Tryz.isAgg54 Tryz.sizeOf54 rfl rfl rfl ha hS) (dj_ld rfl rfl (sub_of [0, 3] rfl) (fun a w ha hS => r_ldSA (vs := [_, _]) 0 rfl rfl Tryz.isAgg54 Tryz.sizeOf54 rfl rfl rfl ha hS) (dj_ld rfl rfl (sub_of [0, 3] rfl) (fun a w ha hS => r_ldSA (vs := [_, _]) 0 rfl rfl Tryz.isAgg54 Tryz.sizeOf54 rfl rfl rfl ha hS) (dj_ld rfl rfl (sub_of [0, 3] rfl) (fun a w ha hS => r_ldSA (vs := [_, _]) 0 rfl rfl Tryz.isAgg54 Tryz.sizeOf54 rfl rfl rfl ha hS) ?_)))))))))))))
      refine dj_eff rfl fun K2 hK2 => ?_
      refine j_callQ (φ := fun v => v = .int .u64 (x.mappings[k].id)) Tryz.call21 rfl rfl (fun w3 hH hf => by
        have h := one_c w3 _ true 1 gms[k] (hFg w3 hf) hMp.len
        rw [hMp.id] at h; exact h) fun v hv => ?_
      subst hv
      refine j_nil (ej_then (hK2 _ _ (.inr (sub_of [0, 3] rfl)) ?_)); clear hK2 K2
      refine dj_eff rfl fun K2 hK2 => ?_
      refine j_callQ (φ := fun v => v = .int .u64 (x.mappings[k].start)) Tryz.call21 rfl rfl (fun w3 hH hf => by
        have h := one_c w3 _ true 2 gms[k] (hFg w3 hf) hMp.len
        rw [hMp.st] at h; exact h) fun v hv => ?_
      subst hv
      refine j_nil (ej_then (hK2 _ _ (.inr (sub_of [0, 3] rfl)) ?_)); clear hK2 K2
      refine dj_eff rfl fun K2 hK2 => ?_
      refine j_callQ (φ := fun v => v = .int .u64 (x.mappings[k].limit)) Tryz.call21 rfl rfl (fun w3 hH hf => by
        have h := one_c w3 _ true 3 gms[k] (hFg w3 hf) hMp.len
        rw [hMp.li] at h; exact h) fun v hv => ?_
      subst hv
      refine j_nil (ej_then (hK2 _ _ (.inr (sub_of [0, 3] rfl)) ?_)); clear hK2 K2
      refine dj_eff rfl fun K2 hK2 => ?_
      refine j_callQ (φ := fun v => v = .int .u64 (x.mappings[k].offset)) Tryz.call21 rfl rfl (fun w3 hH hf => by
        have h := one_c w3 _ true 4 gms[k] (hFg w3 hf) hMp.len
        rw [hMp.off] at h; exact h) fun v hv => ?_
      subst hv
      refine j_nil (ej_then (hK2 _ _ (.inr (sub_of [0, 3] rfl)) ?_)); clear hK2 K2
      refine dj_eff rfl fun K2 hK2 => ?_
      refine j_callQ (φ := fun v => v = .int .u64 (oneN 5 gms[k] : Nat)) Tryz.call21 rfl rfl (fun w3 hH hf => one_c w3 _ true 5 gms[k] (hFg w3 hf) hMp.len) fun v hv => ?_
      subst hv
      refine j_nil (ej_then (hK2 _ _ (.inr (sub_of [0, 3] rfl)) ?_)); clear hK2 K2
      refine dj_eff rfl fun K2 hK2 => ?_
      refine j_callQ (φ := fun v => v = .string (x.mappings[k].file)) Tryz.call20 rfl rfl (fun w3 hH hf => text_c w3 b38 _ T _ ⟨_, hH.blk (x := eI b38 tDec [.slice (some ⟨bt, 0, none⟩) T.length cc, .bool false]) (by repeat (first | exact List.Mem.head _ | apply List.Mem.tail)) rfl, htb.mono (fr_row hf rfl)⟩ hMp.file hTl) fun v hv => ?_
      subst hv
      refine j_nil (ej_then (hK2 _ _ (.inr (sub_of [0, 3] rfl)) ?_)); clear hK2 K2
      refine dj_eff rfl fun K2 hK2 => ?_
      refine j_callQ (φ := fun v => v = .int .u64 (oneN 6 gms[k] : Nat)) Tryz.call21 rfl rfl (fun w3 hH hf => one_c w3 _ true 6 gms[k] (hFg w3 hf) hMp.len) fun v hv => ?_
      subst hv
      refine j_nil (ej_then (hK2 _ _ (.inr (sub_of [0, 3] rfl)) ?_)); clear hK2 K2
      refine dj_eff rfl fun K2 hK2 => ?_
      refine j_callQ (φ := fun v => v = .string (x.mappings[k].build)) Tryz.call20 rfl rfl (fun w3 hH hf => text_c w3 b38 _ T _ ⟨_, hH.blk (x := eI b38 tDec [.slice (some ⟨bt, 0, none⟩) T.length cc, .bool false]) (by repeat (first | exact List.Mem.head _ | apply List.Mem.tail)) rfl, htb.mono (fr_row hf rfl)⟩ hMp.build hTl) fun v hv => ?_
      subst hv
      refine j_nil (ej_then (hK2 _ _ (.inr (sub_of [0, 3] rfl)) ?_)); clear hK2 K2
      refine dj_eff rfl fun K2 hK2 => ?_
      refine j_callQ (φ := fun v => v = .int .u64 (oneN 7 gms[k] : Nat)) Tryz.call21 rfl rfl (fun w3 hH hf => one_c w3 _ true 7 gms[k] (hFg w3 hf) hMp.len) fun v hv => ?_
      subst hv
      refine j_nil (ej_then (hK2 _ _ (.inr (sub_of [0, 3] rfl)) ?_)); clear hK2 K2
      refine dj_val rfl rfl (sub_of [0, 3] rfl) (fun _ _ h => r_neq rfl rfl h) ?_
      refine dj_eqv (u := .bool x.mappings[k].fu) (congrArg Value.bool hMp.fu) ?_
      refine dj_eff rfl fun K2 hK2 => ?_
      refine j_callQ (φ := fun v => v = .int .u64 (oneN 8 gms[k] : Nat)) Tryz.call21 rfl rfl (fun w3 hH hf => one_c w3 _ true 8 gms[k] (hFg w3 hf) hMp.len) fun v hv => ?_
      subst hv
      refine j_nil (ej_then (hK2 _ _ (.inr (sub_of [0, 3] rfl)) ?_)); clear hK2 K2
      refine dj_val rfl rfl (sub_of [0, 3] rfl) (fun _ _ h => r_neq rfl rfl h) ?_
      refine dj_eqv (u := .bool x.mappings[k].fi) (congrArg Value.bool hMp.fi) ?_
      refine dj_eff rfl fun K2 hK2 => ?_
      refine j_callQ (φ := fun v => v = .int .u64 (oneN 9 gms[k] : Nat)) Tryz.call21 rfl rfl (fun w3 hH hf => one_c w3 _ true 9 gms[k] (hFg w3 hf) hMp.len) fun v hv => ?_
      subst hv
      refine j_nil (ej_then (hK2 _ _ (.inr (sub_of [0, 3] rfl)) ?_)); clear hK2 K2
      refine dj_val rfl rfl (sub_of [0, 3] rfl) (fun _ _ h => r_neq rfl rfl h) ?_
      refine dj_eqv (u := .bool x.mappings[k].li) (congrArg Value.bool hMp.ln) ?_
      refine dj_eff rfl fun K2 hK2 => ?_
      refine j_callQ (φ := fun v => v = .int .u64 (oneN 10 gms[k] : Nat)) Tryz.call21 rfl rfl (fun w3 hH hf => one_c w3 _ true 10 gms[k] (hFg w3 hf) hMp.len) fun v hv => ?_
      subst hv
      refine j_nil (ej_then (hK2 _ _ (.inr (sub_of [0, 3] rfl)) ?_)); clear hK2 K2
      refine dj_val rfl rfl (sub_of [0, 3] rfl) (fun _ _ h => r_neq rfl rfl h) ?_
      refine dj_eqv (u := .bool x.mappings[k].inl) (congrArg Value.bool hMp.inl) ?_
      refine dj_val rfl rfl (sub_of [0, 3] rfl) (fun _ _ h => r_build (cs := [_, _, _, _, _, _, _, _, _, _]) bt70 rfl rfl h) (dj_eff rfl fun K2 hK2 => ?_)
      refine j_bslice1 Tryz.runUnderlying24 Tryz.sizeOf70 Tryz.zeroValue70 rfl rfl rfl rfl rfl fun b192 => ?_
      refine j_nil (ej_then (hK2 _ _ (.inr (sub_of [1, 4] rfl)) ?_)); clear hK2 K2
      refine dj_eff rfl fun K2 hK2 => ?_
      refine j_appO 1 rfl hO4 Tryz.runUnderlying24 el70 rfl rfl rfl rfl rfl (by omega) rfl fun y193 p193 c193 hO193 => ?_
      refine j_nil (ej_then (hK2 _ _ (.inr (sub_of [0, 3] rfl)) ?_)); clear hK2 K2
      refine dj_val rfl rfl (sub_of [0, 3] rfl) (fun _ _ h => r_fl (q := 3) (ft := 24) Tryz.runUnderlying31 rfl Tryz.sizeOf24 rfl h) (dj_eff rfl fun K2 hK2 => ?_)
      refine j_storeN (cs' := [_, _, _, _, _, _, _, _, _, _, _, _, _, _]) (H' := [_, _, _, _, _, _, _]) 3 rfl rfl rfl rfl Tryz.sizeOf24 rfl rfl rfl rfl rfl rfl rfl ?_
      refine j_nil (ej_then (hK2 _ _ (.inl rfl) ?_)); clear hK2 K2
      refine dj_end (ej_blk (ej_then (hK34 _ _ _ (CJ.s [(2, _), (4, _), (5, _), (8, _), (15, _), (16, _), (17, _), (150, _), (151, _), (152, _)] ⟨rfl, rfl, rfl, rfl, rfl, rfl, rfl, rfl, rfl, rfl, trivial⟩ (cj_reg (j_val rfl (fun _ _ h => r_inc (by omega) rfl rfl h) (jM rfl rfl (j_nil (ej_then ?_)))))))))
      exact fun w' hH hf => hKL4 (k + 1, y193, p193, c193, y160, p160, c160) _ w' ⟨hk', Fr.trans hfr hf (.inl (Nat.le_refl _)), (hH.drop 0).back hsz (.inl (Nat.le_refl _)), by simp only; rw [take_flat hkx]; exact hO193, by simp only; rw [take_map hkm, ← hidk]; exact hO160, hfl.mono (fr_row hf rfl) (fr_row hf rfl), htb.mono (fr_row hf rfl), hty.mono (fr_row hf rfl), hms4.mono (fr_row hf rfl) (fr_row hf rfl) (fr_row hf rfl)⟩ (by simp only; omega) ⟨rfl, rfl, rfl, rfl, rfl, rfl, rfl, rfl, rfl, rfl, trivial⟩
     ·obtain rfl : k = gms.length := by omega
      rw [List.take_of_length_le (by omega)] at hO4
      rw [List.take_of_length_le (by simp; omega)] at hOmi
      intro w9 hH9 hf9
      have hmp : OS tMp 10 w9 (.slice p4 gms.length c4) (x.mappings.flatMap cMpI) := hO4.os hH9 (i := 0) rfl
      replace hfl : Flds w9 (.slice pf fs.length cf) fs := hfl.mono (fr_row hf9 rfl) (fr_row hf9 rfl)
      replace htb : OS tStr 1 w9 (.slice (some ⟨bt, 0, none⟩) T.length cc) (T.map .string) := htb.mono (fr_row hf9 rfl)
      replace hty : OS tTy 2 w9 (.slice p1 gts.length c1) (x.types.flatMap cTyI) := hty.mono (fr_row hf9 rfl)
      replace hfr : Fr 0 [] w w9 := Fr.trans hfr hf9 (.inl (Nat.le_refl _))
      have hsz0 := hsz
      replace hsz : w.heap.size ≤ w9.heap.size := hfr.size
      refine C.begin ⟨w9, w.heap.size, [tDec, tIP, tU64]⟩ [ym, eI b8 tIP (cO x (.slice p1 gts.length c1) (vN) (.slice p4 gms.length c4) (vN) (vN) x.per), eI b38 tDec [.slice (some ⟨bt, 0, none⟩) T.length cc, .bool false], ⟨b4, tMsg, [.slice pf fs.length cf, .bool true], false, true, none⟩, eI b2 tIP zIP] ok_refl (Hp.again hsz0 (hH9.drop 0) (TagOK.own (.row (.row (.ro (.row .nil rfl) rfl) rfl) rfl) hOmi rfl)) ?_
      clear hH9 hf9 hsz0
      refine cj_exit (ej_then_exit (ej_then_exit (ej_blk_hit (ej_then (hK30 _ _ _ (CJ.s [(2, _), (4, _), (5, _), (8, _), (15, _), (16, _), (17, _)] ⟨rfl, rfl, rfl, rfl, rfl, rfl, rfl, trivial⟩ (cj_seqF fun K37 hK37 => cj_seqF fun K38 hK38 => cj_reg (j_valw rfl (fun a w ha hH hf => r_ldA (vs := [_, _]) 3 rfl rfl Tryz.isAgg54 Tryz.sizeOf54 rfl rfl rfl ha hH) ?_))))))))
      refine j_callE (R := fun w3 v w4 => Msgs w4 v gfs ∧ Fr 0 [] w3 w4) Tryz.call22 rfl rfl (fun w3 hH hf => parts_c w3 _ true 5 _ gfs (hfl.mono (fr_row hf rfl) (fr_row hf rfl)) hfl9 hgS5) fun w3 v w4 hH3 hf3 hR => ?_
      obtain ⟨hms0, hf34⟩ := hR
      obtain ⟨pm5, cm5, rfl, -⟩ := hms0.cells
      have hsz0 := hsz
      replace hfl : Flds w4 (.slice pf fs.length cf) fs := hfl.mono (fr_row (hf3.fr hf34) rfl) (fr_row (hf3.fr hf34) rfl)
      replace htb : OS tStr 1 w4 (.slice (some ⟨bt, 0, none⟩) T.length cc) (T.map .string) := htb.mono (fr_row (hf3.fr hf34) rfl)
      replace hty : OS tTy 2 w4 (.slice p1 gts.length c1) (x.types.flatMap cTyI) := hty.mono (fr_row (hf3.fr hf34) rfl)
      replace hmp : OS tMp 10 w4 (.slice p4 gms.length c4) (x.mappings.flatMap cMpI) := hmp.mono (fr_row (hf3.fr hf34) rfl)
      replace hfr : Fr 0 [] w w4 := Fr.trans hfr (hf3.fr hf34) (.inl (Nat.le_refl _))
      replace hsz : w.heap.size ≤ w4.heap.size := hfr.size
      refine J.begin ⟨w4, w.heap.size, [tIP, tDec, tFn, tU64]⟩ [ym, eI b8 tIP (cO x (.slice p1 gts.length c1) (vN) (.slice p4 gms.length c4) (vN) (vN) x.per), eI b38 tDec [.slice (some ⟨bt, 0, none⟩) T.length cc, .bool false], ⟨b4, tMsg, [.slice pf fs.length cf, .bool true], false, true, none⟩, eI b2 tIP zIP] ok_refl (Hp.again hsz0 (hH3.fr hf34) (TagOK.own (.row (.row (.ro (.row .nil rfl) rfl) rfl) rfl) hOmi rfl)) ?_
      have hms5 := hms0
      clear hH3 hf3 hf34 hms0 hsz0
      refine j_val rfl (fun _ _ h => r_len Tryz.runUnderlying64 rfl h) (jM rfl rfl (j_nil (ej_then (hK38 _ _ _ (CJ.s [(2, _), (4, _), (5, _), (8, _), (15, _), (16, _), (17, _), (197, _), (198, _), (199, _)] ⟨rfl, rfl, rfl, rfl, rfl, rfl, rfl, rfl, rfl, rfl, trivial⟩ (cj_block ?_))))))
      -- LOOP 5 live [2, 4, 5, 8, 15, 16, 17, 197, 198, 199]
      intro w9 hH9 hf9
      replace hfr : Fr 0 [] w w9 := Fr.trans hfr hf9 (.inl (Nat.le_refl _))
      replace hfl : Flds w9 (.slice pf fs.length cf) fs := hfl.mono (fr_row hf9 rfl) (fr_row hf9 rfl)
      replace htb : OS tStr 1 w9 (.slice (some ⟨bt, 0, none⟩) T.length cc) (T.map .string) := htb.mono (fr_row hf9 rfl)
      replace hty : OS tTy 2 w9 (.slice p1 gts.length c1) (x.types.flatMap cTyI) := hty.mono (fr_row hf9 rfl)
      replace hmp : OS tMp 10 w9 (.slice p4 gms.length c4) (x.mappings.flatMap cMpI) := hmp.mono (fr_row hf9 rfl)
      replace hms5 : Msgs w9 (.slice pm5 gfs.length cm5) gfs := hms5.mono (fr_row hf9 rfl) (fr_row hf9 rfl) (fr_row hf9 rfl)
      have hHw := hH9.back (W0 := []) hsz (.inl (Nat.le_refl _))
      clear hH9 hf9 hsz
      refine c_loop (σ := Nat × Ent × Option Addr × Nat × Ent × Option Addr × Nat) (fun s => [(2, ptr b2), (4, ptr b4), (5, ptr b38), (8, ptr b8), (15, .slice pmi gms.length cmi), (16, .slice s.2.2.2.2.2.1 s.1 s.2.2.2.2.2.2), (17, .slice none 0 0), (197, .slice pm5 gfs.length cm5), (198, .int .i64 (gfs.length : Nat)), (199, .int .i64 (s.1 : Nat))])
       (fun s w9 => s.1 ≤ gfs.length ∧ Fr 0 [] w w9 ∧ Hp ⟨w, w.heap.size, []⟩ w9 [s.2.1, s.2.2.2.2.1, ym, eI b8 tIP (cO x (.slice p1 gts.length c1) (vN) (.slice p4 gms.length c4) (vN) (.slice s.2.2.1 s.1 s.2.2.2.1) x.per), eI b38 tDec [.slice (some ⟨bt, 0, none⟩) T.length cc, .bool false], ⟨b4, tMsg, [.slice pf fs.length cf, .bool true], false, true, none⟩, eI b2 tIP zIP] ∧ Own tFn 5 s.2.1 s.2.2.1 s.1 s.2.2.2.1 ((x.funcs.take s.1).flatMap cFnI) ∧ Own tU64 1 s.2.2.2.2.1 s.2.2.2.2.2.1 s.1 s.2.2.2.2.2.2 (((fids x).take s.1).map uv) ∧ Flds w9 (.slice pf fs.length cf) fs ∧ OS tStr 1 w9 (.slice (some ⟨bt, 0, none⟩) T.length cc) (T.map .string) ∧ OS tTy 2 w9 (.slice p1 gts.length c1) (x.types.flatMap cTyI) ∧ OS tMp 10 w9 (.slice p4 gms.length c4) (x.mappings.flatMap cMpI) ∧ Msgs w9 (.slice pm5 gfs.length cm5) gfs) (fun s => gfs.length - s.1)
       (0, nilE tFn, none, 0, nilE tU64, none, 0) ⟨rfl, rfl, rfl, rfl, rfl, rfl, rfl, rfl, rfl, rfl, trivial⟩ ⟨Nat.zero_le _, hfr, Hp.off (Hp.off hHw), Own.nil, by simpa using Own.nil, hfl, htb, hty, hmp, hms5⟩ ?_
      rintro ⟨k, y5, p5, c5, yf, pfi, cfi⟩ w8 ⟨hk5, hfr8, hHw8, hO5, hOfi, hfl8, htb8, hty8, hmp8, hms58⟩ KL5 hKL5
      replace hk5 : k ≤ gfs.length := hk5
      replace hO5 : Own tFn 5 y5 p5 k c5 ((x.funcs.take k).flatMap cFnI) := hO5
      replace hOfi : Own tU64 1 yf pfi k cfi (((fids x).take k).map uv) := hOfi
      replace hfr : Fr 0 [] w w8 := hfr8
      replace hfl : Flds w8 (.slice pf fs.length cf) fs := hfl8
      replace htb : OS tStr 1 w8 (.slice (some ⟨bt, 0, none⟩) T.length cc) (T.map .string) := htb8
      replace hty : OS tTy 2 w8 (.slice p1 gts.length c1) (x.types.flatMap cTyI) := hty8
      replace hmp : OS tMp 10 w8 (.slice p4 gms.length c4) (x.mappings.flatMap cMpI) := hmp8
      replace hms5 : Msgs w8 (.slice pm5 gfs.length cm5) gfs := hms58
      have hsz : w.heap.size ≤ w8.heap.size := hfr.size
      refine C.begin ⟨w8, w.heap.size, [tIP, tDec, tFn, tU64]⟩ [y5, yf, ym, eI b8 tIP (cO x (.slice p1 gts.length c1) (vN) (.slice p4 gms.length c4) (vN) (.slice p5 k c5) x.per), eI b38 tDec [.slice (some ⟨bt, 0, none⟩) T.length cc, .bool false], ⟨b4, tMsg, [.slice pf fs.length cf, .bool true], false, true, none⟩, eI b2 tIP zIP] ok_refl (Hp.again (Nat.le_refl _) hHw8 (TagOK.own (.own (TagOK.own (.row (.row (.ro (.row .nil rfl) rfl) rfl) rfl) hOmi rfl) hOfi rfl) hO5 rfl)) ?_
      clear hHw8 hHw
      refine CJ.s [(2, ptr b2), (4, ptr b4), (5, ptr b38), (8, ptr b8), (15, .slice pmi gms.length cmi), (16, .slice pfi k cfi), (17, .slice none 0 0), (197, .slice pm5 gfs.length cm5), (198, .int .i64 (gfs.length : Nat)), (199, .int .i64 (k : Nat))] ⟨rfl, rfl, rfl, rfl, rfl, rfl, rfl, rfl, rfl, rfl, trivial⟩ (cj_seqF fun K39 hK39 => cj_reg (j_val rfl (fun _ _ h => r_lss rfl rfl h) (j_nil (ej_then (hK39 _ _ _ (CJ.s [(2, _), (4, _), (5, _), (8, _), (15, _), (16, _), (17, _), (197, _), (198, _), (199, _), (200, _)] ⟨rfl, rfl, rfl, rfl, rfl, rfl, rfl, rfl, rfl, rfl, rfl, trivial⟩ (cj_seqF fun K40 hK40 => ?_)))))))
      refine cj_dec rfl (fun h200 => ?_) (fun h200 => ?_)
      ·have hk' : k < gfs.length := by omega
       have hkx : k < x.funcs.length := by omega
       have hkm : k < (fids x).length := by simp; omega
       obtain ⟨_, hFn⟩ := hgA5.at_ hkx
       have hidk : oneN 1 gfs[k] = (fids x)[k] := by have := hFn.id; simp; omega
       obtain ⟨p9, c9, e9, hcm⟩ := hms5.cells
       injection e9 with e1 e2 e3
       subst e1; subst e3
       obtain ⟨bm, pl, ll, cl, rfl, hFg0, hcell0⟩ := hcm k gfs[k] (List.getElem?_eq_getElem hk')
       have hcell : ∀ w', Fm.ok ⟨w8, w.heap.size, [tIP, tDec, tFn, tU64]⟩ w' → ∀ (jj : Nat) (u : Value), ([.slice pl ll cl, .bool true] : List Value)[jj]? = some u → w'.cell? ⟨bm, 0 + k * 2 + jj, none⟩ = some u := fun w' hf => hcell0 [tIP, tDec, tFn, tU64] rfl w' (hf.mono (.inr ⟨Nat.zero_le _, fun _ h => h⟩))
       have hFg : ∀ w', Fm.ok ⟨w8, w.heap.size, [tIP, tDec, tFn, tU64]⟩ w' → Flds w' (.slice pl ll cl) gfs[k] := fun w' hf => hFg0.mono (fr_row hf rfl) (fr_row hf rfl)
       clear hFg0 hcell0 hcm
       refine cj_skip (ej_then (hK40 _ _ _ (CJ.s [(2, _), (4, _), (5, _), (8, _), (15, _), (16, _), (17, _), (197, _), (198, _), (199, _)] ⟨rfl, rfl, rfl, rfl, rfl, rfl, rfl, rfl, rfl, rfl, trivial⟩ (cj_seqF fun K41 hK41 => cj_block (cj_seqF fun K42 hK42 => cj_reg (j_val rfl (fun _ _ h => r_idx Tryz.runUnderlying64 Tryz.sizeOf54 rfl rfl (by omega) h) (j_valw rfl (fun a w ha hH hf => r_loadA Tryz.isAgg54 Tryz.sizeOf54 rfl rfl (hcell w (hf)) ha) ?_)))))))
       refine j_allocA (zs := [(.slice none 0 0), (.bool false)]) Tryz.zeroValue54 rfl fun b21 => ?_
       refine j_storeN (cs' := [_, _]) (H' := [_, _, _, _, _, _, _, _]) 0 rfl rfl rfl rfl Tryz.sizeOf54 rfl rfl rfl rfl rfl rfl rfl ?_
       refine j_nil (ej_then (hK42 _ _ _ (CJ.s [(2, _), (4, _), (5, _), (8, _), (15, _), (16, _), (17, _), (21, _), (197, _), (198, _), (199, _)] ⟨rfl, rfl, rfl, rfl, rfl, rfl, rfl, rfl, rfl, rfl, rfl, trivial⟩ (cj_seqF fun K43 hK43 => cj_reg (jM rfl rfl (j_valw rfl (fun a w ha hH hf => r_ldA (vs := [_, _]) 0 rfl rfl Tryz.isAgg54 Tryz.sizeOf54 rfl rfl rfl ha hH) ?_))))))
       refine j_callQ (φ := fun v => v = .int .u64 (oneN 1 gfs[k] : Nat)) Tryz.call21 rfl rfl (fun w3 hH hf => one_c w3 _ true 1 gfs[k] (hFg w3 hf) hFn.len) fun v hv => ?_
       subst hv
       refine j_bslice1 Tryz.runUnderlying67 Tryz.sizeOf59 Tryz.zeroValue59 rfl rfl rfl rfl rfl fun b206 => ?_
       refine j_appO 2 rfl hOfi Tryz.runUnderlying67 el59 rfl rfl rfl rfl rfl (by omega) rfl fun y207 p207 c207 hO207 => ?_
       refine jA rfl rfl (j_nil (ej_then (hK43 _ _ _ (CJ.s [(2, _), (4, _), (5, _), (8, _), (15, _), (16, _), (17, _), (21, _), (197, _), (198, _), (199, _)] ⟨rfl, rfl, rfl, rfl, rfl, rfl, rfl, rfl, rfl, rfl, rfl, trivial⟩ ?_))))
       refine cj_drawI 22 [(0, true), (1, true), (2, true), (4, true), (5, true), (8, true), (9, true), (12, true), (13, true), (16, true), (3, false), (6, false), (7, false), (10, false), (11, false), (14, false), (15, false), (17, false), (18, true), (19, true), (20, false), (21, false), (22, false), (23, false)] [0, 4] rfl (by kernel_rfl) (by kernel_rfl) ?_
       refine dj_val rfl rfl (sub_of [0, 4] rfl) (fun _ _ h => r_fl (q := 5) (ft := 26) Tryz.runUnderlying31 rfl Tryz.sizeOf26 rfl h) (dj_ld rfl rfl (sub_of [0, 4] rfl) (fun a w ha hS => r_ldS 1 rfl rfl Tryz.isAgg26 rfl rfl ha hS) (dj_ld rfl rfl (sub_of [0, 4] rfl) (fun a w ha hS => r_ldSA (vs := [_, _]) 0 rfl rfl Tryz.isAgg54 Tryz.sizeOf54 rfl rfl rfl ha hS) (dj_val rfl rfl (sub_of [0, 4] rfl) (fun _ _ h => r_move rfl h) (dj_ld rfl rfl (sub_of [0, 4] rfl) (fun a w ha hS => r_ldSA (vs := [_, _]) 0 rfl rfl Tryz.isAgg54 Tryz.sizeOf54 rfl rfl rfl ha hS) (dj_val rfl rfl (sub_of [0, 4] rfl) (fun _ _ h => r_move rfl h) (dj_ld rfl rfl (sub_of [0, 4] rfl) (fun a w ha hS => r_ldSA (vs := [_, _]) 0 rfl rfl Tryz.isAgg54 Tryz.sizeOf54 rfl rfl rfl ha hS) (dj_val rfl rfl (sub_of [0, 4] rfl) (fun _ _ h => r_move rfl h) (dj_ld rfl rfl (sub_of [0, 4] rfl) (fun a w ha hS => r_ldSA (vs := [_, _]) 0 rfl rfl Tryz.isAgg54 Tryz.sizeOf54 rfl rfl rfl ha hS) (dj_ld rfl rfl (sub_of [0, 4] rfl) (fun a w ha hS => r_ldSA (vs := [_, _]) 0 rfl rfl Tryz.isAgg54 Tryz.sizeOf54 rfl rfl rfl ha hS) (dj_eff rfl fun K2 hK2 => ?_))))))))))
       refine j_callQ (φ := fun v => v = .int .u64 (x.funcs[k].id)) Tryz.call21 rfl rfl (fun w3 hH hf => by
         have h := one_c w3 _ true 1 gfs[k] (hFg w3 hf) hFn.len
         rw [hFn.id] at h; exact h) fun v hv => ?_
       subst hv
       refine j_nil (ej_then (hK2 _ _ (.inr (sub_of [0, 4] rfl)) ?_)); clear hK2 K2
       refine dj_eff rfl fun K2 hK2 => ?_
       refine j_callQ (φ := fun v => v = .int .u64 (oneN 2 gfs[k] : Nat)) Tryz.call21 rfl rfl (fun w3 hH hf => one_c w3 _ true 2 gfs[k] (hFg w3 hf) hFn.len) fun v hv => ?_
       subst hv
       refine j_nil (ej_then (hK2 _ _ (.inr (sub_of [0, 4] rfl)) ?_)); clear hK2 K2
       refine dj_eff rfl fun K2 hK2 => ?_
       refine j_callQ (φ := fun v => v = .string (x.funcs[k].name)) Tryz.call20 rfl rfl (fun w3 hH hf => text_c w3 b38 _ T _ ⟨_, hH.blk (x := eI b38 tDec [.slice (some ⟨bt, 0, none⟩) T.length cc, .bool false]) (by repeat (first | exact List.Mem.head _ | apply List.Mem.tail)) rfl, htb.mono (fr_row hf rfl)⟩ hFn.name hTl) fun v hv => ?_
       subst hv
       refine j_nil (ej_then (hK2 _ _ (.inr (sub_of [0, 4] rfl)) ?_)); clear hK2 K2
       refine dj_eff rfl fun K2 hK2 => ?_
       refine j_callQ (φ := fun v => v = .int .u64 (oneN 3 gfs[k] : Nat)) Tryz.call21 rfl rfl (fun w3 hH hf => one_c w3 _ true 3 gfs[k] (hFg w3 hf) hFn.len) fun v hv => ?_
       subst hv
       refine j_nil (ej_then (hK2 _ _ (.inr (sub_of [0, 4] rfl)) ?_)); clear hK2 K2
       refine dj_eff rfl fun K2 hK2 => ?_
       refine j_callQ (φ := fun v => v = .string (x.funcs[k].system)) Tryz.call20 rfl rfl (fun w3 hH hf => text_c w3 b38 _ T _ ⟨_, hH.blk (x := eI b38 tDec [.slice (some ⟨bt, 0, none⟩) T.length cc, .bool false]) (by repeat (first | exact List.Mem.head _ | apply List.Mem.tail)) rfl, htb.mono (fr_row hf rfl)⟩ hFn.sys hTl) fun v hv => ?_
       subst hv
       refine j_nil (ej_then (hK2 _ _ (.inr (sub_of [0, 4] rfl)) ?_)); clear hK2 K2
       refine dj_eff rfl fun K2 hK2 => ?_
       refine j_callQ (φ := fun v => v = .int .u64 (oneN 4 gfs[k] : Nat)) Tryz.call21 rfl rfl (fun w3 hH hf => one_c w3 _ true 4 gfs[k] (hFg w3 hf) hFn.len) fun v hv => ?_
       subst hv
       refine j_nil (ej_then (hK2 _ _ (.inr (sub_of [0, 4] rfl)) ?_)); clear hK2 K2
       refine dj_eff rfl fun K2 hK2 => ?_
       refine j_callQ (φ := fun v => v = .string (x.funcs[k].file)) Tryz.call20 rfl rfl (fun w3 hH hf => text_c w3 b38 _ T _ ⟨_, hH.blk (x := eI b38 tDec [.slice (some ⟨bt, 0, none⟩) T.length cc, .bool false]) (by repeat (first | exact List.Mem.head _ | apply List.Mem.tail)) rfl, htb.mono (fr_row hf rfl)⟩ hFn.file hTl) fun v hv => ?_
       subst hv
       refine j_nil (ej_then (hK2 _ _ (.inr (sub_of [0, 4] rfl)) ?_)); clear hK2 K2
       refine dj_eff rfl fun K2 hK2 => ?_
       refine j_callQ (φ := fun v => v = .int .u64 (oneN 5 gfs[k] : Nat)) Tryz.call21 rfl rfl (fun w3 hH hf => one_c w3 _ true 5 gfs[k] (hFg w3 hf) hFn.len) fun v hv => ?_
       subst hv
       refine j_nil (ej_then (hK2 _ _ (.inr (sub_of [0, 4] rfl)) ?_)); clear hK2 K2
       refine dj_val rfl rfl (sub_of [0, 4] rfl) (fun _ _ h => r_conv Tryz.runUnderlying59 Tryz.runUnderlying2 rfl h) ?_
       refine dj_eqv (u := .int .i64 x.funcs[k].start) (congrArg (Value.int .i64) hFn.st) ?_
       refine dj_val rfl rfl (sub_of [0, 4] rfl) (fun _ _ h => r_build (cs := [_, _, _, _, _]) bt72 rfl rfl h) (dj_eff rfl fun K2 hK2 => ?_)
       refine j_bslice1 Tryz.runUnderlying26 Tryz.sizeOf72 Tryz.zeroValue72 rfl rfl rfl rfl rfl fun b228 => ?_
       refine j_nil (ej_then (hK2 _ _ (.inr (sub_of [1, 5] rfl)) ?_)); clear hK2 K2
       refine dj_eff rfl fun K2 hK2 => ?_
       refine j_appO 1 rfl hO5 Tryz.runUnderlying26 el72 rfl rfl rfl rfl rfl (by omega) rfl fun y229 p229 c229 hO229 => ?_
       refine j_nil (ej_then (hK2 _ _ (.inr (sub_of [0, 4] rfl)) ?_)); clear hK2 K2
       refine dj_eff rfl fun K2 hK2 => j_val rfl (fun _ _ h => r_fl (q := 5) (ft := 26) Tryz.runUnderlying31 rfl Tryz.sizeOf26 rfl h) (j_nil (ej_then (hK2 _ _ (.inl rfl) ?_))); clear hK2 K2
       refine dj_eff rfl fun K2 hK2 => ?_
       refine j_storeN (cs' := [_, _, _, _, _, _, _, _, _, _, _, _, _, _]) (H' := [_, _, _, _, _, _, _, _]) 4 rfl rfl rfl rfl Tryz.sizeOf26 rfl rfl rfl rfl rfl rfl rfl ?_
       refine j_nil (ej_then (hK2 _ _ (.inl rfl) ?_)); clear hK2 K2
       refine dj_end (ej_blk (ej_then (hK41 _ _ _ (CJ.s [(2, _), (4, _), (5, _), (8, _), (15, _), (16, _), (17, _), (197, _), (198, _), (199, _)] ⟨rfl, rfl, rfl, rfl, rfl, rfl, rfl, rfl, rfl, rfl, trivial⟩ (cj_reg (j_val rfl (fun _ _ h => r_inc (by omega) rfl rfl h) (jM rfl rfl (j_nil (ej_then ?_)))))))))
       exact fun w' hH hf => hKL5 (k + 1, y229, p229, c229, y207, p207, c207) _ w' ⟨hk', Fr.trans hfr hf (.inl (Nat.le_refl _)), (hH.drop 0).back hsz (.inl (Nat.le_refl _)), by simp only; rw [take_flat hkx]; exact hO229, by simp only; rw [take_map hkm, ← hidk]; exact hO207, hfl.mono (fr_row hf rfl) (fr_row hf rfl), htb.mono (fr_row hf rfl), hty.mono (fr_row hf rfl), hmp.mono (fr_row hf rfl), hms5.mono (fr_row hf rfl) (fr_row hf rfl) (fr_row hf rfl)⟩ (by simp only; omega) ⟨rfl, rfl, rfl, rfl, rfl, rfl, rfl, rfl, rfl, rfl, trivial⟩
      ·obtain rfl : k = gfs.length := by omega
       rw [List.take_of_length_le (by omega)] at hO5
       rw [List.take_of_length_le (by simp; omega)] at hOfi
       intro w9 hH9 hf9
       have hfn : OS tFn 5 w9 (.slice p5 gfs.length c5) (x.funcs.flatMap cFnI) := hO5.os hH9 (i := 0) rfl
       replace hfl : Flds w9 (.slice pf fs.length cf) fs := hfl.mono (fr_row hf9 rfl) (fr_row hf9 rfl)
       replace htb : OS tStr 1 w9 (.slice (some ⟨bt, 0, none⟩) T.length cc) (T.map .string) := htb.mono (fr_row hf9 rfl)
       replace hty : OS tTy 2 w9 (.slice p1 gts.length c1) (x.types.flatMap cTyI) := hty.mono (fr_row hf9 rfl)
       replace hmp : OS tMp 10 w9 (.slice p4 gms.length c4) (x.mappings.flatMap cMpI) := hmp.mono (fr_row hf9 rfl)
       replace hfr : Fr 0 [] w w9 := Fr.trans hfr hf9 (.inl (Nat.le_refl _))
       have hsz0 := hsz
       replace hsz : w.heap.size ≤ w9.heap.size := hfr.size
       refine C.begin ⟨w9, w.heap.size, [tDec, tIP, tU64]⟩ [yf, ym, eI b8 tIP (cO x (.slice p1 gts.length c1) (vN) (.slice p4 gms.length c4) (vN) (.slice p5 gfs.length c5) x.per), eI b38 tDec [.slice (some ⟨bt, 0, none⟩) T.length cc, .bool false], ⟨b4, tMsg, [.slice pf fs.length cf, .bool true], false, true, none⟩, eI b2 tIP zIP] ok_refl (Hp.again hsz0 (hH9.drop 0) (TagOK.own (TagOK.own (.row (.row (.ro (.row .nil rfl) rfl) rfl) rfl) hOmi rfl) hOfi rfl)) ?_
       clear hH9 hf9 hsz0
       refine cj_exit (ej_then_exit (ej_then_exit (ej_blk_hit (ej_then (hK37 _ _ _ (CJ.s [(2, _), (4, _), (5, _), (8, _), (15, _), (16, _), (17, _)] ⟨rfl, rfl, rfl, rfl, rfl, rfl, rfl, trivial⟩ (cj_seqF fun K44 hK44 => cj_seqF fun K45 hK45 => cj_reg (j_valw rfl (fun a w ha hH hf => r_ldA (vs := [_, _]) 4 rfl rfl Tryz.isAgg54 Tryz.sizeOf54 rfl rfl rfl ha hH) ?_))))))))
       refine j_callE (R := fun w3 v w4 => Msgs w4 v gls ∧ Fr 0 [] w3 w4) Tryz.call22 rfl rfl (fun w3 hH hf => parts_c w3 _ true 4 _ gls (hfl.mono (fr_row hf rfl) (fr_row hf rfl)) hfl9 hgS6) fun w3 v w4 hH3 hf3 hR => ?_
       obtain ⟨hms0, hf34⟩ := hR
       obtain ⟨pm6, cm6, rfl, -⟩ := hms0.cells
       have hsz0 := hsz
       replace hfl : Flds w4 (.slice pf fs.length cf) fs := hfl.mono (fr_row (hf3.fr hf34) rfl) (fr_row (hf3.fr hf34) rfl)
       replace htb : OS tStr 1 w4 (.slice (some ⟨bt, 0, none⟩) T.length cc) (T.map .string) := htb.mono (fr_row (hf3.fr hf34) rfl)
       replace hty : OS tTy 2 w4 (.slice p1 gts.length c1) (x.types.flatMap cTyI) := hty.mono (fr_row (hf3.fr hf34) rfl)
       replace hmp : OS tMp 10 w4 (.slice p4 gms.length c4) (x.mappings.flatMap cMpI) := hmp.mono (fr_row (hf3.fr hf34) rfl)
       replace hfn : OS tFn 5 w4 (.slice p5 gfs.length c5) (x.funcs.flatMap cFnI) := hfn.mono (fr_row (hf3.fr hf34) rfl)
       replace hfr : Fr 0 [] w w4 := Fr.trans hfr (hf3.fr hf34) (.inl (Nat.le_refl _))
       replace hsz : w.heap.size ≤ w4.heap.size := hfr.size
       refine J.begin ⟨w4, w.heap.size, [tIP, tDec, tLc, tU64]⟩ [yf, ym, eI b8 tIP (cO x (.slice p1 gts.length c1) (vN) (.slice p4 gms.length c4) (vN) (.slice p5 gfs.length c5) x.per), eI b38 tDec [.slice (some ⟨bt, 0, none⟩) T.length cc, .bool false], ⟨b4, tMsg, [.slice pf fs.length cf, .bool true], false, true, none⟩, eI b2 tIP zIP] ok_refl (Hp.again hsz0 (hH3.fr hf34) (TagOK.own (TagOK.own (.row (.row (.ro (.row .nil rfl) rfl) rfl) rfl) hOmi rfl) hOfi rfl)) ?_
       have hms6 := hms0
       clear hH3 hf3 hf34 hms0 hsz0
       refine j_val rfl (fun _ _ h => r_len Tryz.runUnderlying64 rfl h) (jM rfl rfl (j_nil (ej_then (hK45 _ _ _ (CJ.s [(2, _), (4, _), (5, _), (8, _), (15, _), (16, _), (17, _), (233, _), (234, _), (235, _)] ⟨rfl, rfl, rfl, rfl, rfl, rfl, rfl, rfl, rfl, rfl, trivial⟩ (cj_block ?_))))))
       -- LOOP 6 live [2, 4, 5, 8, 15, 16, 17, 233, 234, 235]
       intro w9 hH9 hf9
       replace hfr : Fr 0 [] w w9 := Fr.trans hfr hf9 (.inl (Nat.le_refl _))
       replace hfl : Flds w9 (.slice pf fs.length cf) fs := hfl.mono (fr_row hf9 rfl) (fr_row hf9 rfl)
       replace htb : OS tStr 1 w9 (.slice (some ⟨bt, 0, none⟩) T.length cc) (T.map .string) := htb.mono (fr_row hf9 rfl)
       replace hty : OS tTy 2 w9 (.slice p1 gts.length c1) (x.types.flatMap cTyI) := hty.mono (fr_row hf9 rfl)
       replace hmp : OS tMp 10 w9 (.slice p4 gms.length c4) (x.mappings.flatMap cMpI) := hmp.mono (fr_row hf9 rfl)
       replace hfn : OS tFn 5 w9 (.slice p5 gfs.length c5) (x.funcs.flatMap cFnI) := hfn.mono (fr_row hf9 rfl)
       replace hms6 : Msgs w9 (.slice pm6 gls.length cm6) gls := hms6.mono (fr_row hf9 rfl) (fr_row hf9 rfl) (fr_row hf9 rfl)
       have hHw := hH9.back (W0 := []) hsz (.inl (Nat.le_refl _))
       clear hH9 hf9 hsz
       refine c_loop (σ := Nat × Ent × Option Addr × Nat × Ent × Option Addr × Nat × List (PLoc × Value)) (fun s => [(2, ptr b2), (4, ptr b4), (5, ptr b38), (8, ptr b8), (15, .slice pmi gms.length cmi), (16, .slice pfi gfs.length cfi), (17, .slice s.2.2.2.2.2.1 s.1 s.2.2.2.2.2.2.1), (233, .slice pm6 gls.length cm6), (234, .int .i64 (gls.length : Nat)), (235, .int .i64 (s.1 : Nat))])
        (fun s w9 => s.1 ≤ gls.length ∧ Fr 0 [] w w9 ∧ Hp ⟨w, w.heap.size, []⟩ w9 [s.2.1, s.2.2.2.2.1, yf, ym, eI b8 tIP (cO x (.slice p1 gts.length c1) (vN) (.slice p4 gms.length c4) (.slice s.2.2.1 s.1 s.2.2.2.1) (.slice p5 gfs.length c5) x.per), eI b38 tDec [.slice (some ⟨bt, 0, none⟩) T.length cc, .bool false], ⟨b4, tMsg, [.slice pf fs.length cf, .bool true], false, true, none⟩, eI b2 tIP zIP] ∧ Own tLc 4 s.2.1 s.2.2.1 s.1 s.2.2.2.1 (s.2.2.2.2.2.2.2.flatMap cLcI) ∧ Own tU64 1 s.2.2.2.2.1 s.2.2.2.2.2.1 s.1 s.2.2.2.2.2.2.1 (((lids x).take s.1).map uv) ∧ s.2.2.2.2.2.2.2.map (·.1) = x.locs.take s.1 ∧ LcsV w9 s.2.2.2.2.2.2.2 ∧ Flds w9 (.slice pf fs.length cf) fs ∧ OS tStr 1 w9 (.slice (some ⟨bt, 0, none⟩) T.length cc) (T.map .string) ∧ OS tTy 2 w9 (.slice p1 gts.length c1) (x.types.flatMap cTyI) ∧ OS tMp 10 w9 (.slice p4 gms.length c4) (x.mappings.flatMap cMpI) ∧ OS tFn 5 w9 (.slice p5 gfs.length c5) (x.funcs.flatMap cFnI) ∧ Msgs w9 (.slice pm6 gls.length cm6) gls) (fun s => gls.length - s.1)
        (0, nilE tLc, none, 0, nilE tU64, none, 0, []) ⟨rfl, rfl, rfl, rfl, rfl, rfl, rfl, rfl, rfl, rfl, trivial⟩ ⟨Nat.zero_le _, hfr, Hp.off (Hp.off hHw), Own.nil, by simpa using Own.nil, by simp, LcsV.nil, hfl, htb, hty, hmp, hfn, hms6⟩ ?_
       rintro ⟨k, y6, p6, c6, yl, pli, cli, lq⟩ w8 ⟨hk6, hfr8, hHw8, hO6, hOli, hlq, hlv, hfl8, htb8, hty8, hmp8, hfn8, hms68⟩ KL6 hKL6
       replace hk6 : k ≤ gls.length := hk6
       replace hO6 : Own tLc 4 y6 p6 k c6 (lq.flatMap cLcI) := hO6
       replace hOli : Own tU64 1 yl pli k cli (((lids x).take k).map uv) := hOli
       replace hlq : lq.map (·.1) = x.locs.take k := hlq
       replace hlv : LcsV w8 lq := hlv
       replace hfr : Fr 0 [] w w8 := hfr8
       replace hfl : Flds w8 (.slice pf fs.length cf) fs := hfl8
       replace htb : OS tStr 1 w8 (.slice (some ⟨bt, 0, none⟩) T.length cc) (T.map .string) := htb8
       replace hty : OS tTy 2 w8 (.slice p1 gts.length c1) (x.types.flatMap cTyI) := hty8
       replace hmp : OS tMp 10 w8 (.slice p4 gms.length c4) (x.mappings.flatMap cMpI) := hmp8
       replace hfn : OS tFn 5 w8 (.slice p5 gfs.length c5) (x.funcs.flatMap cFnI) := hfn8
       replace hms6 : Msgs w8 (.slice pm6 gls.length cm6) gls := hms68
       have hsz : w.heap.size ≤ w8.heap.size := hfr.size
       refine C.begin ⟨w8, w.heap.size, [tIP, tDec, tLc, tU64]⟩ [y6, yl, yf, ym, eI b8 tIP (cO x (.slice p1 gts.length c1) (vN) (.slice p4 gms.length c4) (.slice p6 k c6) (.slice p5 gfs.length c5) x.per), eI b38 tDec [.slice (some ⟨bt, 0, none⟩) T.length cc, .bool false], ⟨b4, tMsg, [.slice pf fs.length cf, .bool true], false, true, none⟩, eI b2 tIP zIP] ok_refl (Hp.again (Nat.le_refl _) hHw8 (TagOK.own (.own (TagOK.own (TagOK.own (.row (.row (.ro (.row .nil rfl) rfl) rfl) rfl) hOmi rfl) hOfi rfl) hOli rfl) hO6 rfl)) ?_
       clear hHw8 hHw
       refine CJ.s [(2, ptr b2), (4, ptr b4), (5, ptr b38), (8, ptr b8), (15, .slice pmi gms.length cmi), (16, .slice pfi gfs.length cfi), (17, .slice pli k cli), (233, .slice pm6 gls.length cm6), (234, .int .i64 (gls.length : Nat)), (235, .int .i64 (k : Nat))] ⟨rfl, rfl, rfl, rfl, rfl, rfl, rfl, rfl, rfl, rfl, trivial⟩ (cj_seqF fun K46 hK46 => cj_reg (j_val rfl (fun _ _ h => r_lss rfl rfl h) (j_nil (ej_then (hK46 _ _ _ (CJ.s [(2, _), (4, _), (5, _), (8, _), (15, _), (16, _), (17, _), (233, _), (234, _), (235, _), (236, _)] ⟨rfl, rfl, rfl, rfl, rfl, rfl, rfl, rfl, rfl, rfl, rfl, trivial⟩ (cj_seqF fun K47 hK47 => ?_)))))))
       refine cj_dec rfl (fun h236 => ?_) (fun h236 => ?_)
       ·have hk' : k < gls.length := by omega
        have hkx : k < x.locs.length := by omega
        have hkm : k < (lids x).length := by simp; omega
        obtain ⟨_, hLc⟩ := hgA6.at_ hkx
        have hidk : oneN 1 gls[k] = (lids x)[k] := by have := hLc.id; simp; omega
        have hLl := hLc.ll
        have hLn := hLc.len
        obtain ⟨gln, hnS, hnA⟩ := hLc.lns
        have hnl := hnA.1
        obtain ⟨p9, c9, e9, hcm⟩ := hms6.cells
        injection e9 with e1 e2 e3
        subst e1; subst e3
        obtain ⟨bm, pl, ll, cl, rfl, hFg0, hcell0⟩ := hcm k gls[k] (List.getElem?_eq_getElem hk')
        have hcell : ∀ w', Fm.ok ⟨w8, w.heap.size, [tIP, tDec, tLc, tU64]⟩ w' → ∀ (jj : Nat) (u : Value), ([.slice pl ll cl, .bool true] : List Value)[jj]? = some u → w'.cell? ⟨bm, 0 + k * 2 + jj, none⟩ = some u := fun w' hf => hcell0 [tIP, tDec, tLc, tU64] rfl w' (hf.mono (.inr ⟨Nat.zero_le _, fun _ h => h⟩))
        have hFg : ∀ w', Fm.ok ⟨w8, w.heap.size, [tIP, tDec, tLc, tU64]⟩ w' → Flds w' (.slice pl ll cl) gls[k] := fun w' hf => hFg0.mono (fr_row hf rfl) (fr_row hf rfl)
        clear hFg0 hcell0 hcm
        refine cj_skip (ej_then (hK47 _ _ _ (CJ.s [(2, _), (4, _), (5, _), (8, _), (15, _), (16, _), (17, _), (233, _), (234, _), (235, _)] ⟨rfl, rfl, rfl, rfl, rfl, rfl, rfl, rfl, rfl, rfl, trivial⟩ (cj_seqF fun K48 hK48 => cj_block (cj_seqF fun K49 hK49 => cj_reg (j_val rfl (fun _ _ h => r_idx Tryz.runUnderlying64 Tryz.sizeOf54 rfl rfl (by omega) h) (j_valw rfl (fun a w ha hH hf => r_loadA Tryz.isAgg54 Tryz.sizeOf54 rfl rfl (hcell w (hf)) ha) ?_)))))))
        refine j_allocA (zs := [(.slice none 0 0), (.bool false)]) Tryz.zeroValue54 rfl fun b23 => ?_
        refine j_storeN (cs' := [_, _]) (H' := [_, _, _, _, _, _, _, _, _]) 0 rfl rfl rfl rfl Tryz.sizeOf54 rfl rfl rfl rfl rfl rfl rfl ?_
        refine j_nil (ej_then (hK49 _ _ _ (CJ.s [(2, _), (4, _), (5, _), (8, _), (15, _), (16, _), (17, _), (23, _), (233, _), (234, _), (235, _)] ⟨rfl, rfl, rfl, rfl, rfl, rfl, rfl, rfl, rfl, rfl, rfl, trivial⟩ (cj_seqF fun K50 hK50 => cj_reg (jM rfl rfl (j_valw rfl (fun a w ha hH hf => r_ldA (vs := [_, _]) 0 rfl rfl Tryz.isAgg54 Tryz.sizeOf54 rfl rfl rfl ha hH) ?_))))))
        refine j_callQ (φ := fun v => v = .int .u64 (oneN 1 gls[k] : Nat)) Tryz.call21 rfl rfl (fun w3 hH hf => one_c w3 _ true 1 gls[k] (hFg w3 hf) (by omega)) fun v hv => ?_
        subst hv
        refine j_bslice1 Tryz.runUnderlying67 Tryz.sizeOf59 Tryz.zeroValue59 rfl rfl rfl rfl rfl fun b242 => ?_
        refine j_appO 2 rfl hOli Tryz.runUnderlying67 el59 rfl rfl rfl rfl rfl (by omega) rfl fun y243 p243 c243 hO243 => ?_
        refine jA rfl rfl (j_nil (ej_then (hK50 _ _ _ (CJ.s [(2, _), (4, _), (5, _), (8, _), (15, _), (16, _), (17, _), (23, _), (233, _), (234, _), (235, _)] ⟨rfl, rfl, rfl, rfl, rfl, rfl, rfl, rfl, rfl, rfl, rfl, trivial⟩ ?_))))
        refine cj_seqJ ((fun b24 : Nat => [(2, ptr b2), (4, ptr b4), (5, ptr b38), (8, ptr b8), (15, .slice pmi gms.length cmi), (16, .slice pfi gfs.length cfi), (17, .slice p243 (k + 1) c243), (23, ptr b23), (24, ptr b24), (233, .slice (some ⟨bm, 0, none⟩) gls.length cm6), (234, .int .i64 (gls.length : Nat)), (235, .int .i64 (k : Nat))])) ((fun b24 : Nat => [eI b24 tLc [.int .u64 x.locs[k].id, .int .i64 x.locs[k].mapping, .int .u64 x.locs[k].addr, vN], eI b23 tMsg [.slice pl ll cl, .bool true], y6, y243, yf, ym, eI b8 tIP (cO x (.slice p1 gts.length c1) (vN) (.slice p4 gms.length c4) (.slice p6 k c6) (.slice p5 gfs.length c5) x.per), eI b38 tDec [.slice (some ⟨bt, 0, none⟩) T.length cc, .bool false], ⟨b4, tMsg, [.slice pf fs.length cf, .bool true], false, true, none⟩, eI b2 tIP zIP])) (fun KJ hKJ => ?_) (fun b24 => ?_)
        ·refine cj_drawF 11 10 [(0, true), (2, true), (3, true), (4, true), (7, true), (1, false), (5, false), (6, false), (8, false), (9, true), (10, false), (11, false)] [0] rfl (by kernel_rfl) (by kernel_rfl) ?_
         refine df_ld rfl rfl (sub_of [0] rfl) (fun a w ha hS => r_ldSA (vs := [_, _]) 0 rfl rfl Tryz.isAgg54 Tryz.sizeOf54 rfl rfl rfl ha hS) ?_
         refine df_val rfl rfl (sub_of [0] rfl) (fun _ _ h => r_move rfl h) ?_
         refine df_val rfl rfl (sub_of [0] rfl) (fun _ _ h => r_move rfl h) ?_
         refine df_ld rfl rfl (sub_of [0] rfl) (fun a w ha hS => r_ldSA (vs := [_, _]) 0 rfl rfl Tryz.isAgg54 Tryz.sizeOf54 rfl rfl rfl ha hS) ?_
         refine df_ld rfl rfl (sub_of [0] rfl) (fun a w ha hS => r_ldSA (vs := [_, _]) 0 rfl rfl Tryz.isAgg54 Tryz.sizeOf54 rfl rfl rfl ha hS) ?_
         refine df_fork rfl rfl rfl (fun K2 hK2 => ?_) (fun K2 hK2 => ?_)
         ·refine j_allocA (zs := [(.int .u64 0), (.int .i64 0), (.int .u64 0), (.slice none 0 0)]) Tryz.zeroValue76 rfl fun b24 => ?_
          refine j_nil (ej_then (hK2 _ _ (sub_of [1] rfl) ?_)); clear hK2 K2
          refine dj_eff rfl fun K2 hK2 => ?_
          refine j_callQ (φ := fun v => v = .int .u64 (x.locs[k].id)) Tryz.call21 rfl rfl (fun w3 hH hf => by
            have h := one_c w3 _ true 1 gls[k] (hFg w3 hf) (by omega)
            rw [hLc.id] at h; exact h) fun v hv => ?_
          subst hv
          refine j_nil (ej_then (hK2 _ _ (.inr (sub_of [1] rfl)) ?_)); clear hK2 K2
          refine dj_eff rfl fun K2 hK2 => ?_
          refine j_callQ (φ := fun v => v = .int .u64 (oneN 2 gls[k] : Nat)) Tryz.call21 rfl rfl (fun w3 hH hf => one_c w3 _ true 2 gls[k] (hFg w3 hf) (by omega)) fun v hv => ?_
          subst hv
          refine j_nil (ej_then (hK2 _ _ (.inr (sub_of [1] rfl)) ?_)); clear hK2 K2
          refine dj_eff rfl fun K2 hK2 => ?_
          refine j_callQ (φ := fun v => v = .int .i64 (x.locs[k].mapping)) Tryz.call25 rfl rfl (fun w3 hH hf => placed_c w3 b38 T _ (mids x) (oneN 2 gls[k]) (x.locs[k].mapping) ⟨_, hH.blk (x := eI b38 tDec [.slice (some ⟨bt, 0, none⟩) T.length cc, .bool false]) (by repeat (first | exact List.Mem.head _ | apply List.Mem.tail)) rfl, htb.mono (fr_row hf rfl)⟩ (Own.osM hOmi hH (by repeat (first | exact List.Mem.head _ | apply List.Mem.tail))) (by simp; omega) hLc.mp) fun v hv => ?_
          subst hv
          refine j_nil (ej_then (hK2 _ _ (.inr (sub_of [1] rfl)) ?_)); clear hK2 K2
          refine dj_eff rfl fun K2 hK2 => ?_
          refine j_callQ (φ := fun v => v = .int .u64 (x.locs[k].addr)) Tryz.call21 rfl rfl (fun w3 hH hf => by
            have h := one_c w3 _ true 3 gls[k] (hFg w3 hf) (by omega)
            rw [hLc.ad] at h; exact h) fun v hv => ?_
          subst hv
          refine j_nil (ej_then (hK2 _ _ (.inr (sub_of [1] rfl)) ?_)); clear hK2 K2
          refine dj_val rfl rfl (sub_of [1] rfl) (fun _ _ h => r_build (cs := [_, _, _, (.slice none 0 0)]) bt76 rfl rfl h) (dj_eff rfl fun K2 hK2 => ?_)
          refine j_storeN (cs' := [_, _, _, _]) (H' := [_, _, _, _, _, _, _, _, _, _]) 0 rfl rfl rfl rfl Tryz.sizeOf76 rfl rfl rfl rfl rfl rfl rfl ?_
          refine j_nil (ej_then (hK2 _ _ (.inl rfl) ?_)); clear hK2 K2
          refine dj_end ?_
          exact ej_then (hKJ b24 _ _ ⟨rfl, rfl, rfl, rfl, rfl, rfl, rfl, rfl, rfl, rfl, rfl, rfl, trivial⟩ fun w h => h)
         ·refine j_callQ (φ := fun v => v = .int .u64 (x.locs[k].id)) Tryz.call21 rfl rfl (fun w3 hH hf => by
            have h := one_c w3 _ true 1 gls[k] (hFg w3 hf) (by omega)
            rw [hLc.id] at h; exact h) fun v hv => ?_
          subst hv
          refine j_nil (ej_then (hK2 _ _ (sub_of [0] rfl) ?_)); clear hK2 K2
          refine df_fork rfl rfl rfl (fun K2 hK2 => ?_) (fun K2 hK2 => ?_)
          ·refine j_allocA (zs := [(.int .u64 0), (.int .i64 0), (.int .u64 0), (.slice none 0 0)]) Tryz.zeroValue76 rfl fun b24 => ?_
           refine j_nil (ej_then (hK2 _ _ (sub_of [1] rfl) ?_)); clear hK2 K2
           refine dj_eff rfl fun K2 hK2 => ?_
           refine j_callQ (φ := fun v => v = .int .u64 (oneN 2 gls[k] : Nat)) Tryz.call21 rfl rfl (fun w3 hH hf => one_c w3 _ true 2 gls[k] (hFg w3 hf) (by omega)) fun v hv => ?_
           subst hv
           refine j_nil (ej_then (hK2 _ _ (.inr (sub_of [1] rfl)) ?_)); clear hK2 K2
           refine dj_eff rfl fun K2 hK2 => ?_
           refine j_callQ (φ := fun v => v = .int .i64 (x.locs[k].mapping)) Tryz.call25 rfl rfl (fun w3 hH hf => placed_c w3 b38 T _ (mids x) (oneN 2 gls[k]) (x.locs[k].mapping) ⟨_, hH.blk (x := eI b38 tDec [.slice (some ⟨bt, 0, none⟩) T.length cc, .bool false]) (by repeat (first | exact List.Mem.head _ | apply List.Mem.tail)) rfl, htb.mono (fr_row hf rfl)⟩ (Own.osM hOmi hH (by repeat (first | exact List.Mem.head _ | apply List.Mem.tail))) (by simp; omega) hLc.mp) fun v hv => ?_
           subst hv
           refine j_nil (ej_then (hK2 _ _ (.inr (sub_of [1] rfl)) ?_)); clear hK2 K2
           refine dj_eff rfl fun K2 hK2 => ?_
           refine j_callQ (φ := fun v => v = .int .u64 (x.locs[k].addr)) Tryz.call21 rfl rfl (fun w3 hH hf => by
             have h := one_c w3 _ true 3 gls[k] (hFg w3 hf) (by omega)
             rw [hLc.ad] at h; exact h) fun v hv => ?_
           subst hv
           refine j_nil (ej_then (hK2 _ _ (.inr (sub_of [1] rfl)) ?_)); clear hK2 K2
           refine dj_val rfl rfl (sub_of [1] rfl) (fun _ _ h => r_build (cs := [_, _, _, (.slice none 0 0)]) bt76 rfl rfl h) (dj_eff rfl fun K2 hK2 => ?_)
           refine j_storeN (cs' := [_, _, _, _]) (H' := [_, _, _, _, _, _, _, _, _, _]) 0 rfl rfl rfl rfl Tryz.sizeOf76 rfl rfl rfl rfl rfl rfl rfl ?_
           refine j_nil (ej_then (hK2 _ _ (.inl rfl) ?_)); clear hK2 K2
           refine dj_end ?_
           exact ej_then (hKJ b24 _ _ ⟨rfl, rfl, rfl, rfl, rfl, rfl, rfl, rfl, rfl, rfl, rfl, rfl, trivial⟩ fun w h => h)
          ·refine j_callQ (φ := fun v => v = .int .u64 (oneN 2 gls[k] : Nat)) Tryz.call21 rfl rfl (fun w3 hH hf => one_c w3 _ true 2 gls[k] (hFg w3 hf) (by omega)) fun v hv => ?_
           subst hv
           refine j_nil (ej_then (hK2 _ _ (sub_of [0] rfl) ?_)); clear hK2 K2
           refine df_fork rfl rfl rfl (fun K2 hK2 => ?_) (fun K2 hK2 => ?_)
           ·refine j_allocA (zs := [(.int .u64 0), (.int .i64 0), (.int .u64 0), (.slice none 0 0)]) Tryz.zeroValue76 rfl fun b24 => ?_
            refine j_nil (ej_then (hK2 _ _ (sub_of [1] rfl) ?_)); clear hK2 K2
            refine dj_eff rfl fun K2 hK2 => ?_
            refine j_callQ (φ := fun v => v = .int .i64 (x.locs[k].mapping)) Tryz.call25 rfl rfl (fun w3 hH hf => placed_c w3 b38 T _ (mids x) (oneN 2 gls[k]) (x.locs[k].mapping) ⟨_, hH.blk (x := eI b38 tDec [.slice (some ⟨bt, 0, none⟩) T.length cc, .bool false]) (by repeat (first | exact List.Mem.head _ | apply List.Mem.tail)) rfl, htb.mono (fr_row hf rfl)⟩ (Own.osM hOmi hH (by repeat (first | exact List.Mem.head _ | apply List.Mem.tail))) (by simp; omega) hLc.mp) fun v hv => ?_
            subst hv
            refine j_nil (ej_then (hK2 _ _ (.inr (sub_of [1] rfl)) ?_)); clear hK2 K2
            refine dj_eff rfl fun K2 hK2 => ?_
            refine j_callQ (φ := fun v => v = .int .u64 (x.locs[k].addr)) Tryz.call21 rfl rfl (fun w3 hH hf => by
              have h := one_c w3 _ true 3 gls[k] (hFg w3 hf) (by omega)
              rw [hLc.ad] at h; exact h) fun v hv => ?_
            subst hv
            refine j_nil (ej_then (hK2 _ _ (.inr (sub_of [1] rfl)) ?_)); clear hK2 K2
            refine dj_val rfl rfl (sub_of [1] rfl) (fun _ _ h => r_build (cs := [_, _, _, (.slice none 0 0)]) bt76 rfl rfl h) (dj_eff rfl fun K2 hK2 => ?_)
            refine j_storeN (cs' := [_, _, _, _]) (H' := [_, _, _, _, _, _, _, _, _, _]) 0 rfl rfl rfl rfl Tryz.sizeOf76 rfl rfl rfl rfl rfl rfl rfl ?_
            refine j_nil (ej_then (hK2 _ _ (.inl rfl) ?_)); clear hK2 K2
            refine dj_end ?_
            exact ej_then (hKJ b24 _ _ ⟨rfl, rfl, rfl, rfl, rfl, rfl, rfl, rfl, rfl, rfl, rfl, rfl, trivial⟩ fun w h => h)
           ·refine j_callQ (φ := fun v => v = .int .i64 (x.locs[k].mapping)) Tryz.call25 rfl rfl (fun w3 hH hf => placed_c w3 b38 T _ (mids x) (oneN 2 gls[k]) (x.locs[k].mapping) ⟨_, hH.blk (x := eI b38 tDec [.slice (some ⟨bt, 0, none⟩) T.length cc, .bool false]) (by repeat (first | exact List.Mem.head _ | apply List.Mem.tail)) rfl, htb.mono (fr_row hf rfl)⟩ (Own.osM hOmi hH (by repeat (first | exact List.Mem.head _ | apply List.Mem.tail))) (by simp; omega) hLc.mp) fun v hv => ?_
            subst hv
            refine j_nil (ej_then (hK2 _ _ (sub_of [0] rfl) ?_)); clear hK2 K2
            refine df_fork rfl rfl rfl (fun K2 hK2 => ?_) (fun K2 hK2 => ?_)
            ·refine j_allocA (zs := [(.int .u64 0), (.int .i64 0), (.int .u64 0), (.slice none 0 0)]) Tryz.zeroValue76 rfl fun b24 => ?_
             refine j_nil (ej_then (hK2 _ _ (sub_of [1] rfl) ?_)); clear hK2 K2
             refine dj_eff rfl fun K2 hK2 => ?_
             refine j_callQ (φ := fun v => v = .int .u64 (x.locs[k].addr)) Tryz.call21 rfl rfl (fun w3 hH hf => by
               have h := one_c w3 _ true 3 gls[k] (hFg w3 hf) (by omega)
               rw [hLc.ad] at h; exact h) fun v hv => ?_
             subst hv
             refine j_nil (ej_then (hK2 _ _ (.inr (sub_of [1] rfl)) ?_)); clear hK2 K2
             refine dj_val rfl rfl (sub_of [1] rfl) (fun _ _ h => r_build (cs := [_, _, _, (.slice none 0 0)]) bt76 rfl rfl h) (dj_eff rfl fun K2 hK2 => ?_)
             refine j_storeN (cs' := [_, _, _, _]) (H' := [_, _, _, _, _, _, _, _, _, _]) 0 rfl rfl rfl rfl Tryz.sizeOf76 rfl rfl rfl rfl rfl rfl rfl ?_
             refine j_nil (ej_then (hK2 _ _ (.inl rfl) ?_)); clear hK2 K2
             refine dj_end ?_
             exact ej_then (hKJ b24 _ _ ⟨rfl, rfl, rfl, rfl, rfl, rfl, rfl, rfl, rfl, rfl, rfl, rfl, trivial⟩ fun w h => h)
            ·refine j_callQ (φ := fun v => v = .int .u64 (x.locs[k].addr)) Tryz.call21 rfl rfl (fun w3 hH hf => by
               have h := one_c w3 _ true 3 gls[k] (hFg w3 hf) (by omega)
               rw [hLc.ad] at h; exact h) fun v hv => ?_
             subst hv
             refine j_nil (ej_then (hK2 _ _ (sub_of [0] rfl) ?_)); clear hK2 K2
             refine df_val rfl rfl (sub_of [0] rfl) (fun _ _ h => r_build (cs := [_, _, _, (.slice none 0 0)]) bt76 rfl rfl h) ?_
             refine df_al rfl fun K2 hK2 => ?_
             refine j_allocA (zs := [(.int .u64 0), (.int .i64 0), (.int .u64 0), (.slice none 0 0)]) Tryz.zeroValue76 rfl fun b24 => ?_
             refine j_nil (ej_then (hK2 _ _ (sub_of [1] rfl) ?_)); clear hK2 K2
             refine dj_eff rfl fun K2 hK2 => ?_
             refine j_storeN (cs' := [_, _, _, _]) (H' := [_, _, _, _, _, _, _, _, _, _]) 0 rfl rfl rfl rfl Tryz.sizeOf76 rfl rfl rfl rfl rfl rfl rfl ?_
             refine j_nil (ej_then (hK2 _ _ (.inl rfl) ?_)); clear hK2 K2
             refine dj_end ?_
             exact ej_then (hKJ b24 _ _ ⟨rfl, rfl, rfl, rfl, rfl, rfl, rfl, rfl, rfl, rfl, rfl, rfl, trivial⟩ fun w h => h)
        ·refine cj_seqF fun K51 hK51 => cj_seqF fun K52 hK52 => cj_reg (j_valw rfl (fun a w ha hH hf => r_ldA (vs := [_, _]) 1 rfl rfl Tryz.isAgg54 Tryz.sizeOf54 rfl rfl rfl ha hH) ?_)
         refine j_callE (R := fun w3 v w4 => Msgs w4 v gln ∧ Fr 0 [] w3 w4) Tryz.call22 rfl rfl (fun w3 hH hf => parts_c w3 _ true 4 _ gln (hFg w3 hf) hLn hnS) fun w3 v w4 hH3 hf3 hR => ?_
         obtain ⟨hms0, hf34⟩ := hR
         obtain ⟨pn, cn, rfl, -⟩ := hms0.cells
         have hsz0 := hsz
         replace hfl : Flds w4 (.slice pf fs.length cf) fs := hfl.mono (fr_row (hf3.fr hf34) rfl) (fr_row (hf3.fr hf34) rfl)
         replace htb : OS tStr 1 w4 (.slice (some ⟨bt, 0, none⟩) T.length cc) (T.map .string) := htb.mono (fr_row (hf3.fr hf34) rfl)
         replace hty : OS tTy 2 w4 (.slice p1 gts.length c1) (x.types.flatMap cTyI) := hty.mono (fr_row (hf3.fr hf34) rfl)
         replace hmp : OS tMp 10 w4 (.slice p4 gms.length c4) (x.mappings.flatMap cMpI) := hmp.mono (fr_row (hf3.fr hf34) rfl)
         replace hfn : OS tFn 5 w4 (.slice p5 gfs.length c5) (x.funcs.flatMap cFnI) := hfn.mono (fr_row (hf3.fr hf34) rfl)
         replace hms6 : Msgs w4 (.slice (some ⟨bm, 0, none⟩) gls.length cm6) gls := hms6.mono (fr_row (hf3.fr hf34) rfl) (fr_row (hf3.fr hf34) rfl) (fr_row (hf3.fr hf34) rfl)
         replace hlv : LcsV w4 lq := fun q hq => (hlv q hq).mono (fr_row (hf3.fr hf34) rfl)
         replace hfr : Fr 0 [] w w4 := Fr.trans hfr (hf3.fr hf34) (.inl (Nat.le_refl _))
         replace hsz : w.heap.size ≤ w4.heap.size := hfr.size
         refine J.begin ⟨w4, w.heap.size, [tIP, tDec, tLc, tU64]⟩ [eI b24 tLc [.int .u64 x.locs[k].id, .int .i64 x.locs[k].mapping, .int .u64 x.locs[k].addr, vN], y6, y243, yf, ym, eI b8 tIP (cO x (.slice p1 gts.length c1) (vN) (.slice p4 gms.length c4) (.slice p6 k c6) (.slice p5 gfs.length c5) x.per), eI b38 tDec [.slice (some ⟨bt, 0, none⟩) T.length cc, .bool false], ⟨b4, tMsg, [.slice pf fs.length cf, .bool true], false, true, none⟩, eI b2 tIP zIP] ok_refl (Hp.again hsz0 (Hp.drop 1 (hH3.fr hf34)) (TagOK.row (.own (.own (TagOK.own (TagOK.own (.row (.row (.ro (.row .nil rfl) rfl) rfl) rfl) hOmi rfl) hOfi rfl) hO243 rfl) hO6 rfl) rfl)) ?_
         have hmln := hms0
         clear hH3 hf3 hf34 hms0 hsz0 hFg hcell
         refine j_val rfl (fun _ _ h => r_len Tryz.runUnderlying64 rfl h) (jM rfl rfl (j_nil (ej_then (hK52 _ _ _ (CJ.s [(2, _), (4, _), (5, _), (8, _), (15, _), (16, _), (17, _), (24, _), (233, _), (234, _), (235, _), (255, _), (256, _), (257, _)] ⟨rfl, rfl, rfl, rfl, rfl, rfl, rfl, rfl, rfl, rfl, rfl, rfl, rfl, rfl, trivial⟩ (cj_block ?_))))))
         -- LOOP 7 live [2, 4, 5, 8, 15, 16, 17, 24, 233, 234, 235, 255, 256, 257]
         refine cj_loop (σ := Nat × Ent × Option Addr × Nat) (fun s => [(2, ptr b2), (4, ptr b4), (5, ptr b38), (8, ptr b8), (15, .slice pmi gms.length cmi), (16, .slice pfi gfs.length cfi), (17, .slice p243 (k + 1) c243), (24, ptr b24), (233, .slice (some ⟨bm, 0, none⟩) gls.length cm6), (234, .int .i64 (gls.length : Nat)), (235, .int .i64 (k : Nat)), (255, .slice pn gln.length cn), (256, .int .i64 (gln.length : Nat)), (257, .int .i64 (s.1 : Nat))])
          (fun s => [s.2.1, eI b24 tLc [.int .u64 x.locs[k].id, .int .i64 x.locs[k].mapping, .int .u64 x.locs[k].addr, .slice s.2.2.1 s.1 s.2.2.2], y6, y243, yf, ym, eI b8 tIP (cO x (.slice p1 gts.length c1) (vN) (.slice p4 gms.length c4) (.slice p6 k c6) (.slice p5 gfs.length c5) x.per), eI b38 tDec [.slice (some ⟨bt, 0, none⟩) T.length cc, .bool false], ⟨b4, tMsg, [.slice pf fs.length cf, .bool true], false, true, none⟩, eI b2 tIP zIP])
          (fun s _ => s.1 ≤ gln.length ∧ Own tLn 2 s.2.1 s.2.2.1 s.1 s.2.2.2 ((x.locs[k].lines.take s.1).flatMap cLnI)) (fun s => gln.length - s.1) (0, nilE tLn, none, 0) ⟨rfl, rfl, rfl, rfl, rfl, rfl, rfl, rfl, rfl, rfl, rfl, rfl, rfl, rfl, trivial⟩ (fun w' hH hf => ⟨Hp.off hH, Nat.zero_le _, Own.nil⟩) ?_
         rintro ⟨j, yn, pn2, cn2⟩ w10 ⟨hj, hOn⟩ hf10 hH10 KL7 hKL7
         replace hj : j ≤ gln.length := hj
         replace hOn : Own tLn 2 yn pn2 j cn2 ((x.locs[k].lines.take j).flatMap cLnI) := hOn
         refine C.begin _ [yn, eI b24 tLc [.int .u64 x.locs[k].id, .int .i64 x.locs[k].mapping, .int .u64 x.locs[k].addr, .slice pn2 j cn2], y6, y243, yf, ym, eI b8 tIP (cO x (.slice p1 gts.length c1) (vN) (.slice p4 gms.length c4) (.slice p6 k c6) (.slice p5 gfs.length c5) x.per), eI b38 tDec [.slice (some ⟨bt, 0, none⟩) T.length cc, .bool false], ⟨b4, tMsg, [.slice pf fs.length cf, .bool true], false, true, none⟩, eI b2 tIP zIP] hf10 hH10 ?_
         clear hf10 hH10
         refine CJ.s [(2, ptr b2), (4, ptr b4), (5, ptr b38), (8, ptr b8), (15, .slice pmi gms.length cmi), (16, .slice pfi gfs.length cfi), (17, .slice p243 (k + 1) c243), (24, ptr b24), (233, .slice (some ⟨bm, 0, none⟩) gls.length cm6), (234, .int .i64 (gls.length : Nat)), (235, .int .i64 (k : Nat)), (255, .slice pn gln.length cn), (256, .int .i64 (gln.length : Nat)), (257, .int .i64 (j : Nat))] ⟨rfl, rfl, rfl, rfl, rfl, rfl, rfl, rfl, rfl, rfl, rfl, rfl, rfl, rfl, trivial⟩ (cj_seqF fun K53 hK53 => cj_reg (j_val rfl (fun _ _ h => r_lss rfl rfl h) (j_nil (ej_then (hK53 _ _ _ (CJ.s [(2, _), (4, _), (5, _), (8, _), (15, _), (16, _), (17, _), (24, _), (233, _), (234, _), (235, _), (255, _), (256, _), (257, _), (258, _)] ⟨rfl, rfl, rfl, rfl, rfl, rfl, rfl, rfl, rfl, rfl, rfl, rfl, rfl, rfl, rfl, trivial⟩ (cj_seqF fun K54 hK54 => ?_)))))))
         refine cj_dec rfl (fun h258 => ?_) (fun h258 => ?_)
         ·have hj' : j < gln.length := by omega
          have hjx : j < x.locs[k].lines.length := by omega
          obtain ⟨_, hLn1⟩ := hnA.at_ hjx
          obtain ⟨p9, c9, e9, hcm⟩ := hmln.cells
          injection e9 with e1 e2 e3
          subst e1; subst e3
          obtain ⟨bnm, npl, nll, ncl, rfl, hFg0, hcell0⟩ := hcm j gln[j] (List.getElem?_eq_getElem hj')
          have hncell : ∀ w', Fm.ok ⟨w4, w.heap.size, [tIP, tDec, tLc, tU64]⟩ w' → ∀ (jj : Nat) (u : Value), ([.slice npl nll ncl, .bool true] : List Value)[jj]? = some u → w'.cell? ⟨bnm, 0 + j * 2 + jj, none⟩ = some u := fun w' hf => hcell0 [tIP, tDec, tLc, tU64] rfl w' (hf.mono (.inr ⟨Nat.zero_le _, fun _ h => h⟩))
          have hnFg : ∀ w', Fm.ok ⟨w4, w.heap.size, [tIP, tDec, tLc, tU64]⟩ w' → Flds w' (.slice npl nll ncl) gln[j] := fun w' hf => hFg0.mono (fr_row hf rfl) (fr_row hf rfl)
          clear hFg0 hcell0 hcm
          refine cj_skip (ej_then (hK54 _ _ _ (CJ.s [(2, _), (4, _), (5, _), (8, _), (15, _), (16, _), (17, _), (24, _), (233, _), (234, _), (235, _), (255, _), (256, _), (257, _)] ⟨rfl, rfl, rfl, rfl, rfl, rfl, rfl, rfl, rfl, rfl, rfl, rfl, rfl, rfl, trivial⟩ (cj_seqF fun K55 hK55 => cj_block (cj_seqF fun K56 hK56 => cj_reg (j_val rfl (fun _ _ h => r_idx Tryz.runUnderlying64 Tryz.sizeOf54 rfl rfl (by omega) h) (j_valw rfl (fun a w ha hH hf => r_loadA Tryz.isAgg54 Tryz.sizeOf54 rfl rfl (hncell w (hf)) ha) ?_)))))))
          refine j_allocA (zs := [(.slice none 0 0), (.bool false)]) Tryz.zeroValue54 rfl fun b26 => ?_
          refine j_storeN (cs' := [_, _]) (H' := [_, _, _, _, _, _, _, _, _, _, _]) 0 rfl rfl rfl rfl Tryz.sizeOf54 rfl rfl rfl rfl rfl rfl rfl ?_
          refine j_nil (ej_then (hK56 _ _ _ (CJ.s [(2, _), (4, _), (5, _), (8, _), (15, _), (16, _), (17, _), (24, _), (26, _), (233, _), (234, _), (235, _), (255, _), (256, _), (257, _)] ⟨rfl, rfl, rfl, rfl, rfl, rfl, rfl, rfl, rfl, rfl, rfl, rfl, rfl, rfl, rfl, trivial⟩ ?_)))
          refine cj_drawI 14 [(0, true), (1, true), (2, true), (3, true), (4, true), (7, true), (5, false), (6, false), (8, false), (9, true), (10, true), (11, false), (12, false), (13, true), (14, false)] [0, 2] rfl (by kernel_rfl) (by kernel_rfl) ?_
          refine dj_val rfl rfl (sub_of [0, 2] rfl) (fun _ _ h => r_fl (q := 3) (ft := 74) Tryz.runUnderlying76 rfl Tryz.sizeOf74 rfl h) (dj_ld rfl rfl (sub_of [0, 2] rfl) (fun a w ha hS => r_ldS 1 rfl rfl Tryz.isAgg74 rfl rfl ha hS) (dj_val rfl rfl (sub_of [0, 2] rfl) (fun _ _ h => r_move rfl h) (dj_val rfl rfl (sub_of [0, 2] rfl) (fun _ _ h => r_move rfl h) (dj_ld rfl rfl (sub_of [0, 2] rfl) (fun a w ha hS => r_ldSA (vs := [_, _]) 0 rfl rfl Tryz.isAgg54 Tryz.sizeOf54 rfl rfl rfl ha hS) (dj_ld rfl rfl (sub_of [0, 2] rfl) (fun a w ha hS => r_ldSA (vs := [_, _]) 0 rfl rfl Tryz.isAgg54 Tryz.sizeOf54 rfl rfl rfl ha hS) (dj_eff rfl fun K2 hK2 => ?_))))))
          refine j_callQ (φ := fun v => v = .int .u64 (oneN 1 gln[j] : Nat)) Tryz.call21 rfl rfl (fun w3 hH hf => one_c w3 _ true 1 gln[j] (hnFg w3 hf) hLn1.len) fun v hv => ?_
          subst hv
          refine j_nil (ej_then (hK2 _ _ (.inr (sub_of [0, 2] rfl)) ?_)); clear hK2 K2
          refine dj_eff rfl fun K2 hK2 => ?_
          refine j_callQ (φ := fun v => v = .int .i64 (x.locs[k].lines[j].fn)) Tryz.call25 rfl rfl (fun w3 hH hf => placed_c w3 b38 T _ (fids x) (oneN 1 gln[j]) (x.locs[k].lines[j].fn) ⟨_, hH.blk (x := eI b38 tDec [.slice (some ⟨bt, 0, none⟩) T.length cc, .bool false]) (by repeat (first | exact List.Mem.head _ | apply List.Mem.tail)) rfl, htb.mono (fr_row hf rfl)⟩ (Own.osM hOfi hH (by repeat (first | exact List.Mem.head _ | apply List.Mem.tail))) (by simp; omega) hLn1.fn) fun v hv => ?_
          subst hv
          refine j_nil (ej_then (hK2 _ _ (.inr (sub_of [0, 2] rfl)) ?_)); clear hK2 K2
          refine dj_eff rfl fun K2 hK2 => ?_
          refine j_callQ (φ := fun v => v = .int .u64 (oneN 2 gln[j] : Nat)) Tryz.call21 rfl rfl (fun w3 hH hf => one_c w3 _ true 2 gln[j] (hnFg w3 hf) hLn1.len) fun v hv => ?_
          subst hv
          refine j_nil (ej_then (hK2 _ _ (.inr (sub_of [0, 2] rfl)) ?_)); clear hK2 K2
          refine dj_val rfl rfl (sub_of [0, 2] rfl) (fun _ _ h => r_conv Tryz.runUnderlying59 Tryz.runUnderlying2 rfl h) ?_
          refine dj_eqv (u := .int .i64 x.locs[k].lines[j].line) (congrArg (Value.int .i64) hLn1.line) ?_
          refine dj_val rfl rfl (sub_of [0, 2] rfl) (fun _ _ h => r_build (cs := [_, _]) bt78 rfl rfl h) (dj_eff rfl fun K2 hK2 => ?_)
          refine j_bslice1 Tryz.runUnderlying74 Tryz.sizeOf78 Tryz.zeroValue78 rfl rfl rfl rfl rfl fun b272 => ?_
          refine j_nil (ej_then (hK2 _ _ (.inr (sub_of [1, 3] rfl)) ?_)); clear hK2 K2
          refine dj_eff rfl fun K2 hK2 => ?_
          refine j_appO 1 rfl hOn Tryz.runUnderlying74 el78 rfl rfl rfl rfl rfl (by omega) rfl fun y273 p273 c273 hO273 => ?_
          refine j_nil (ej_then (hK2 _ _ (.inr (sub_of [0, 2] rfl)) ?_)); clear hK2 K2
          refine dj_val rfl rfl (sub_of [0, 2] rfl) (fun _ _ h => r_fl (q := 3) (ft := 74) Tryz.runUnderlying76 rfl Tryz.sizeOf74 rfl h) (dj_eff rfl fun K2 hK2 => ?_)
          refine j_storeN (cs' := [_, _, _, _]) (H' := [_, _, _, _, _, _, _, _, _, _, _]) 2 rfl rfl rfl rfl Tryz.sizeOf74 rfl rfl rfl rfl rfl rfl rfl ?_
          refine j_nil (ej_then (hK2 _ _ (.inl rfl) ?_)); clear hK2 K2
          refine dj_end (ej_blk (ej_then (hK55 _ _ _ (CJ.s [(2, _), (4, _), (5, _), (8, _), (15, _), (16, _), (17, _), (24, _), (233, _), (234, _), (235, _), (255, _), (256, _), (257, _)] ⟨rfl, rfl, rfl, rfl, rfl, rfl, rfl, rfl, rfl, rfl, rfl, rfl, rfl, rfl, trivial⟩ (cj_reg (j_val rfl (fun _ _ h => r_inc (by omega) rfl rfl h) (jM rfl rfl (j_nil (ej_then ?_)))))))))
          exact fun w' hH hf => hKL7 (j + 1, y273, p273, c273) _ w' ⟨hj', by simp only; rw [take_flat hjx]; exact hO273⟩ hf (hH.drop 0) (by simp only; omega) ⟨rfl, rfl, rfl, rfl, rfl, rfl, rfl, rfl, rfl, rfl, rfl, rfl, rfl, rfl, trivial⟩
         ·obtain rfl : j = gln.length := by omega
          rw [List.take_of_length_le (by omega)] at hOn
          refine cj_exit (ej_then_exit (ej_then_exit (ej_blk_hit (ej_then (hK51 _ _ _ (CJ.s [(2, _), (4, _), (5, _), (8, _), (15, _), (16, _), (17, _), (24, _), (233, _), (234, _), (235, _)] ⟨rfl, rfl, rfl, rfl, rfl, rfl, rfl, rfl, rfl, rfl, rfl, trivial⟩ (cj_reg (j_val rfl (fun _ _ h => r_fl (q := 4) (ft := 25) Tryz.runUnderlying31 rfl Tryz.sizeOf25 rfl h) (j_valw rfl (fun a w ha hH hf => r_ldH 6 rfl rfl Tryz.isAgg25 rfl rfl ha hH) (j_valw rfl (fun a w ha hH hf => r_ldA (vs := [_, _, _, _]) 1 rfl rfl Tryz.isAgg76 Tryz.sizeOf76 rfl rfl rfl ha hH) ?_))))))))))
          refine j_bslice1 Tryz.runUnderlying25 Tryz.sizeOf76 Tryz.zeroValue76 rfl rfl rfl rfl rfl fun b279 => ?_
          refine j_appO 2 rfl hO6 Tryz.runUnderlying25 el76 rfl rfl rfl rfl rfl (by omega) rfl fun y280 p280 c280 hO280 => ?_
          refine j_val rfl (fun _ _ h => r_fl (q := 4) (ft := 25) Tryz.runUnderlying31 rfl Tryz.sizeOf25 rfl h) ?_
          refine j_storeN (cs' := [_, _, _, _, _, _, _, _, _, _, _, _, _, _]) (H' := [_, _, _, _, _, _, _, _, _, _]) 6 rfl rfl rfl rfl Tryz.sizeOf25 rfl rfl rfl rfl rfl rfl rfl ?_
          refine j_nil (ej_blk (ej_then (hK48 _ _ _ (CJ.s [(2, _), (4, _), (5, _), (8, _), (15, _), (16, _), (17, _), (233, _), (234, _), (235, _)] ⟨rfl, rfl, rfl, rfl, rfl, rfl, rfl, rfl, rfl, rfl, trivial⟩ (cj_reg (j_val rfl (fun _ _ h => r_inc (by omega) rfl rfl h) (jM rfl rfl (j_nil (ej_then ?_)))))))))
          exact fun w' hH hf => hKL6 (k + 1, y280, p280, c280, y243, p243, c243, lq ++ [(x.locs[k], .slice pn2 gln.length cn2)]) _ w' ⟨hk', Fr.trans hfr hf (.inl (Nat.le_refl _)), (Hp.dropN 2 hH).back hsz (.inl (Nat.le_refl _)), by simp only; rw [List.flatMap_append, List.flatMap_singleton]; exact hO280, by simp only; rw [take_map hkm, ← hidk]; exact hO243, by simp only [List.map_append, hlq]; rw [← List.take_append_getElem hkx]; rfl, fun q hq => by
           rcases List.mem_append.1 hq with hq | hq
           ·exact (hlv q hq).mono (fr_row hf rfl)
           ·obtain rfl := List.mem_singleton.1 hq; exact Own.osM hOn hH (by repeat (first | exact List.Mem.head _ | apply List.Mem.tail)), hfl.mono (fr_row hf rfl) (fr_row hf rfl), htb.mono (fr_row hf rfl), hty.mono (fr_row hf rfl), hmp.mono (fr_row hf rfl), hfn.mono (fr_row hf rfl), hms6.mono (fr_row hf rfl) (fr_row hf rfl) (fr_row hf rfl)⟩ (by simp only; omega) ⟨rfl, rfl, rfl, rfl, rfl, rfl, rfl, rfl, rfl, rfl, trivial⟩
       ·obtain rfl : k = gls.length := by omega
        rw [List.take_of_length_le (by omega)] at hlq
        rw [List.take_of_length_le (by simp; omega)] at hOli
        intro w9 hH9 hf9
        have hlc : OS tLc 4 w9 (.slice p6 gls.length c6) (lq.flatMap cLcI) := hO6.os hH9 (i := 0) rfl
        have hli : OS tU64 1 w9 (.slice pli gls.length cli) ((lids x).map uv) := hOli.os hH9 (i := 1) rfl
        replace hlv : LcsV w9 lq := fun q hq => (hlv q hq).mono (fr_row hf9 rfl)
        replace hfl : Flds w9 (.slice pf fs.length cf) fs := hfl.mono (fr_row hf9 rfl) (fr_row hf9 rfl)
        replace htb : OS tStr 1 w9 (.slice (some ⟨bt, 0, none⟩) T.length cc) (T.map .string) := htb.mono (fr_row hf9 rfl)
        replace hty : OS tTy 2 w9 (.slice p1 gts.length c1) (x.types.flatMap cTyI) := hty.mono (fr_row hf9 rfl)
        replace hmp : OS tMp 10 w9 (.slice p4 gms.length c4) (x.mappings.flatMap cMpI) := hmp.mono (fr_row hf9 rfl)
        replace hfn : OS tFn 5 w9 (.slice p5 gfs.length c5) (x.funcs.flatMap cFnI) := hfn.mono (fr_row hf9 rfl)
        replace hfr : Fr 0 [] w w9 := Fr.trans hfr hf9 (.inl (Nat.le_refl _))
        have hsz0 := hsz
        replace hsz : w.heap.size ≤ w9.heap.size := hfr.size
        refine C.begin ⟨w9, w.heap.size, [tDec, tIP]⟩ [eI b8 tIP (cO x (.slice p1 gts.length c1) (vN) (.slice p4 gms.length c4) (.slice p6 gls.length c6) (.slice p5 gfs.length c5) x.per), eI b38 tDec [.slice (some ⟨bt, 0, none⟩) T.length cc, .bool false], ⟨b4, tMsg, [.slice pf fs.length cf, .bool true], false, true, none⟩, eI b2 tIP zIP] ok_refl (Hp.again hsz0 (Hp.dropN 4 hH9) (TagOK.row (.row (.ro (.row .nil rfl) rfl) rfl) rfl)) ?_
        clear hH9 hf9 hsz0
        refine cj_exit (ej_then_exit (ej_then_exit (ej_blk_hit (ej_then (hK44 _ _ _ (CJ.s [(2, _), (4, _), (5, _), (8, _), (17, _)] ⟨rfl, rfl, rfl, rfl, rfl, trivial⟩ (cj_seqF fun K57 hK57 => cj_seqF fun K58 hK58 => cj_reg (j_valw rfl (fun a w ha hH hf => r_ldA (vs := [_, _]) 2 rfl rfl Tryz.isAgg54 Tryz.sizeOf54 rfl rfl rfl ha hH) ?_))))))))
        refine j_callE (R := fun w3 v w4 => Msgs w4 v gss ∧ Fr 0 [] w3 w4) Tryz.call22 rfl rfl (fun w3 hH hf => parts_c w3 _ true 2 _ gss (hfl.mono (fr_row hf rfl) (fr_row hf rfl)) hfl9 hgS7) fun w3 v w4 hH3 hf3 hR => ?_
        obtain ⟨hms0, hf34⟩ := hR
        obtain ⟨pm7, cm7, rfl, -⟩ := hms0.cells
        have hsz0 := hsz
        replace hfl : Flds w4 (.slice pf fs.length cf) fs := hfl.mono (fr_row (hf3.fr hf34) rfl) (fr_row (hf3.fr hf34) rfl)
        replace htb : OS tStr 1 w4 (.slice (some ⟨bt, 0, none⟩) T.length cc) (T.map .string) := htb.mono (fr_row (hf3.fr hf34) rfl)
        replace hty : OS tTy 2 w4 (.slice p1 gts.length c1) (x.types.flatMap cTyI) := hty.mono (fr_row (hf3.fr hf34) rfl)
        replace hmp : OS tMp 10 w4 (.slice p4 gms.length c4) (x.mappings.flatMap cMpI) := hmp.mono (fr_row (hf3.fr hf34) rfl)
        replace hfn : OS tFn 5 w4 (.slice p5 gfs.length c5) (x.funcs.flatMap cFnI) := hfn.mono (fr_row (hf3.fr hf34) rfl)
        replace hlc : OS tLc 4 w4 (.slice p6 gls.length c6) (lq.flatMap cLcI) := hlc.mono (fr_row (hf3.fr hf34) rfl)
        replace hlv : LcsV w4 lq := fun q hq => (hlv q hq).mono (fr_row (hf3.fr hf34) rfl)
        replace hli : OS tU64 1 w4 (.slice pli gls.length cli) ((lids x).map uv) := hli.mono (fr_row (hf3.fr hf34) rfl)
        replace hfr : Fr 0 [] w w4 := Fr.trans hfr (hf3.fr hf34) (.inl (Nat.le_refl _))
        replace hsz : w.heap.size ≤ w4.heap.size := hfr.size
        refine J.begin ⟨w4, w.heap.size, [tIP, tDec, tSm]⟩ [eI b8 tIP (cO x (.slice p1 gts.length c1) (vN) (.slice p4 gms.length c4) (.slice p6 gls.length c6) (.slice p5 gfs.length c5) x.per), eI b38 tDec [.slice (some ⟨bt, 0, none⟩) T.length cc, .bool false], eI b2 tIP zIP] ok_refl (Hp.again hsz0 (Hp.drop 2 (hH3.fr hf34)) (TagOK.row (.row (.row .nil rfl) rfl) rfl)) ?_
        have hms7 := hms0
        clear hH3 hf3 hf34 hms0 hsz0
        refine j_val rfl (fun _ _ h => r_len Tryz.runUnderlying64 rfl h) (jM rfl rfl (j_nil (ej_then (hK58 _ _ _ (CJ.s [(2, _), (5, _), (8, _), (17, _), (284, _), (285, _), (286, _)] ⟨rfl, rfl, rfl, rfl, rfl, rfl, rfl, trivial⟩ (cj_block ?_))))))
        -- LOOP 8 live [2, 5, 8, 17, 284, 285, 286]
        intro w9 hH9 hf9
        replace hfr : Fr 0 [] w w9 := Fr.trans hfr hf9 (.inl (Nat.le_refl _))
        replace htb : OS tStr 1 w9 (.slice (some ⟨bt, 0, none⟩) T.length cc) (T.map .string) := htb.mono (fr_row hf9 rfl)
        replace hty : OS tTy 2 w9 (.slice p1 gts.length c1) (x.types.flatMap cTyI) := hty.mono (fr_row hf9 rfl)
        replace hmp : OS tMp 10 w9 (.slice p4 gms.length c4) (x.mappings.flatMap cMpI) := hmp.mono (fr_row hf9 rfl)
        replace hfn : OS tFn 5 w9 (.slice p5 gfs.length c5) (x.funcs.flatMap cFnI) := hfn.mono (fr_row hf9 rfl)
        replace hlc : OS tLc 4 w9 (.slice p6 gls.length c6) (lq.flatMap cLcI) := hlc.mono (fr_row hf9 rfl)
        replace hlv : LcsV w9 lq := fun q hq => (hlv q hq).mono (fr_row hf9 rfl)
        replace hli : OS tU64 1 w9 (.slice pli gls.length cli) ((lids x).map uv) := hli.mono (fr_row hf9 rfl)
        replace hms7 : Msgs w9 (.slice pm7 gss.length cm7) gss := hms7.mono (fr_row hf9 rfl) (fr_row hf9 rfl) (fr_row hf9 rfl)
        have hHw := hH9.back (W0 := []) hsz (.inl (Nat.le_refl _))
        clear hH9 hf9 hsz
        refine c_loop (σ := Nat × Ent × Option Addr × Nat × List (PSample × SV)) (fun s => [(2, ptr b2), (5, ptr b38), (8, ptr b8), (17, .slice pli gls.length cli), (284, .slice pm7 gss.length cm7), (285, .int .i64 (gss.length : Nat)), (286, .int .i64 (s.1 : Nat))])
         (fun s w9 => s.1 ≤ gss.length ∧ Fr 0 [] w w9 ∧ Hp ⟨w, w.heap.size, []⟩ w9 [s.2.1, eI b8 tIP (cO x (.slice p1 gts.length c1) (.slice s.2.2.1 s.1 s.2.2.2.1) (.slice p4 gms.length c4) (.slice p6 gls.length c6) (.slice p5 gfs.length c5) x.per), eI b38 tDec [.slice (some ⟨bt, 0, none⟩) T.length cc, .bool false], eI b2 tIP zIP] ∧ Own tSm 4 s.2.1 s.2.2.1 s.1 s.2.2.2.1 (s.2.2.2.2.flatMap cSmI) ∧ s.2.2.2.2.map (·.1) = x.samples.take s.1 ∧ SmsV w9 s.2.2.2.2 ∧ OS tStr 1 w9 (.slice (some ⟨bt, 0, none⟩) T.length cc) (T.map .string) ∧ OS tTy 2 w9 (.slice p1 gts.length c1) (x.types.flatMap cTyI) ∧ OS tMp 10 w9 (.slice p4 gms.length c4) (x.mappings.flatMap cMpI) ∧ OS tFn 5 w9 (.slice p5 gfs.length c5) (x.funcs.flatMap cFnI) ∧ OS tLc 4 w9 (.slice p6 gls.length c6) (lq.flatMap cLcI) ∧ LcsV w9 lq ∧ OS tU64 1 w9 (.slice pli gls.length cli) ((lids x).map uv) ∧ Msgs w9 (.slice pm7 gss.length cm7) gss) (fun s => gss.length - s.1)
         (0, nilE tSm, none, 0, []) ⟨rfl, rfl, rfl, rfl, rfl, rfl, rfl, trivial⟩ ⟨Nat.zero_le _, hfr, Hp.off hHw, Own.nil, by simp, SmsV.nil, htb, hty, hmp, hfn, hlc, hlv, hli, hms7⟩ ?_
        rintro ⟨k, y8, p8, c8, sq⟩ w8 ⟨hk8, hfr8, hHw8, hO8, hsq, hsv, htb8, hty8, hmp8, hfn8, hlc8, hlv8, hli8, hms78⟩ KL8 hKL8
        replace hk8 : k ≤ gss.length := hk8
        replace hO8 : Own tSm 4 y8 p8 k c8 (sq.flatMap cSmI) := hO8
        replace hsq : sq.map (·.1) = x.samples.take k := hsq
        replace hsv : SmsV w8 sq := hsv
        replace hfr : Fr 0 [] w w8 := hfr8
        replace htb : OS tStr 1 w8 (.slice (some ⟨bt, 0, none⟩) T.length cc) (T.map .string) := htb8
        replace hty : OS tTy 2 w8 (.slice p1 gts.length c1) (x.types.flatMap cTyI) := hty8
        replace hmp : OS tMp 10 w8 (.slice p4 gms.length c4) (x.mappings.flatMap cMpI) := hmp8
        replace hfn : OS tFn 5 w8 (.slice p5 gfs.length c5) (x.funcs.flatMap cFnI) := hfn8
        replace hlc : OS tLc 4 w8 (.slice p6 gls.length c6) (lq.flatMap cLcI) := hlc8
        replace hlv : LcsV w8 lq := hlv8
        replace hli : OS tU64 1 w8 (.slice pli gls.length cli) ((lids x).map uv) := hli8
        replace hms7 : Msgs w8 (.slice pm7 gss.length cm7) gss := hms78
        have hsz : w.heap.size ≤ w8.heap.size := hfr.size
        refine C.begin ⟨w8, w.heap.size, [tIP, tDec, tSm]⟩ [y8, eI b8 tIP (cO x (.slice p1 gts.length c1) (.slice p8 k c8) (.slice p4 gms.length c4) (.slice p6 gls.length c6) (.slice p5 gfs.length c5) x.per), eI b38 tDec [.slice (some ⟨bt, 0, none⟩) T.length cc, .bool false], eI b2 tIP zIP] ok_refl (Hp.again (Nat.le_refl _) hHw8 (TagOK.own (TagOK.row (.row (.row .nil rfl) rfl) rfl) hO8 rfl)) ?_
        clear hHw8 hHw
        refine CJ.s [(2, ptr b2), (5, ptr b38), (8, ptr b8), (17, .slice pli gls.length cli), (284, .slice pm7 gss.length cm7), (285, .int .i64 (gss.length : Nat)), (286, .int .i64 (k : Nat))] ⟨rfl, rfl, rfl, rfl, rfl, rfl, rfl, trivial⟩ (cj_seqF fun K59 hK59 => cj_reg (j_val rfl (fun _ _ h => r_lss rfl rfl h) (j_nil (ej_then (hK59 _ _ _ (CJ.s [(2, _), (5, _), (8, _), (17, _), (284, _), (285, _), (286, _), (287, _)] ⟨rfl, rfl, rfl, rfl, rfl, rfl, rfl, rfl, trivial⟩ (cj_seqF fun K60 hK60 => ?_)))))))
        refine cj_dec rfl (fun h287 => ?_) (fun h287 => ?_)
        ·have hk' : k < gss.length := by omega
         have hkx : k < x.samples.length := by omega
         obtain ⟨_, hSm⟩ := hgA7.at_ hkx
         have hSl := hSm.len
         have hSs := hSm.sl
         have hSvl := hSm.vl
         obtain ⟨n1, hn1, hnA1⟩ := hSm.st
         obtain ⟨n2, hn2, hnA2⟩ := hSm.vs
         obtain ⟨glb, hbS, hbO⟩ := hSm.lb
         have hnl1 := hnA1.1
         have hnl2 := hnA2.1
         obtain ⟨p9, c9, e9, hcm⟩ := hms7.cells
         injection e9 with e1 e2 e3
         subst e1; subst e3
         obtain ⟨bm, pl, ll, cl, rfl, hFg0, hcell0⟩ := hcm k gss[k] (List.getElem?_eq_getElem hk')
         have hcell : ∀ w', Fm.ok ⟨w8, w.heap.size, [tIP, tDec, tSm]⟩ w' → ∀ (jj : Nat) (u : Value), ([.slice pl ll cl, .bool true] : List Value)[jj]? = some u → w'.cell? ⟨bm, 0 + k * 2 + jj, none⟩ = some u := fun w' hf => hcell0 [tIP, tDec, tSm] rfl w' (hf.mono (.inr ⟨Nat.zero_le _, fun _ h => h⟩))
         have hFg : ∀ w', Fm.ok ⟨w8, w.heap.size, [tIP, tDec, tSm]⟩ w' → Flds w' (.slice pl ll cl) gss[k] := fun w' hf => hFg0.mono (fr_row hf rfl) (fr_row hf rfl)
         clear hFg0 hcell0 hcm
         refine cj_skip (ej_then (hK60 _ _ _ (CJ.s [(2, _), (5, _), (8, _), (17, _), (284, _), (285, _), (286, _)] ⟨rfl, rfl, rfl, rfl, rfl, rfl, rfl, trivial⟩ (cj_seqF fun K61 hK61 => cj_block (cj_seqF fun K62 hK62 => cj_reg (j_val rfl (fun _ _ h => r_idx Tryz.runUnderlying64 Tryz.sizeOf54 rfl rfl (by omega) h) (j_valw rfl (fun a w ha hH hf => r_loadA Tryz.isAgg54 Tryz.sizeOf54 rfl rfl (hcell w (hf)) ha) ?_)))))))
         refine j_allocA (zs := [(.slice none 0 0), (.bool false)]) Tryz.zeroValue54 rfl fun b28 => ?_
         refine j_storeN (cs' := [_, _]) (H' := [_, _, _, _, _]) 0 rfl rfl rfl rfl Tryz.sizeOf54 rfl rfl rfl rfl rfl rfl rfl ?_
         refine j_nil (ej_then (hK62 _ _ _ (CJ.s [(2, _), (5, _), (8, _), (17, _), (28, _), (284, _), (285, _), (286, _)] ⟨rfl, rfl, rfl, rfl, rfl, rfl, rfl, rfl, trivial⟩ (cj_seqF fun K63 hK63 => cj_reg (j_val rfl (fun _ _ h => r_build (cs := [(.slice none 0 0), (.slice none 0 0), (.slice none 0 0), (.slice none 0 0)]) bt50 rfl rfl h) ?_)))))
         refine j_allocA (zs := [(.slice none 0 0), (.slice none 0 0), (.slice none 0 0), (.slice none 0 0)]) Tryz.zeroValue50 rfl fun b29 => ?_
         refine j_storeN (cs' := [_, _, _, _]) (H' := [_, _, _, _, _, _]) 0 rfl rfl rfl rfl Tryz.sizeOf50 rfl rfl rfl rfl rfl rfl rfl ?_
         refine j_nil (ej_then (hK63 _ _ _ (CJ.s [(2, _), (5, _), (8, _), (17, _), (28, _), (29, _), (284, _), (285, _), (286, _)] ⟨rfl, rfl, rfl, rfl, rfl, rfl, rfl, rfl, rfl, trivial⟩ (cj_seqF fun K64 hK64 => cj_seqF fun K65 hK65 => cj_reg (j_valw rfl (fun a w ha hH hf => r_ldA (vs := [_, _]) 1 rfl rfl Tryz.isAgg54 Tryz.sizeOf54 rfl rfl rfl ha hH) ?_)))))
         refine j_callE (R := fun w3 v w4 => OS tU64 1 w4 v (n1.flatten.map uv) ∧ Fr 0 [] w3 w4) Tryz.call24 rfl rfl (fun w3 hH hf => many_c w3 _ true 1 _ n1 (hFg w3 hf) hSl hn1 (by omega)) fun w3 v w4 hH3 hf3 hR => ?_
         obtain ⟨hmn, hf34⟩ := hR
         obtain ⟨pq1, l9, cq1, rfl, hl9⟩ := hmn.scal
         obtain rfl : l9 = n1.flatten.length := by rw [List.length_map] at hl9; omega
         clear hl9
         have hsz0 := hsz
         have hFg4 : Flds w4 (.slice pl ll cl) gss[k] := (hFg w3 hf3).keep hf34
         replace htb : OS tStr 1 w4 (.slice (some ⟨bt, 0, none⟩) T.length cc) (T.map .string) := htb.mono (fr_row (hf3.fr hf34) rfl)
         replace hty : OS tTy 2 w4 (.slice p1 gts.length c1) (x.types.flatMap cTyI) := hty.mono (fr_row (hf3.fr hf34) rfl)
         replace hmp : OS tMp 10 w4 (.slice p4 gms.length c4) (x.mappings.flatMap cMpI) := hmp.mono (fr_row (hf3.fr hf34) rfl)
         replace hfn : OS tFn 5 w4 (.slice p5 gfs.length c5) (x.funcs.flatMap cFnI) := hfn.mono (fr_row (hf3.fr hf34) rfl)
         replace hlc : OS tLc 4 w4 (.slice p6 gls.length c6) (lq.flatMap cLcI) := hlc.mono (fr_row (hf3.fr hf34) rfl)
         replace hlv : LcsV w4 lq := fun q hq => (hlv q hq).mono (fr_row (hf3.fr hf34) rfl)
         replace hli : OS tU64 1 w4 (.slice pli gls.length cli) ((lids x).map uv) := hli.mono (fr_row (hf3.fr hf34) rfl)
         replace hms7 : Msgs w4 (.slice (some ⟨bm, 0, none⟩) gss.length cm7) gss := hms7.mono (fr_row (hf3.fr hf34) rfl) (fr_row (hf3.fr hf34) rfl) (fr_row (hf3.fr hf34) rfl)
         replace hsv : SmsV w4 sq := fun q hq => (hsv q hq).mono (fr_row (hf3.fr hf34) rfl) (fr_row (hf3.fr hf34) rfl) (fr_row (hf3.fr hf34) rfl) (fr_row (hf3.fr hf34) rfl) (fr_row (hf3.fr hf34) rfl)
         replace hfr : Fr 0 [] w w4 := Fr.trans hfr (hf3.fr hf34) (.inl (Nat.le_refl _))
         replace hsz : w.heap.size ≤ w4.heap.size := hfr.size
         refine J.begin ⟨w4, w.heap.size, [tIP, tDec, tSm]⟩ [eI b29 tSm [vN, vN, vN, vN], ⟨b28, tMsg, [.slice pl ll cl, .bool true], false, true, none⟩, y8, eI b8 tIP (cO x (.slice p1 gts.length c1) (.slice p8 k c8) (.slice p4 gms.length c4) (.slice p6 gls.length c6) (.slice p5 gfs.length c5) x.per), eI b38 tDec [.slice (some ⟨bt, 0, none⟩) T.length cc, .bool false], eI b2 tIP zIP] ok_refl (Hp.again hsz0 (Hp.roAt [eI b29 tSm [vN, vN, vN, vN]] (hH3.fr hf34)) (TagOK.row (.ro (.own (TagOK.row (.row (.row .nil rfl) rfl) rfl) hO8 rfl) rfl) rfl)) ?_
         replace hFg : ∀ w', Fm.ok ⟨w4, w.heap.size, [tIP, tDec, tSm]⟩ w' → Flds w' (.slice pl ll cl) gss[k] := fun w' hf => hFg4.mono (fr_row hf rfl) (fr_row hf rfl)
         clear hFg4 hH3 hf3 hf34 hsz0
         clear hcell
         refine j_val rfl (fun _ _ h => r_len Tryz.runUnderlying67 rfl h) (jM rfl rfl (j_nil (ej_then (hK65 _ _ _ (CJ.s [(2, _), (5, _), (8, _), (17, _), (28, _), (29, _), (284, _), (285, _), (286, _), (292, _), (293, _), (294, _)] ⟨rfl, rfl, rfl, rfl, rfl, rfl, rfl, rfl, rfl, rfl, rfl, rfl, trivial⟩ (cj_block ?_))))))
         -- LOOP 9 live [2, 5, 8, 17, 28, 29, 284, 285, 286, 292, 293, 294]
         refine cj_loop (σ := Nat × Ent × Option Addr × Nat) (fun s => [(2, ptr b2), (5, ptr b38), (8, ptr b8), (17, .slice pli gls.length cli), (28, ptr b28), (29, ptr b29), (284, .slice (some ⟨bm, 0, none⟩) gss.length cm7), (285, .int .i64 (gss.length : Nat)), (286, .int .i64 (k : Nat)), (292, .slice pq1 n1.flatten.length cq1), (293, .int .i64 (n1.flatten.length : Nat)), (294, .int .i64 (s.1 : Nat))])
          (fun s => [s.2.1, eI b29 tSm [.slice s.2.2.1 s.1 s.2.2.2, vN, vN, vN], ⟨b28, tMsg, [.slice pl ll cl, .bool true], false, true, none⟩, y8, eI b8 tIP (cO x (.slice p1 gts.length c1) (.slice p8 k c8) (.slice p4 gms.length c4) (.slice p6 gls.length c6) (.slice p5 gfs.length c5) x.per), eI b38 tDec [.slice (some ⟨bt, 0, none⟩) T.length cc, .bool false], eI b2 tIP zIP])
          (fun s _ => s.1 ≤ n1.flatten.length ∧ Own tInt 1 s.2.1 s.2.2.1 s.1 s.2.2.2 ((x.samples[k].stack.take s.1).map (.int .i64))) (fun s => n1.flatten.length - s.1) (0, nilE tInt, none, 0) ⟨rfl, rfl, rfl, rfl, rfl, rfl, rfl, rfl, rfl, rfl, rfl, rfl, trivial⟩ (fun w' hH hf => ⟨Hp.off hH, Nat.zero_le _, Own.nil⟩) ?_
         rintro ⟨j, yk, pk, ck⟩ w10 ⟨hj, hOk⟩ hf10 hH10 KL9 hKL9
         replace hj : j ≤ n1.flatten.length := hj
         replace hOk : Own tInt 1 yk pk j ck ((x.samples[k].stack.take j).map (.int .i64)) := hOk
         refine C.begin _ [yk, eI b29 tSm [.slice pk j ck, vN, vN, vN], ⟨b28, tMsg, [.slice pl ll cl, .bool true], false, true, none⟩, y8, eI b8 tIP (cO x (.slice p1 gts.length c1) (.slice p8 k c8) (.slice p4 gms.length c4) (.slice p6 gls.length c6) (.slice p5 gfs.length c5) x.per), eI b38 tDec [.slice (some ⟨bt, 0, none⟩) T.length cc, .bool false], eI b2 tIP zIP] hf10 hH10 ?_
         clear hf10 hH10
         refine CJ.s [(2, ptr b2), (5, ptr b38), (8, ptr b8), (17, .slice pli gls.length cli), (28, ptr b28), (29, ptr b29), (284, .slice (some ⟨bm, 0, none⟩) gss.length cm7), (285, .int .i64 (gss.length : Nat)), (286, .int .i64 (k : Nat)), (292, .slice pq1 n1.flatten.length cq1), (293, .int .i64 (n1.flatten.length : Nat)), (294, .int .i64 (j : Nat))] ⟨rfl, rfl, rfl, rfl, rfl, rfl, rfl, rfl, rfl, rfl, rfl, rfl, trivial⟩ (cj_seqF fun K66 hK66 => cj_reg (j_val rfl (fun _ _ h => r_lss rfl rfl h) (j_nil (ej_then (hK66 _ _ _ (CJ.s [(2, _), (5, _), (8, _), (17, _), (28, _), (29, _), (284, _), (285, _), (286, _), (292, _), (293, _), (294, _), (295, _)] ⟨rfl, rfl, rfl, rfl, rfl, rfl, rfl, rfl, rfl, rfl, rfl, rfl, rfl, trivial⟩ (cj_seqF fun K67 hK67 => ?_)))))))
         refine cj_dec rfl (fun h295 => ?_) (fun h295 => ?_)
         ·have hj' : j < n1.flatten.length := by omega
          have hjx : j < x.samples[k].stack.length := by omega
          obtain ⟨_, hPl, hPz⟩ := hnA1.at_ hjx
          obtain ⟨p9, l9, c9, e9, -, -, hqx⟩ := hmn.openF
          injection e9 with e1 e2 e3
          subst e1; subst e2; subst e3
          obtain ⟨bq, rfl, hqc⟩ := hqx (by omega)
          have hqcell := cell1 (f := ⟨w4, w.heap.size, [tIP, tDec, tSm]⟩) (v := uv n1.flatten[j]) (k := j) (hqc ⟨w4, w.heap.size, [tIP, tDec, tSm]⟩ rfl rfl) (by rw [List.getElem?_map, List.getElem?_eq_getElem hj']; rfl)
          clear hqx hqc
          refine cj_skip (ej_then (hK67 _ _ _ (CJ.s [(2, _), (5, _), (8, _), (17, _), (28, _), (29, _), (284, _), (285, _), (286, _), (292, _), (293, _), (294, _)] ⟨rfl, rfl, rfl, rfl, rfl, rfl, rfl, rfl, rfl, rfl, rfl, rfl, trivial⟩ (cj_seqF fun K68 hK68 => cj_block (cj_seqF fun K69 hK69 => cj_reg (j_val rfl (fun _ _ h => r_idx Tryz.runUnderlying67 Tryz.sizeOf59 rfl rfl (by omega) h) (j_valw rfl (fun a w ha hH hf => r_load Tryz.isAgg59 rfl (hqcell w (hf) 0 _ rfl) ha) (jA rfl rfl (j_nil (ej_then (hK69 _ _ _ (CJ.s [(2, _), (5, _), (8, _), (17, _), (28, _), (29, _), (31, _), (284, _), (285, _), (286, _), (292, _), (293, _), (294, _)] ⟨rfl, rfl, rfl, rfl, rfl, rfl, rfl, rfl, rfl, rfl, rfl, rfl, rfl, trivial⟩ (cj_seqF fun K70 hK70 => cj_reg ?_)))))))))))))
          refine jM rfl rfl (jM rfl rfl (jM rfl rfl ?_))
          refine j_callQ (φ := fun v => v = .int .i64 (x.samples[k].stack[j])) Tryz.call25 rfl rfl (fun w3 hH hf => placed_c w3 b38 T _ (lids x) (n1.flatten[j]) (x.samples[k].stack[j]) ⟨_, hH.blk (x := eI b38 tDec [.slice (some ⟨bt, 0, none⟩) T.length cc, .bool false]) (by repeat (first | exact List.Mem.head _ | apply List.Mem.tail)) rfl, htb.mono (fr_row hf rfl)⟩ (hli.mono (fr_row hf rfl)) (by simp; omega) hPl) fun v hv => ?_
          subst hv
          refine jA rfl rfl (j_nil (ej_then (hK70 _ _ _ (CJ.s [(2, _), (5, _), (8, _), (17, _), (28, _), (29, _), (32, _), (284, _), (285, _), (286, _), (292, _), (293, _), (294, _)] ⟨rfl, rfl, rfl, rfl, rfl, rfl, rfl, rfl, rfl, rfl, rfl, rfl, rfl, trivial⟩ (cj_seqF fun K71 hK71 => cj_reg (jM rfl rfl (jM rfl rfl (jN rfl rfl (j_val rfl (fun _ _ h => r_fl (q := 1) (ft := 4) Tryz.runUnderlying58 rfl Tryz.sizeOf4 rfl h) (j_valw rfl (fun a w ha hH hf => r_ldH 5 rfl rfl Tryz.isAgg4 rfl rfl ha hH) (jM rfl rfl (j_gt rfl rfl (jM rfl rfl ?_)))))))))))))
          refine j_gt rfl rfl (j_val rfl (fun _ _ h => r_lss rfl rfl h) ?_)
          refine j_eqv (u := .bool false) (congrArg Value.bool (decide_eq_false (by omega))) ?_
          refine j_val rfl (fun _ _ h => r_pick_f rfl rfl h) (jN rfl rfl (j_val rfl (fun _ _ h => r_fl (q := 1) (ft := 4) Tryz.runUnderlying58 rfl Tryz.sizeOf4 rfl h) ?_))
          refine j_storeN (cs' := [_, _]) (H' := [_, _, _, _, _, _, _]) 5 rfl rfl rfl rfl Tryz.sizeOf4 rfl rfl rfl rfl rfl rfl rfl ?_
          refine j_nil (ej_then (hK71 _ _ _ (CJ.s [(2, _), (5, _), (8, _), (17, _), (28, _), (29, _), (32, _), (284, _), (285, _), (286, _), (292, _), (293, _), (294, _)] ⟨rfl, rfl, rfl, rfl, rfl, rfl, rfl, rfl, rfl, rfl, rfl, rfl, rfl, trivial⟩ (cj_reg (j_val rfl (fun _ _ h => r_fl (q := 0) (ft := 45) Tryz.runUnderlying50 rfl Tryz.sizeOf45 rfl h) (j_valw rfl (fun a w ha hH hf => r_ldH 1 rfl rfl Tryz.isAgg45 rfl rfl ha hH) (jM rfl rfl ?_)))))))
          refine j_bslice1 Tryz.runUnderlying45 Tryz.sizeOf3 Tryz.zeroValue3 rfl rfl rfl rfl rfl fun b316 => ?_
          refine j_appO 0 rfl hOk Tryz.runUnderlying45 el3 rfl rfl rfl rfl rfl (by omega) rfl fun y317 p317 c317 hO317 => ?_
          refine j_val rfl (fun _ _ h => r_fl (q := 0) (ft := 45) Tryz.runUnderlying50 rfl Tryz.sizeOf45 rfl h) ?_
          refine j_storeN (cs' := [_, _, _, _]) (H' := [_, _, _, _, _, _, _]) 1 rfl rfl rfl rfl Tryz.sizeOf45 rfl rfl rfl rfl rfl rfl rfl ?_
          refine j_nil (ej_blk (ej_then (hK68 _ _ _ (CJ.s [(2, _), (5, _), (8, _), (17, _), (28, _), (29, _), (284, _), (285, _), (286, _), (292, _), (293, _), (294, _)] ⟨rfl, rfl, rfl, rfl, rfl, rfl, rfl, rfl, rfl, rfl, rfl, rfl, trivial⟩ (cj_reg (j_val rfl (fun _ _ h => r_inc (by omega) rfl rfl h) (jM rfl rfl (j_nil (ej_then ?_)))))))))
          exact fun w' hH hf => hKL9 (j + 1, y317, p317, c317) _ w' ⟨hj', by simp only; rw [take_map hjx]; exact hO317⟩ hf hH (by simp only; omega) ⟨rfl, rfl, rfl, rfl, rfl, rfl, rfl, rfl, rfl, rfl, rfl, rfl, trivial⟩
         ·obtain rfl : j = n1.flatten.length := by omega
          rw [List.take_of_length_le (by omega)] at hOk
          refine cj_exit (ej_then_exit (ej_then_exit (ej_blk_hit (ej_then (hK64 _ _ _ (CJ.s [(2, _), (5, _), (8, _), (17, _), (28, _), (29, _), (284, _), (285, _), (286, _)] ⟨rfl, rfl, rfl, rfl, rfl, rfl, rfl, rfl, rfl, trivial⟩ (cj_seqF fun K72 hK72 => cj_seqF fun K73 hK73 => cj_reg (j_valw rfl (fun a w ha hH hf => r_ldA (vs := [_, _]) 2 rfl rfl Tryz.isAgg54 Tryz.sizeOf54 rfl rfl rfl ha hH) ?_))))))))
          refine j_callE (R := fun w3 v w4 => OS tU64 1 w4 v (n2.flatten.map uv) ∧ Fr 0 [] w3 w4) Tryz.call24 rfl rfl (fun w3 hH hf => many_c w3 _ true 2 _ n2 (hFg w3 hf) hSl hn2 (by omega)) fun w3 v w4 hH3 hf3 hR => ?_
          obtain ⟨hmn2, hf34⟩ := hR
          obtain ⟨pq2, l9, cq2, rfl, hl9⟩ := hmn2.scal
          obtain rfl : l9 = n2.flatten.length := by rw [List.length_map] at hl9; omega
          clear hl9
          have hsz0 := hsz
          have hFg4 : Flds w4 (.slice pl ll cl) gss[k] := (hFg w3 hf3).keep hf34
          have hsk : OS tInt 1 w4 (.slice pk n1.flatten.length ck) (x.samples[k].stack.map (.int .i64)) := hOk.os (hH3.fr hf34) (i := 0) rfl
          replace htb : OS tStr 1 w4 (.slice (some ⟨bt, 0, none⟩) T.length cc) (T.map .string) := htb.mono (fr_row (hf3.fr hf34) rfl)
          replace hty : OS tTy 2 w4 (.slice p1 gts.length c1) (x.types.flatMap cTyI) := hty.mono (fr_row (hf3.fr hf34) rfl)
          replace hmp : OS tMp 10 w4 (.slice p4 gms.length c4) (x.mappings.flatMap cMpI) := hmp.mono (fr_row (hf3.fr hf34) rfl)
          replace hfn : OS tFn 5 w4 (.slice p5 gfs.length c5) (x.funcs.flatMap cFnI) := hfn.mono (fr_row (hf3.fr hf34) rfl)
          replace hlc : OS tLc 4 w4 (.slice p6 gls.length c6) (lq.flatMap cLcI) := hlc.mono (fr_row (hf3.fr hf34) rfl)
          replace hlv : LcsV w4 lq := fun q hq => (hlv q hq).mono (fr_row (hf3.fr hf34) rfl)
          replace hli : OS tU64 1 w4 (.slice pli gls.length cli) ((lids x).map uv) := hli.mono (fr_row (hf3.fr hf34) rfl)
          replace hms7 : Msgs w4 (.slice (some ⟨bm, 0, none⟩) gss.length cm7) gss := hms7.mono (fr_row (hf3.fr hf34) rfl) (fr_row (hf3.fr hf34) rfl) (fr_row (hf3.fr hf34) rfl)
          replace hsv : SmsV w4 sq := fun q hq => (hsv q hq).mono (fr_row (hf3.fr hf34) rfl) (fr_row (hf3.fr hf34) rfl) (fr_row (hf3.fr hf34) rfl) (fr_row (hf3.fr hf34) rfl) (fr_row (hf3.fr hf34) rfl)
          replace hfr : Fr 0 [] w w4 := Fr.trans hfr (hf3.fr hf34) (.inl (Nat.le_refl _))
          replace hsz : w.heap.size ≤ w4.heap.size := hfr.size
          refine J.begin ⟨w4, w.heap.size, [tIP, tDec, tSm]⟩ [eI b29 tSm [.slice pk n1.flatten.length ck, vN, vN, vN], ⟨b28, tMsg, [.slice pl ll cl, .bool true], false, true, none⟩, y8, eI b8 tIP (cO x (.slice p1 gts.length c1) (.slice p8 k c8) (.slice p4 gms.length c4) (.slice p6 gls.length c6) (.slice p5 gfs.length c5) x.per), eI b38 tDec [.slice (some ⟨bt, 0, none⟩) T.length cc, .bool false], eI b2 tIP zIP] ok_refl (Hp.again hsz0 (Hp.drop 0 (hH3.fr hf34)) (TagOK.row (.ro (.own (TagOK.row (.row (.row .nil rfl) rfl) rfl) hO8 rfl) rfl) rfl)) ?_
          replace hFg : ∀ w', Fm.ok ⟨w4, w.heap.size, [tIP, tDec, tSm]⟩ w' → Flds w' (.slice pl ll cl) gss[k] := fun w' hf => hFg4.mono (fr_row hf rfl) (fr_row hf rfl)
          clear hFg4 hH3 hf3 hf34 hsz0
          refine j_val rfl (fun _ _ h => r_len Tryz.runUnderlying67 rfl h) (jM rfl rfl (j_nil (ej_then (hK73 _ _ _ (CJ.s [(2, _), (5, _), (8, _), (17, _), (28, _), (29, _), (284, _), (285, _), (286, _), (321, _), (322, _), (323, _)] ⟨rfl, rfl, rfl, rfl, rfl, rfl, rfl, rfl, rfl, rfl, rfl, rfl, trivial⟩ (cj_block ?_))))))
          -- LOOP 10 live [2, 5, 8, 17, 28, 29, 284, 285, 286, 321, 322, 323]
          refine cj_loop (σ := Nat × Ent × Option Addr × Nat) (fun s => [(2, ptr b2), (5, ptr b38), (8, ptr b8), (17, .slice pli gls.length cli), (28, ptr b28), (29, ptr b29), (284, .slice (some ⟨bm, 0, none⟩) gss.length cm7), (285, .int .i64 (gss.length : Nat)), (286, .int .i64 (k : Nat)), (321, .slice pq2 n2.flatten.length cq2), (322, .int .i64 (n2.flatten.length : Nat)), (323, .int .i64 (s.1 : Nat))])
           (fun s => [s.2.1, eI b29 tSm [.slice pk n1.flatten.length ck, .slice s.2.2.1 s.1 s.2.2.2, vN, vN], ⟨b28, tMsg, [.slice pl ll cl, .bool true], false, true, none⟩, y8, eI b8 tIP (cO x (.slice p1 gts.length c1) (.slice p8 k c8) (.slice p4 gms.length c4) (.slice p6 gls.length c6) (.slice p5 gfs.length c5) x.per), eI b38 tDec [.slice (some ⟨bt, 0, none⟩) T.length cc, .bool false], eI b2 tIP zIP])
           (fun s _ => s.1 ≤ n2.flatten.length ∧ Own tI64 1 s.2.1 s.2.2.1 s.1 s.2.2.2 ((x.samples[k].values.take s.1).map (.int .i64))) (fun s => n2.flatten.length - s.1) (0, nilE tI64, none, 0) ⟨rfl, rfl, rfl, rfl, rfl, rfl, rfl, rfl, rfl, rfl, rfl, rfl, trivial⟩ (fun w' hH hf => ⟨Hp.off hH, Nat.zero_le _, Own.nil⟩) ?_
          rintro ⟨j, yv, pv, cv⟩ w10 ⟨hj, hOv⟩ hf10 hH10 KL10 hKL10
          replace hj : j ≤ n2.flatten.length := hj
          replace hOv : Own tI64 1 yv pv j cv ((x.samples[k].values.take j).map (.int .i64)) := hOv
          refine C.begin _ [yv, eI b29 tSm [.slice pk n1.flatten.length ck, .slice pv j cv, vN, vN], ⟨b28, tMsg, [.slice pl ll cl, .bool true], false, true, none⟩, y8, eI b8 tIP (cO x (.slice p1 gts.length c1) (.slice p8 k c8) (.slice p4 gms.length c4) (.slice p6 gls.length c6) (.slice p5 gfs.length c5) x.per), eI b38 tDec [.slice (some ⟨bt, 0, none⟩) T.length cc, .bool false], eI b2 tIP zIP] hf10 hH10 ?_
          clear hf10 hH10
          refine CJ.s [(2, ptr b2), (5, ptr b38), (8, ptr b8), (17, .slice pli gls.length cli), (28, ptr b28), (29, ptr b29), (284, .slice (some ⟨bm, 0, none⟩) gss.length cm7), (285, .int .i64 (gss.length : Nat)), (286, .int .i64 (k : Nat)), (321, .slice pq2 n2.flatten.length cq2), (322, .int .i64 (n2.flatten.length : Nat)), (323, .int .i64 (j : Nat))] ⟨rfl, rfl, rfl, rfl, rfl, rfl, rfl, rfl, rfl, rfl, rfl, rfl, trivial⟩ (cj_seqF fun K74 hK74 => cj_reg (j_val rfl (fun _ _ h => r_lss rfl rfl h) (j_nil (ej_then (hK74 _ _ _ (CJ.s [(2, _), (5, _), (8, _), (17, _), (28, _), (29, _), (284, _), (285, _), (286, _), (321, _), (322, _), (323, _), (324, _)] ⟨rfl, rfl, rfl, rfl, rfl, rfl, rfl, rfl, rfl, rfl, rfl, rfl, rfl, trivial⟩ (cj_seqF fun K75 hK75 => ?_)))))))
          refine cj_dec rfl (fun h324 => ?_) (fun h324 => ?_)
          ·have hj' : j < n2.flatten.length := by omega
           have hjx : j < x.samples[k].values.length := by omega
           obtain ⟨_, hVl⟩ := hnA2.at_ hjx
           obtain ⟨p9, l9, c9, e9, -, -, hqx⟩ := hmn2.openF
           injection e9 with e1 e2 e3
           subst e1; subst e2; subst e3
           obtain ⟨bq, rfl, hqc⟩ := hqx (by omega)
           have hqcell := cell1 (f := ⟨w4, w.heap.size, [tIP, tDec, tSm]⟩) (v := uv n2.flatten[j]) (k := j) (hqc ⟨w4, w.heap.size, [tIP, tDec, tSm]⟩ rfl rfl) (by rw [List.getElem?_map, List.getElem?_eq_getElem hj']; rfl)
           clear hqx hqc
           refine cj_skip (ej_then (hK75 _ _ _ (CJ.s [(2, _), (5, _), (8, _), (17, _), (28, _), (29, _), (284, _), (285, _), (286, _), (321, _), (322, _), (323, _)] ⟨rfl, rfl, rfl, rfl, rfl, rfl, rfl, rfl, rfl, rfl, rfl, rfl, trivial⟩ (cj_seqF fun K76 hK76 => cj_block (cj_seqF fun K77 hK77 => cj_reg (j_val rfl (fun _ _ h => r_idx Tryz.runUnderlying67 Tryz.sizeOf59 rfl rfl (by omega) h) (j_valw rfl (fun a w ha hH hf => r_load Tryz.isAgg59 rfl (hqcell w (hf) 0 _ rfl) ha) (jA rfl rfl (j_nil (ej_then (hK77 _ _ _ (CJ.s [(2, _), (5, _), (8, _), (17, _), (28, _), (29, _), (34, _), (284, _), (285, _), (286, _), (321, _), (322, _), (323, _)] ⟨rfl, rfl, rfl, rfl, rfl, rfl, rfl, rfl, rfl, rfl, rfl, rfl, rfl, trivial⟩ (cj_reg (j_val rfl (fun _ _ h => r_fl (q := 1) (ft := 46) Tryz.runUnderlying50 rfl Tryz.sizeOf46 rfl h) ?_))))))))))))))
           refine j_valw rfl (fun a w ha hH hf => r_ldH 1 rfl rfl Tryz.isAgg46 rfl rfl ha hH) (jM rfl rfl (j_val rfl (fun _ _ h => r_conv Tryz.runUnderlying59 Tryz.runUnderlying2 rfl h) ?_))
           refine j_eqv (u := .int .i64 x.samples[k].values[j]) (congrArg (Value.int .i64) hVl) ?_
           refine j_bslice1 Tryz.runUnderlying46 Tryz.sizeOf2 Tryz.zeroValue2 rfl rfl rfl rfl rfl fun b331 => ?_
           refine j_appO 0 rfl hOv Tryz.runUnderlying46 el2 rfl rfl rfl rfl rfl (by omega) rfl fun y332 p332 c332 hO332 => ?_
           refine j_val rfl (fun _ _ h => r_fl (q := 1) (ft := 46) Tryz.runUnderlying50 rfl Tryz.sizeOf46 rfl h) ?_
           refine j_storeN (cs' := [_, _, _, _]) (H' := [_, _, _, _, _, _, _]) 1 rfl rfl rfl rfl Tryz.sizeOf46 rfl rfl rfl rfl rfl rfl rfl ?_
           refine j_nil (ej_blk (ej_then (hK76 _ _ _ (CJ.s [(2, _), (5, _), (8, _), (17, _), (28, _), (29, _), (284, _), (285, _), (286, _), (321, _), (322, _), (323, _)] ⟨rfl, rfl, rfl, rfl, rfl, rfl, rfl, rfl, rfl, rfl, rfl, rfl, trivial⟩ (cj_reg (j_val rfl (fun _ _ h => r_inc (by omega) rfl rfl h) (jM rfl rfl (j_nil (ej_then ?_)))))))))
           exact fun w' hH hf => hKL10 (j + 1, y332, p332, c332) _ w' ⟨hj', by simp only; rw [take_map hjx]; exact hO332⟩ hf hH (by simp only; omega) ⟨rfl, rfl, rfl, rfl, rfl, rfl, rfl, rfl, rfl, rfl, rfl, rfl, trivial⟩
          ·obtain rfl : j = n2.flatten.length := by omega
           rw [List.take_of_length_le (by omega)] at hOv
           refine cj_exit (ej_then_exit (ej_then_exit (ej_blk_hit (ej_then (hK72 _ _ _ (CJ.s [(2, _), (5, _), (8, _), (17, _), (28, _), (29, _), (284, _), (285, _), (286, _)] ⟨rfl, rfl, rfl, rfl, rfl, rfl, rfl, rfl, rfl, trivial⟩ (cj_seqF fun K78 hK78 => cj_reg (jM rfl rfl (j_valw rfl (fun a w ha hH hf => r_ldA (vs := [_, _]) 2 rfl rfl Tryz.isAgg54 Tryz.sizeOf54 rfl rfl rfl ha hH) ?_)))))))))
           refine j_callE (R := fun w3 v w4 => Msgs w4 v glb ∧ Fr 0 [] w3 w4) Tryz.call22 rfl rfl (fun w3 hH hf => parts_c w3 _ true 3 _ glb (hFg w3 hf) hSl hbS) fun w3 v w4 hH3 hf3 hR => ?_
           obtain ⟨hms0, hf34⟩ := hR
           obtain ⟨pb, cb, rfl, -⟩ := hms0.cells
           have hsz0 := hsz
           replace htb : OS tStr 1 w4 (.slice (some ⟨bt, 0, none⟩) T.length cc) (T.map .string) := htb.mono (fr_row (hf3.fr hf34) rfl)
           replace hty : OS tTy 2 w4 (.slice p1 gts.length c1) (x.types.flatMap cTyI) := hty.mono (fr_row (hf3.fr hf34) rfl)
           replace hmp : OS tMp 10 w4 (.slice p4 gms.length c4) (x.mappings.flatMap cMpI) := hmp.mono (fr_row (hf3.fr hf34) rfl)
           replace hfn : OS tFn 5 w4 (.slice p5 gfs.length c5) (x.funcs.flatMap cFnI) := hfn.mono (fr_row (hf3.fr hf34) rfl)
           replace hlc : OS tLc 4 w4 (.slice p6 gls.length c6) (lq.flatMap cLcI) := hlc.mono (fr_row (hf3.fr hf34) rfl)
           replace hlv : LcsV w4 lq := fun q hq => (hlv q hq).mono (fr_row (hf3.fr hf34) rfl)
           replace hli : OS tU64 1 w4 (.slice pli gls.length cli) ((lids x).map uv) := hli.mono (fr_row (hf3.fr hf34) rfl)
           replace hms7 : Msgs w4 (.slice (some ⟨bm, 0, none⟩) gss.length cm7) gss := hms7.mono (fr_row (hf3.fr hf34) rfl) (fr_row (hf3.fr hf34) rfl) (fr_row (hf3.fr hf34) rfl)
           replace hsv : SmsV w4 sq := fun q hq => (hsv q hq).mono (fr_row (hf3.fr hf34) rfl) (fr_row (hf3.fr hf34) rfl) (fr_row (hf3.fr hf34) rfl) (fr_row (hf3.fr hf34) rfl) (fr_row (hf3.fr hf34) rfl)
           replace hsk : OS tInt 1 w4 (.slice pk n1.flatten.length ck) (x.samples[k].stack.map (.int .i64)) := hsk.mono (fr_row (hf3.fr hf34) rfl)
           have hvs : OS tI64 1 w4 (.slice pv n2.flatten.length cv) (x.samples[k].values.map (.int .i64)) := hOv.os (hH3.fr hf34) (i := 0) rfl
           replace hfr : Fr 0 [] w w4 := Fr.trans hfr (hf3.fr hf34) (.inl (Nat.le_refl _))
           replace hsz : w.heap.size ≤ w4.heap.size := hfr.size
           refine J.begin ⟨w4, w.heap.size, [tIP, tDec, tSm]⟩ [eI b29 tSm [.slice pk n1.flatten.length ck, .slice pv n2.flatten.length cv, vN, vN], y8, eI b8 tIP (cO x (.slice p1 gts.length c1) (.slice p8 k c8) (.slice p4 gms.length c4) (.slice p6 gls.length c6) (.slice p5 gfs.length c5) x.per), eI b38 tDec [.slice (some ⟨bt, 0, none⟩) T.length cc, .bool false], eI b2 tIP zIP] ok_refl (Hp.again hsz0 (Hp.drop 1 (Hp.drop 0 (hH3.fr hf34))) (TagOK.row (.own (TagOK.row (.row (.row .nil rfl) rfl) rfl) hO8 rfl) rfl)) ?_
           have hmlb := hms0
           clear hH3 hf3 hf34 hms0 hsz0 hFg
           refine j_callE (R := fun w3 _ w4 => ∃ vT' vN', Blk w4 b29 tSm [.slice pk n1.flatten.length ck, .slice pv n2.flatten.length cv, vT', vN'] ∧ SdR tTx tStr .string w4 vT' (foldT (labE x.samples[k])) ∧ SdR tNu tI64 encZ w4 vN' (foldN (labE x.samples[k])) ∧ KeepX [b29] w3 w4) Tryz.call26 rfl rfl (fun w3 hH hf => labels_c w3 b29 b38 T _ _ _ glb (labE x.samples[k]) ⟨_, hH.blk (x := eI b38 tDec [.slice (some ⟨bt, 0, none⟩) T.length cc, .bool false]) (by repeat (first | exact List.Mem.head _ | apply List.Mem.tail)) rfl, htb.mono (fr_row hf rfl)⟩ (hmlb.mono (fr_row hf rfl) (fr_row hf rfl) (fr_row hf rfl)) (hH.get (i := 0) rfl rfl) rfl rfl hbO hTl) fun w3 v w4 hH3 hf3 hR => ?_
           obtain ⟨vT', vN', hbS4, hT', hN', hkx4⟩ := hR
           obtain ⟨pT', lT', cT', rfl⟩ : ∃ p l c, vT' = .slice p l c := by
            obtain ⟨_, -, h1, -⟩ := id hT'
            obtain ⟨p, l, c, h2, -⟩ := h1.scal
            exact ⟨p, l, c, h2⟩
           obtain ⟨pN', lN', cN', rfl⟩ : ∃ p l c, vN' = .slice p l c := by
            obtain ⟨_, -, h1, -⟩ := id hN'
            obtain ⟨p, l, c, h2, -⟩ := h1.scal
            exact ⟨p, l, c, h2⟩
           have hS3 : Blk w3 b29 tSm [.slice pk n1.flatten.length ck, .slice pv n2.flatten.length cv, vN, vN] := hH3.get (i := 0) rfl rfl
           have hge29 : w.heap.size ≤ b29 := by
            rcases hH3.may (List.mem_of_getElem? (i := 0) rfl) rfl rfl with h | h
            ·exact Nat.le_trans hsz h
            ·exact h.1
           have hsz0 := hsz
           replace htb : OS tStr 1 w4 (.slice (some ⟨bt, 0, none⟩) T.length cc) (T.map .string) := htb.mono (fun b cs hb => hkx4.blkT hS3 rfl (fr_row hf3 rfl _ _ hb))
           replace hty : OS tTy 2 w4 (.slice p1 gts.length c1) (x.types.flatMap cTyI) := hty.mono (fun b cs hb => hkx4.blkT hS3 rfl (fr_row hf3 rfl _ _ hb))
           replace hmp : OS tMp 10 w4 (.slice p4 gms.length c4) (x.mappings.flatMap cMpI) := hmp.mono (fun b cs hb => hkx4.blkT hS3 rfl (fr_row hf3 rfl _ _ hb))
           replace hfn : OS tFn 5 w4 (.slice p5 gfs.length c5) (x.funcs.flatMap cFnI) := hfn.mono (fun b cs hb => hkx4.blkT hS3 rfl (fr_row hf3 rfl _ _ hb))
           replace hlc : OS tLc 4 w4 (.slice p6 gls.length c6) (lq.flatMap cLcI) := hlc.mono (fun b cs hb => hkx4.blkT hS3 rfl (fr_row hf3 rfl _ _ hb))
           replace hlv : LcsV w4 lq := fun q hq => (hlv q hq).mono (fun b cs hb => hkx4.blkT hS3 rfl (fr_row hf3 rfl _ _ hb))
           replace hli : OS tU64 1 w4 (.slice pli gls.length cli) ((lids x).map uv) := hli.mono (fun b cs hb => hkx4.blkT hS3 rfl (fr_row hf3 rfl _ _ hb))
           replace hms7 : Msgs w4 (.slice (some ⟨bm, 0, none⟩) gss.length cm7) gss := hms7.mono (fun b cs hb => hkx4.blkT hS3 rfl (fr_row hf3 rfl _ _ hb)) (fun b cs hb => hkx4.blkT hS3 rfl (fr_row hf3 rfl _ _ hb)) (fun b cs hb => hkx4.blkT hS3 rfl (fr_row hf3 rfl _ _ hb))
           replace hsv : SmsV w4 sq := fun q hq => (hsv q hq).mono (fun b cs hb => hkx4.blkT hS3 rfl (fr_row hf3 rfl _ _ hb)) (fun b cs hb => hkx4.blkT hS3 rfl (fr_row hf3 rfl _ _ hb)) (fun b cs hb => hkx4.blkT hS3 rfl (fr_row hf3 rfl _ _ hb)) (fun b cs hb => hkx4.blkT hS3 rfl (fr_row hf3 rfl _ _ hb)) (fun b cs hb => hkx4.blkT hS3 rfl (fr_row hf3 rfl _ _ hb))
           replace hsk : OS tInt 1 w4 (.slice pk n1.flatten.length ck) (x.samples[k].stack.map (.int .i64)) := hsk.mono (fun b cs hb => hkx4.blkT hS3 rfl (fr_row hf3 rfl _ _ hb))
           replace hvs : OS tI64 1 w4 (.slice pv n2.flatten.length cv) (x.samples[k].values.map (.int .i64)) := hvs.mono (fun b cs hb => hkx4.blkT hS3 rfl (fr_row hf3 rfl _ _ hb))
           have hfr34 : Fr w.heap.size [tSm] w3 w4 := hkx4.fr fun b hb o ho => by
            simp at hb; subst hb
            have : o = .cells (List.toArray [.slice pk n1.flatten.length ck, .slice pv n2.flatten.length cv, vN, vN]) tSm (0, 0) := Option.some.inj (ho.symm.trans hS3)
            subst this
            exact ⟨hge29, by simp [tagOf]⟩
           replace hfr : Fr 0 [] w w4 := Fr.trans (Fr.trans hfr hf3 (.inl (Nat.le_refl _))) hfr34 (.inl (Nat.le_refl _))
           replace hsz : w.heap.size ≤ w4.heap.size := hfr.size
           rw [hSm.gT] at hT'
           rw [hSm.gN] at hN'
           refine J.begin ⟨w4, w.heap.size, [tIP, tDec, tSm]⟩ [eI b29 tSm [.slice pk n1.flatten.length ck, .slice pv n2.flatten.length cv, .slice pT' lT' cT', .slice pN' lN' cN'], y8, eI b8 tIP (cO x (.slice p1 gts.length c1) (.slice p8 k c8) (.slice p4 gms.length c4) (.slice p6 gls.length c6) (.slice p5 gfs.length c5) x.per), eI b38 tDec [.slice (some ⟨bt, 0, none⟩) T.length cc, .bool false], eI b2 tIP zIP] ok_refl (Hp.again hsz0 (Hp.chg1 hH3 hkx4 hbS4) (TagOK.row (.own (TagOK.row (.row (.row .nil rfl) rfl) rfl) hO8 rfl) rfl)) ?_
           clear hH3 hf3 hsz0 hfr34 hkx4 hS3
           refine j_nil (ej_then (hK78 _ _ _ (CJ.s [(2, _), (5, _), (8, _), (17, _), (29, _), (284, _), (285, _), (286, _)] ⟨rfl, rfl, rfl, rfl, rfl, rfl, rfl, rfl, trivial⟩ (cj_reg (j_val rfl (fun _ _ h => r_fl (q := 2) (ft := 23) Tryz.runUnderlying31 rfl Tryz.sizeOf23 rfl h) (j_valw rfl (fun a w ha hH hf => r_ldH 2 rfl rfl Tryz.isAgg23 rfl rfl ha hH) (j_valw rfl (fun a w ha hH hf => r_ldA (vs := [_, _, _, _]) 0 rfl rfl Tryz.isAgg50 Tryz.sizeOf50 rfl rfl rfl ha hH) ?_)))))))
           refine j_bslice1 Tryz.runUnderlying23 Tryz.sizeOf50 Tryz.zeroValue50 rfl rfl rfl rfl rfl fun b342 => ?_
           refine j_appO 1 rfl hO8 Tryz.runUnderlying23 el50 rfl rfl rfl rfl rfl (by omega) rfl fun y343 p343 c343 hO343 => ?_
           refine j_val rfl (fun _ _ h => r_fl (q := 2) (ft := 23) Tryz.runUnderlying31 rfl Tryz.sizeOf23 rfl h) ?_
           refine j_storeN (cs' := [_, _, _, _, _, _, _, _, _, _, _, _, _, _]) (H' := [_, _, _, _, _]) 2 rfl rfl rfl rfl Tryz.sizeOf23 rfl rfl rfl rfl rfl rfl rfl ?_
           refine j_nil (ej_blk (ej_then (hK61 _ _ _ (CJ.s [(2, _), (5, _), (8, _), (17, _), (284, _), (285, _), (286, _)] ⟨rfl, rfl, rfl, rfl, rfl, rfl, rfl, trivial⟩ (cj_reg (j_val rfl (fun _ _ h => r_inc (by omega) rfl rfl h) (jM rfl rfl (j_nil (ej_then ?_)))))))))
           exact fun w' hH hf => hKL8 (k + 1, y343, p343, c343, sq ++ [(x.samples[k], ⟨.slice pk n1.flatten.length ck, .slice pv n2.flatten.length cv, .slice pT' lT' cT', .slice pN' lN' cN'⟩)]) _ w' ⟨hk', Fr.trans hfr hf (.inl (Nat.le_refl _)), (hH.drop 0).back hsz (.inl (Nat.le_refl _)), by simp only; rw [List.flatMap_append, List.flatMap_singleton]; exact hO343, by simp only [List.map_append, hsq]; rw [← List.take_append_getElem hkx]; rfl, fun q hq => by
            rcases List.mem_append.1 hq with hq | hq
            ·exact (hsv q hq).mono (fr_row hf rfl) (fr_row hf rfl) (fr_row hf rfl) (fr_row hf rfl) (fr_row hf rfl)
            ·obtain rfl := List.mem_singleton.1 hq; exact ⟨hsk.mono (fr_row hf rfl), hvs.mono (fr_row hf rfl), hT'.mono (fr_row hf rfl) (fr_row hf rfl), hN'.mono (fr_row hf rfl) (fr_row hf rfl)⟩, htb.mono (fr_row hf rfl), hty.mono (fr_row hf rfl), hmp.mono (fr_row hf rfl), hfn.mono (fr_row hf rfl), hlc.mono (fr_row hf rfl), fun q hq => (hlv q hq).mono (fr_row hf rfl), hli.mono (fr_row hf rfl), hms7.mono (fr_row hf rfl) (fr_row hf rfl) (fr_row hf rfl)⟩ (by simp only; omega) ⟨rfl, rfl, rfl, rfl, rfl, rfl, rfl, trivial⟩
        ·obtain rfl : k = gss.length := by omega
         rw [List.take_of_length_le (by omega)] at hsq
         refine cj_exit (ej_then_exit (ej_then_exit (ej_blk_hit (ej_then (hK57 _ _ _ (CJ.s [(2, _), (5, _), (8, _)] ⟨rfl, rfl, rfl, trivial⟩ (cj_seqF fun K79 hK79 => ?_)))))))
         refine cj_drawI 8 [(0, true), (1, true), (2, true), (3, true), (4, true), (5, true), (6, false), (7, true)] [1, 2] rfl (by kernel_rfl) (by kernel_rfl) ?_
         refine dj_ld rfl rfl (sub_of [1, 2] rfl) (fun a w ha hS => r_ldSA (vs := [_, _, _, _, _, _, _, _, _, _, _, _, _, _]) 0 rfl rfl Tryz.isAgg31 Tryz.sizeOf31 rfl rfl rfl ha hS) (dj_val rfl rfl (sub_of [1, 2] rfl) (fun _ _ h => r_move rfl h) (dj_val rfl rfl (sub_of [1, 2] rfl) (fun _ _ h => r_nil rfl h) (dj_val rfl rfl (sub_of [1, 2] rfl) (fun _ _ h => r_fl (q := 1) (ft := 4) Tryz.runUnderlying58 rfl Tryz.sizeOf4 rfl h) (dj_ld rfl rfl (sub_of [1, 2] rfl) (fun a w ha hS => r_ldS 1 rfl rfl Tryz.isAgg4 rfl rfl ha hS) (dj_val rfl rfl (sub_of [1, 2] rfl) (fun _ _ h => r_not rfl h) (dj_eff rfl fun K2 hK2 => ?_))))))
         refine j_storeN (cs' := [_, _, _, _, _, _, _, _, _, _, _, _, _, _]) (H' := [_, _, _, _]) 3 rfl rfl rfl rfl Tryz.sizeOf31 rfl rfl rfl rfl rfl rfl rfl ?_
         refine j_nil (ej_then (hK2 _ _ (.inr (sub_of [1, 2] rfl)) ?_)); clear hK2 K2
         refine dj_val rfl rfl (sub_of [1, 2] rfl) (fun _ _ h => r_assign rfl h) (dj_end (ej_then (hK79 _ _ _ (CJ.s [(2, _), (3, _)] ⟨rfl, rfl, trivial⟩ (cj_ret (?_))))))
         exact ej_ret2C Tryz.results7 Tryz.isAgg31 Tryz.sizeOf31 rfl rfl rfl (fun w' hH hf => ⟨_, hH.get (i := 3) rfl rfl⟩) fun w' hH hf => ⟨⟨_, rfl, _, _, _, _, _, lq, sq, rfl, hty.mono (fr_row hf rfl), hmp.mono (fr_row hf rfl), hfn.mono (fr_row hf rfl), hlq, hlc.mono (fr_row hf rfl), fun q hq => (hlv q hq).mono (fr_row hf rfl), hsq, hO8.os hH (i := 0) rfl, fun q hq => (hsv q hq).mono (fr_row hf rfl) (fr_row hf rfl) (fr_row hf rfl) (fr_row hf rfl) (fr_row hf rfl)⟩, Fr.trans hfr hf (.inl (Nat.le_refl _))⟩
end Go.Proofs.YtifnhinopjgfaaaGreat
