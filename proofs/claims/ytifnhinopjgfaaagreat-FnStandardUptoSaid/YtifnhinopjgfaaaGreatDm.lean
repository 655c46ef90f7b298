/-
  The specification's messages: their fields, one by its number. Conditions: the bytes are fields, one behind the other.
-/
import Derived.Test.YtifnhinopjgfaaaGreatDf
namespace Go.Fw
open Go
section
variable {P : Program} {n : Nat} {f : Fm} {e : Env} {H : Heap}
/-- a function's one result, a variable's cells -/
theorem ej_ret1C {fn : Func} {R : Value → World → Prop} {s T m : Nat} {b : Nat} {vs : List Value} (hres : fn.results = #[.cell s T]) (hag : ∀ w, (isAgg T).run P w = .ok true w) (hsz : ∀ w, (sizeOf T).run P w = .ok m w) (hvm : vs.length = m)
  (hs : look e s = some (.pointer (some ⟨b, 0, none⟩))) (hb : ∀ w, Hp f w H → f.ok w → ∃ U, Blk w b U vs) (h : ∀ w, Hp f w H → f.ok w → R (.agg vs.toArray) w) :
  EJ (bodyPost P fn (Ret R)) .ret n f e H := fun w hH hf a ha => by
 refine ⟨ha.defs, _, ?_, h w hH hf⟩
 have h2 := ha.has s _ hs
 obtain ⟨U, hbk⟩ := hb w hH hf
 have h3 := run_loadCells (P := P) (b := b) w vs 0 hbk.cells
 simp only [results, hres]
 simp [Array.getD_eq_getD_getElem?, h2, asAddr, loadVar, hag, hsz, ← hvm, h3]
end
end Go.Fw
namespace Go.Proofs.YtifnhinopjgfaaaGreat
open Go Go.Fw Go.Proofs Go.Proofs.Tryz
abbrev tMsg : Nat := 54
theorem messageOf_c (w : World) (b o c : Nat) (fs : List Fld) (hfs : ∀ f ∈ fs, FldOK f) (h : Bys w b o c (encFs fs)) (hc : (encFs fs).length ≤ 1000000000000) (hl : fs.length ≤ 10000000000) :
  Calls Tryz.prog 19 #[.slice (some ⟨b, o, none⟩) (encFs fs).length c] w (Ret fun v w' => (∃ lv, v = .agg #[lv, .bool true] ∧ Flds w' lv fs) ∧ Fr 0 [] w w') := by
 refine startJ (args := [_]) [(0, _)] 0 [] [] Tryz.func19 rfl Tryz.ntmps19 rfl rfl .nil ?_
 refine cj_seqF fun K1 hK1 => cj_reg ?_
 refine j_allocA (zs := [(.slice none 0 0), (.bool false)]) Tryz.zeroValue54 rfl fun b2 => ?_
 refine j_nil (ej_then (hK1 _ _ _ (CJ.s [(0, _), (2, _)] ⟨rfl, rfl, trivial⟩ (cj_seqF fun K2 hK2 => cj_reg (jM rfl rfl ?_)))))
 refine j_callE (R := fun w1 v w2 => (∃ lv, v = .tuple #[lv, .bool true] ∧ Flds w2 lv fs) ∧ Fr 0 [] w1 w2) Tryz.call43 rfl rfl (fun w1 hH hf => fields_c w1 b o c fs hfs (h.keep hf) hc hl) fun w1 v w2 hH1 hf1 hR => ?_
 obtain ⟨⟨lv, rfl, hF⟩, hf2⟩ := hR
 have hfr : Fr 0 [] w w2 := Fr.trans hf1 hf2 (.inr ⟨Nat.le_refl _, fun _ h => h⟩)
 have hb2 := hf2.blk (hH1.get (i := 0) rfl rfl) (.inr (by simp))
 have hge : w.heap.size ≤ b2 := hH1.fresh (i := 0) rfl rfl rfl
 obtain ⟨qs, hq1, hq2, hq3⟩ := hF.ex
 obtain ⟨pl, ll, cl, rfl, -⟩ := hq2.scal
 refine J.begin ⟨w2, w.heap.size, [tMsg]⟩ [⟨b2, tMsg, _, true, true, none⟩] ok_refl (Hp.add trivial hb2 (fun _ => .inr ⟨hge, by simp⟩) (by simp)) ?_
 refine jM rfl rfl (j_val rfl (fun _ _ h => r_extract rfl rfl h) (j_val rfl (fun _ _ h => r_extract rfl rfl h) (jA rfl rfl (jA rfl rfl (j_nil (ej_then (hK2 _ _ _ (CJ.s [(2, _), (3, _), (4, _)] ⟨rfl, rfl, rfl, trivial⟩ (cj_seqF fun K3 hK3 => cj_reg (jM rfl rfl (jM rfl rfl (j_val rfl (fun _ _ h => r_build (cs := [_, _]) bt54 rfl rfl h) ?_))))))))))))
 refine j_storeN (cs' := [_, _]) (H' := [_]) 0 rfl rfl rfl rfl Tryz.sizeOf54 rfl rfl rfl rfl rfl rfl rfl ?_
 refine j_nil (ej_then (hK3 _ _ _ (CJ.s [(2, _)] ⟨rfl, trivial⟩ (cj_ret (?_)))))
 exact ej_ret1C Tryz.results19 Tryz.isAgg54 Tryz.sizeOf54 rfl rfl (fun w' hH hf => ⟨_, hH.get (i := 0) rfl rfl⟩) fun w' hH hf => ⟨⟨_, rfl, hF.mono (fr_row hf rfl) (fr_row hf rfl)⟩, Fr.trans hfr hf (.inl (Nat.le_refl _))⟩
/-- the cells of the fields of a message -/
theorem Flds.cells {w : World} {lv : Value} {fs : List Fld} (h : Flds w lv fs) : ∃ p c, lv = .slice p fs.length c ∧ ∀ (i : Nat) f, fs[i]? = some f → ∃ b fb, p = some ⟨b, 0, none⟩ ∧ fbOK w f fb ∧ ∀ (W : List Nat), W.all (fun t => !Nat.beq t tFld) = true → ∀ w', Fr 0 W w w' → ∀ (j : Nat) (u : Value), (cFld (f, fb))[j]? = some u → w'.cell? ⟨b, 0 + i * 4 + j, none⟩ = some u := by
 obtain ⟨qs, h1, h2, h3⟩ := h.ex
 obtain ⟨p, l, c, rfl, hl, -, hx⟩ := h2.openF
 have hql : qs.length = fs.length := by have := congrArg List.length h1; simpa using this
 have hfl : (qs.flatMap cFld).length = qs.length * 4 := flatMap_len (sz := 4) (fun _ => rfl) _
 obtain rfl : l = fs.length := by omega
 refine ⟨p, c, rfl, fun i f hf => ?_⟩
 have hi := (List.getElem?_eq_some_iff.1 hf).1
 obtain ⟨b, rfl, hcell⟩ := hx (by omega)
 have hq : qs[i]? = some (qs[i]'(by omega)) := List.getElem?_eq_getElem _
 have hqf : (qs[i]'(by omega)).1 = f := by
  have : (qs.map (·.1))[i]? = some f := by rw [h1]; exact hf
  rw [List.getElem?_map, hq] at this
  exact Option.some.inj this
 have hok := h3 _ (List.mem_of_getElem? hq)
 rw [hqf] at hok
 refine ⟨b, (qs[i]'(by omega)).2, rfl, hok, fun W hW w' hF j u hu => ?_⟩
 rw [Nat.zero_add]
 refine hcell ⟨w, 0, W⟩ rfl hW w' hF _ u (flatMap_get (c := cFld) (sz := 4) (fun _ => rfl) hq j u ?_)
 rw [show (qs[i]'(by omega)) = (f, (qs[i]'(by omega)).2) from by rw [← hqf]]; exact hu
/-- the number of a field, the last one of its kind -/
def oneN (k : Nat) (fs : List Fld) : Nat := fs.foldl (fun a f => if fkey f = k then fnum f else a) 0
theorem oneN_step {k : Nat} {fs : List Fld} {i : Nat} (hi : i < fs.length) : oneN k (fs.take (i + 1)) = if fkey fs[i] = k then fnum fs[i] else oneN k (fs.take i) := by
 unfold oneN
 rw [← List.take_append_getElem hi, List.foldl_append]; rfl
theorem one_c (w : World) (lv : Value) (bo : Bool) (k : Nat) (fs : List Fld) (hF : Flds w lv fs) (hl : fs.length ≤ 10000000000) :
  Calls Tryz.prog 21 #[.agg #[lv, .bool bo], .int .i64 (k : Nat)] w (Ret fun v w' => v = .int .u64 (oneN k fs : Nat) ∧ Fr 0 [] w w') := by
 obtain ⟨p, c, rfl, hcs⟩ := hF.cells
 refine startJ (args := [_, _]) [(0, .agg [.slice p fs.length c, .bool bo].toArray), (1, _)] 0 [] [] Tryz.func21 rfl Tryz.ntmps21 rfl rfl .nil ?_
 refine cj_seqF fun K1 hK1 => cj_reg ?_
 refine j_boxA (vs := [_, _]) rfl rfl fun b2 => ?_
 refine jA rfl rfl (j_nil (ej_then (hK1 _ _ _ (CJ.s [(1, _), (2, _)] ⟨rfl, rfl, trivial⟩ (cj_seqF fun K2 hK2 => cj_reg (jA rfl rfl (j_nil (ej_then (hK2 _ _ _ (CJ.s [(1, _), (2, _), (5, _)] ⟨rfl, rfl, rfl, trivial⟩ (cj_seqF fun K3 hK3 => cj_seqF fun K4 hK4 => cj_reg (j_val rfl (fun _ _ h => r_fl (q := 0) (ft := 52) Tryz.runUnderlying54 rfl Tryz.sizeOf52 rfl h) ?_))))))))))))
 refine j_valw rfl (fun a w ha hH hf => r_ldH 0 rfl rfl Tryz.isAgg52 rfl rfl ha hH) (j_val rfl (fun _ _ h => r_len Tryz.runUnderlying52 rfl h) (jM rfl rfl (j_nil (ej_then (hK4 _ _ _ (CJ.s [(1, _), (5, _), (9, _), (10, _), (11, _)] ⟨rfl, rfl, rfl, rfl, rfl, trivial⟩ (cj_block ?_)))))))
 -- LOOP 0 live [1, 5, 9, 10, 11]
 intro w1 hH1 hf1
 refine c_loop (σ := Nat) (fun i => [(1, .int .i64 (k : Nat)), (5, .int .u64 (oneN k (fs.take i) : Nat)), (9, .slice p fs.length c), (10, .int .i64 (fs.length : Nat)), (11, .int .i64 (i : Nat))]) (fun i w' => i ≤ fs.length ∧ Fr 0 [] w w') (fun i => fs.length - i) 0 ⟨rfl, rfl, rfl, rfl, rfl, trivial⟩ ⟨Nat.zero_le _, hf1⟩ ?_
 rintro i w2 ⟨hi, hf2⟩ KL hKL
 refine C.begin ⟨w2, 0, []⟩ [] ok_refl .nil ?_
 refine CJ.s [(1, .int .i64 (k : Nat)), (5, .int .u64 (oneN k (fs.take i) : Nat)), (9, .slice p fs.length c), (10, .int .i64 (fs.length : Nat)), (11, .int .i64 (i : Nat))] ⟨rfl, rfl, rfl, rfl, rfl, trivial⟩ (cj_seqF fun K5 hK5 => cj_reg (j_val rfl (fun _ _ h => r_lss rfl rfl h) (j_nil (ej_then (hK5 _ _ _ (CJ.s [(1, _), (5, _), (9, _), (10, _), (11, _), (12, _)] ⟨rfl, rfl, rfl, rfl, rfl, rfl, trivial⟩ (cj_seqF fun K6 hK6 => ?_)))))))
 refine cj_dec rfl (fun h12 => ?_) (fun h12 => ?_)
 ·have hi' : i < fs.length := by omega
  obtain ⟨b, fb, rfl, ⟨b', o', c', rfl, -⟩, hcell0⟩ := hcs i fs[i] (List.getElem?_eq_getElem hi')
  have hcell : ∀ w', Fm.ok ⟨w2, 0, []⟩ w' → ∀ (j : Nat) (u : Value), (cFld (fs[i], .slice (some ⟨b', o', none⟩) (fbytes fs[i]).length c'))[j]? = some u → w'.cell? ⟨b, 0 + i * 4 + j, none⟩ = some u := fun w' hf => hcell0 [] rfl w' (frQ hf2 hf)
  refine cj_skip (ej_then (hK6 _ _ _ (CJ.s [(1, _), (5, _), (9, _), (10, _), (11, _)] ⟨rfl, rfl, rfl, rfl, rfl, trivial⟩ (cj_seqF fun K7 hK7 => cj_block (cj_seqF fun K8 hK8 => cj_reg (j_val rfl (fun _ _ h => r_idx Tryz.runUnderlying52 Tryz.sizeOf61 rfl rfl (by omega) h) (j_valw rfl (fun a w ha hH hf => r_loadA Tryz.isAgg61 Tryz.sizeOf61 rfl rfl (hcell w (hf)) ha) ?_)))))))
  refine j_allocA (zs := [(.int .i64 0), (.int .i64 0), (.int .u64 0), (.slice none 0 0)]) Tryz.zeroValue61 rfl fun b7 => ?_
  refine j_storeN (cs' := [_, _, _, _]) (H' := [_]) 0 rfl rfl rfl rfl Tryz.sizeOf61 rfl rfl rfl rfl rfl rfl rfl ?_
  refine j_nil (ej_then (hK8 _ _ _ (CJ.s [(1, _), (5, _), (7, _), (9, _), (10, _), (11, _)] ⟨rfl, rfl, rfl, rfl, rfl, rfl, trivial⟩ (cj_seqF fun K9 hK9 => cj_reg (j_val rfl (fun _ _ h => r_fl (q := 0) (ft := 3) Tryz.runUnderlying61 rfl Tryz.sizeOf3 rfl h) (j_valw rfl (fun a w ha hH hf => r_ldH 0 rfl rfl Tryz.isAgg3 rfl rfl ha hH) (jM rfl rfl (j_val rfl (fun _ _ h => r_eql rfl rfl h) (j_nil (ej_then (hK9 _ _ _ (CJ.s [(1, _), (5, _), (7, _), (9, _), (10, _), (11, _), (18, _)] ⟨rfl, rfl, rfl, rfl, rfl, rfl, rfl, trivial⟩ ?_))))))))))))
  refine cj_dec rfl (fun h18 => ?_) (fun h18 => ?_)
  ·have h18' : ((fkey fs[i] : Nat) : Int) = (k : Int) := h18
   have hst : oneN k (fs.take (i + 1)) = fnum fs[i] := by rw [oneN_step hi', if_pos (by omega)]
   refine cj_reg (j_val rfl (fun _ _ h => r_fl (q := 2) (ft := 59) Tryz.runUnderlying61 rfl Tryz.sizeOf59 rfl h) (j_valw rfl (fun a w ha hH hf => r_ldH 0 rfl rfl Tryz.isAgg59 rfl rfl ha hH) (jA rfl rfl (j_nil (ej_blk (ej_then (hK7 _ _ _ (CJ.s [(1, _), (5, _), (9, _), (10, _), (11, _)] ⟨rfl, rfl, rfl, rfl, rfl, trivial⟩ (cj_reg (j_val rfl (fun _ _ h => r_inc (by omega) rfl rfl h) (jM rfl rfl (j_nil (ej_then ?_)))))))))))))
   exact fun w' hH hf => hKL (i + 1) _ w' ⟨hi', frQ hf2 hf⟩ (by omega) ⟨rfl, by rw [hst]; rfl, rfl, rfl, rfl, trivial⟩
  ·have h18' : ¬ ((fkey fs[i] : Nat) : Int) = (k : Int) := h18
   have hst : oneN k (fs.take (i + 1)) = oneN k (fs.take i) := by rw [oneN_step hi', if_neg (by omega)]
   refine cj_skip (ej_blk (ej_then (hK7 _ _ _ (CJ.s [(1, _), (5, _), (9, _), (10, _), (11, _)] ⟨rfl, rfl, rfl, rfl, rfl, trivial⟩ (cj_reg (j_val rfl (fun _ _ h => r_inc (by omega) rfl rfl h) (jM rfl rfl (j_nil (ej_then ?_)))))))))
   exact fun w' hH hf => hKL (i + 1) _ w' ⟨hi', frQ hf2 hf⟩ (by omega) ⟨rfl, by rw [hst]; rfl, rfl, rfl, rfl, trivial⟩
 ·have hie : i = fs.length := by omega
  refine cj_exit (ej_then_exit (ej_then_exit (ej_blk_hit (ej_then (hK3 _ _ _ (CJ.s [(5, _)] ⟨rfl, trivial⟩ (cj_seqF fun K10 hK10 => cj_reg (jM rfl rfl (jA rfl rfl (j_nil (ej_then (hK10 _ _ _ (CJ.s [(4, _)] ⟨rfl, trivial⟩ (cj_ret (?_)))))))))))))))
  exact ej_ret1 Tryz.results21 rfl fun w' hH hf => ⟨by rw [hie, List.take_of_length_le (Nat.le_refl _)], frQ hf2 hf⟩
end Go.Proofs.YtifnhinopjgfaaaGreat
