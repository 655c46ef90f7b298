/-
  The specification's messages: the numbers of fields, packed or not. Conditions: the bytes of such fields are numbers, one behind the other.
-/
import Derived.Test.YtifnhinopjgfaaaGreatDp
namespace Go.Proofs.YtifnhinopjgfaaaGreat
open Go Go.Fw Go.Proofs Go.Proofs.Tryz
abbrev uv (n : Nat) : Value := .int .u64 (n : Int)
/-- the numbers that a field is -/
def FV (f : Fld) (ns : List Nat) : Prop := match f with
 | .num _ n => ns = [n]
 | .bys _ B => B = ns.flatMap vint ∧ ∀ n ∈ ns, n < 18446744073709551616
/-- fields that are numbers -/
structure Mny (k : Nat) (fs : List Fld) (nss : List (List Nat)) : Prop where
 len : nss.length = fs.length
 at_ : ∀ (i : Nat) f ns, fs[i]? = some f → nss[i]? = some ns → if fkey f = k then FV f ns else ns = []
theorem flatten_step {α : Type} {l : List (List α)} {i : Nat} (hi : i < l.length) : (l.take (i + 1)).flatten = (l.take i).flatten ++ l[i] := by
 rw [← List.take_append_getElem hi, List.flatten_append]; simp
theorem flatten_le {α : Type} (l : List (List α)) (i : Nat) : ((l.take i).flatten).length ≤ l.flatten.length := by
 have h : l.flatten = (l.take i).flatten ++ (l.drop i).flatten := by rw [← List.flatten_append, List.take_append_drop]
 rw [h, List.length_append]; omega
set_option maxHeartbeats 1000000 in
theorem many_c (w : World) (lv : Value) (bo : Bool) (k : Nat) (fs : List Fld) (nss : List (List Nat)) (hF : Flds w lv fs) (hl : fs.length ≤ 1000000000) (hN : Mny k fs nss) (hn : nss.flatten.length ≤ 1000000000) :
  Calls Tryz.prog 24 #[.agg #[lv, .bool bo], .int .i64 (k : Nat)] w (Ret fun v w' => OS tU64 1 w' v (nss.flatten.map uv) ∧ Fr 0 [] w w') := by
 obtain ⟨pF, cF, rfl, hcs⟩ := hF.cells
 have hlen := hN.len
 refine startJ (args := [_, _]) [(0, .agg [.slice pF fs.length cF, .bool bo].toArray), (1, _)] 0 [] [] func24 rfl ntmps24 rfl rfl .nil ?_
 refine cj_seqF fun K1 hK1 => cj_reg ?_
 refine j_boxA (vs := [_, _]) rfl rfl fun b2 => ?_
 refine jA rfl rfl (j_nil (ej_then (hK1 _ _ _ (CJ.s [(1, _), (2, _)] ⟨rfl, rfl, trivial⟩ (cj_seqF fun K2 hK2 => cj_reg (jA rfl rfl (j_nil (ej_then (hK2 _ _ _ (CJ.s [(1, _), (2, _), (5, _)] ⟨rfl, rfl, rfl, trivial⟩ (cj_seqF fun K3 hK3 => cj_seqF fun K4 hK4 => cj_reg (j_val rfl (fun _ _ h => r_fl (q := 0) (ft := 52) runUnderlying54 rfl sizeOf52 rfl h) ?_))))))))))))
 refine j_valw rfl (fun a w ha hH hf => r_ldH 0 rfl rfl isAgg52 rfl rfl ha hH) (j_val rfl (fun _ _ h => r_len runUnderlying52 rfl h) (jM rfl rfl (j_nil (ej_then (hK4 _ _ _ (CJ.s [(1, _), (5, _), (13, _), (14, _), (15, _)] ⟨rfl, rfl, rfl, rfl, rfl, trivial⟩ (cj_block ?_)))))))
 -- LOOP 0 live [1, 5, 13, 14, 15]
 intro w0 hH0 hf0
 refine c_loop (σ := Nat × Ent × Option Addr × Nat) (fun s => [(1, .int .i64 (k : Nat)), (5, .slice s.2.2.1 ((nss.take s.1).flatten).length s.2.2.2), (13, .slice pF fs.length cF), (14, .int .i64 (fs.length : Nat)), (15, .int .i64 (s.1 : Nat))])
  (fun s w' => s.1 ≤ fs.length ∧ Fr 0 [] w w' ∧ Hp ⟨w, w.heap.size, []⟩ w' [s.2.1] ∧ Own tU64 1 s.2.1 s.2.2.1 ((nss.take s.1).flatten).length s.2.2.2 ((nss.take s.1).flatten.map uv)) (fun s => fs.length - s.1)
  (0, nilE tU64, none, 0) ⟨rfl, by simp; rfl, rfl, rfl, rfl, trivial⟩ ⟨Nat.zero_le _, hf0, Hp.off trivial, by simpa using Own.nil⟩ ?_
 rintro ⟨i, y, p, cc⟩ w1 ⟨hi, hf1, hH1, hO⟩ KL hKL
 have hi : i ≤ fs.length := hi
 have hO : Own tU64 1 y p ((nss.take i).flatten).length cc ((nss.take i).flatten.map uv) := hO
 have hle0 := flatten_le nss i
 refine C.begin ⟨w1, w.heap.size, [tU64]⟩ [y] ok_refl (Hp.again (Nat.le_refl _) hH1 fun x hx he hw => by simp at hx; subst hx; rw [hO.tag]; simp) ?_
 refine CJ.s [(1, .int .i64 (k : Nat)), (5, .slice p ((nss.take i).flatten).length cc), (13, .slice pF fs.length cF), (14, .int .i64 (fs.length : Nat)), (15, .int .i64 (i : Nat))] ⟨rfl, rfl, rfl, rfl, rfl, trivial⟩ (cj_seqF fun K5 hK5 => cj_reg (j_val rfl (fun _ _ h => r_lss rfl rfl h) (j_nil (ej_then (hK5 _ _ _ (CJ.s [(1, _), (5, _), (13, _), (14, _), (15, _), (16, _)] ⟨rfl, rfl, rfl, rfl, rfl, rfl, trivial⟩ (cj_seqF fun K6 hK6 => ?_)))))))
 refine cj_dec rfl (fun h16 => ?_) (fun h16 => ?_)
 ·have hi' : i < fs.length := by omega
  have hin : i < nss.length := by omega
  have hst := flatten_step hin
  have hle1 := flatten_le nss (i + 1)
  have hat := hN.at_ i _ _ (List.getElem?_eq_getElem hi') (List.getElem?_eq_getElem hin)
  obtain ⟨b, fb, rfl, hfb, hcell0⟩ := hcs i fs[i] (List.getElem?_eq_getElem hi')
  obtain ⟨b', o', c', rfl, hB, hc'⟩ := hfb
  have hcell : ∀ w', Fm.ok ⟨w1, w.heap.size, [tU64]⟩ w' → ∀ (j : Nat) (u : Value), (cFld (fs[i], .slice (some ⟨b', o', none⟩) (fbytes fs[i]).length c'))[j]? = some u → w'.cell? ⟨b, 0 + i * 4 + j, none⟩ = some u := fun w' hf => hcell0 [tU64] rfl w' (frB hf1 hf)
  refine cj_skip (ej_then (hK6 _ _ _ (CJ.s [(1, _), (5, _), (13, _), (14, _), (15, _)] ⟨rfl, rfl, rfl, rfl, rfl, trivial⟩ (cj_seqF fun K7 hK7 => cj_block (cj_seqF fun K8 hK8 => cj_reg (j_val rfl (fun _ _ h => r_idx runUnderlying52 sizeOf61 rfl rfl (by omega) h) (j_valw rfl (fun a w ha hH hf => r_loadA isAgg61 sizeOf61 rfl rfl (hcell w (hf)) ha) ?_)))))))
  refine j_allocA (zs := [(.int .i64 0), (.int .i64 0), (.int .u64 0), (.slice none 0 0)]) zeroValue61 rfl fun b7 => ?_
  refine j_storeN (cs' := [_, _, _, _]) (H' := [_, _]) 0 rfl rfl rfl rfl sizeOf61 rfl rfl rfl rfl rfl rfl rfl ?_
  refine j_nil (ej_then (hK8 _ _ _ (CJ.s [(1, _), (5, _), (7, _), (13, _), (14, _), (15, _)] ⟨rfl, rfl, rfl, rfl, rfl, rfl, trivial⟩ (cj_seqF fun K9 hK9 => cj_seqF fun K10 hK10 => cj_reg (j_val rfl (fun _ _ h => r_fl (q := 0) (ft := 3) runUnderlying61 rfl sizeOf3 rfl h) (j_valw rfl (fun a w ha hH hf => r_ldH 0 rfl rfl isAgg3 rfl rfl ha hH) (jM rfl rfl (j_val rfl (fun _ _ h => r_neq rfl rfl h) (j_nil (ej_then (hK10 _ _ _ (CJ.s [(1, _), (5, _), (7, _), (13, _), (14, _), (15, _), (22, _)] ⟨rfl, rfl, rfl, rfl, rfl, rfl, rfl, trivial⟩ ?_))))))))))))
  refine cj_dec rfl (fun h22 => ?_) (fun h22 => ?_)
  ·have hne : nss[i] = [] := by
    rw [if_neg (fun hc => h22 (congrArg (fun n : Nat => (n : Int)) hc))] at hat; exact hat
   rw [hne, List.append_nil] at hst
   refine cj_exit (ej_then_exit (ej_blk_hit (ej_then (hK7 _ _ _ (CJ.s [(1, _), (5, _), (13, _), (14, _), (15, _)] ⟨rfl, rfl, rfl, rfl, rfl, trivial⟩ (cj_reg (j_val rfl (fun _ _ h => r_inc (by omega) rfl rfl h) (jM rfl rfl (j_nil (ej_then ?_))))))))))
   have hfr : ∀ w', Fm.ok ⟨w1, w.heap.size, [tU64]⟩ w' → Fr 0 [] w w' := fun w' hf => Fr.trans hf1 hf (.inl (Nat.le_refl _))
   first
   | (exact fun w' hH hf => hKL (i + 1, y30, p30, c30) _ w' ⟨hi', hfr _ hf, (hH.drop 0).back hf1.size (.inl (Nat.le_refl _)), by simp only; rw [hst, hns, List.map_append, List.length_append]; exact hO30⟩ (by simp only; omega) ⟨rfl, by simp only [hst, hns, List.length_append]; rfl, rfl, rfl, rfl, trivial⟩)
   | (exact fun w' hH hf => hKL (i + 1, y1, p1, cc1) _ w' ⟨hi', hfr _ hf, hH.back hf1.size (.inl (Nat.le_refl _)), by
     rw [hje, List.take_of_length_le (Nat.le_refl _)] at hO1
     simp only; rw [hst, List.map_append, List.length_append]; exact hO1⟩ (by simp only; omega) ⟨rfl, by simp only [hst, hje, List.length_append]; rfl, rfl, rfl, rfl, trivial⟩)
   | (exact fun w' hH hf => hKL (i + 1, y, p, cc) _ w' ⟨hi', hfr _ hf, (hH.drop 0).back hf1.size (.inl (Nat.le_refl _)), by simp only; rw [hst]; exact hO⟩ (by simp only; omega) ⟨rfl, by simp only [hst]; rfl, rfl, rfl, rfl, trivial⟩)
  ·have hkf : fkey fs[i] = k := by
    have h22' : ((fkey fs[i] : Nat) : Int) = (k : Int) := Decidable.byContradiction h22
    omega
   rw [if_pos hkf] at hat
   have hls := congrArg List.length hst
   rw [List.length_append] at hls
   refine cj_skip (ej_then (hK9 _ _ _ (CJ.s [(1, _), (5, _), (7, _), (13, _), (14, _), (15, _)] ⟨rfl, rfl, rfl, rfl, rfl, rfl, trivial⟩ (cj_seqF fun K11 hK11 => cj_seqF fun K12 hK12 => cj_reg (j_val rfl (fun _ _ h => r_fl (q := 1) (ft := 3) runUnderlying61 rfl sizeOf3 rfl h) (j_valw rfl (fun a w ha hH hf => r_ldH 0 rfl rfl isAgg3 rfl rfl ha hH) (j_val rfl (fun _ _ h => r_eql rfl rfl h) (j_nil (ej_then (hK12 _ _ _ (CJ.s [(1, _), (5, _), (7, _), (13, _), (14, _), (15, _), (25, _)] ⟨rfl, rfl, rfl, rfl, rfl, rfl, rfl, trivial⟩ ?_)))))))))))
   refine cj_dec rfl (fun h25 => ?_) (fun h25 => ?_)
   ·obtain ⟨kk, n, hfe⟩ : ∃ kk n, fs[i] = .num kk n := by
     cases hf : fs[i] with
     | num kk n => exact ⟨kk, n, rfl⟩
     | bys kk n => rw [hf] at h25; simp [fwire] at h25
    have hns : nss[i] = [fnum fs[i]] := by rw [hfe] at hat ⊢; exact hat
    have hl1 : nss[i].length = 1 := by rw [hns]; rfl
    refine cj_seqF fun K13 hK13 => cj_reg (jM rfl rfl (j_val rfl (fun _ _ h => r_fl (q := 2) (ft := 59) runUnderlying61 rfl sizeOf59 rfl h) (j_valw rfl (fun a w ha hH hf => r_ldH 0 rfl rfl isAgg59 rfl rfl ha hH) ?_)))
    refine j_bslice1 runUnderlying67 sizeOf59 zeroValue59 rfl rfl rfl rfl rfl fun b29 => ?_
    refine j_appO 1 rfl hO runUnderlying67 el59 rfl rfl rfl rfl rfl (by omega) rfl fun y30 p30 c30 hO30 => ?_
    refine jA rfl rfl (j_nil (ej_then (hK13 _ _ _ (CJ.s [(1, _), (5, _), (13, _), (14, _), (15, _)] ⟨rfl, rfl, rfl, rfl, rfl, trivial⟩ (cj_exit (ej_then_exit (ej_blk_hit (ej_then (hK7 _ _ _ (CJ.s [(1, _), (5, _), (13, _), (14, _), (15, _)] ⟨rfl, rfl, rfl, rfl, rfl, trivial⟩ (cj_reg (j_val rfl (fun _ _ h => r_inc (by omega) rfl rfl h) (jM rfl rfl (j_nil (ej_then ?_)))))))))))))))
    have hfr : ∀ w', Fm.ok ⟨w1, w.heap.size, [tU64]⟩ w' → Fr 0 [] w w' := fun w' hf => Fr.trans hf1 hf (.inl (Nat.le_refl _))
    first
    | (exact fun w' hH hf => hKL (i + 1, y30, p30, c30) _ w' ⟨hi', hfr _ hf, (hH.drop 0).back hf1.size (.inl (Nat.le_refl _)), by simp only; rw [hst, hns, List.map_append, List.length_append]; exact hO30⟩ (by simp only; omega) ⟨rfl, by simp only [hst, hns, List.length_append]; rfl, rfl, rfl, rfl, trivial⟩)
    | (exact fun w' hH hf => hKL (i + 1, y1, p1, cc1) _ w' ⟨hi', hfr _ hf, hH.back hf1.size (.inl (Nat.le_refl _)), by
      rw [hje, List.take_of_length_le (Nat.le_refl _)] at hO1
      simp only; rw [hst, List.map_append, List.length_append]; exact hO1⟩ (by simp only; omega) ⟨rfl, by simp only [hst, hje, List.length_append]; rfl, rfl, rfl, rfl, trivial⟩)
    | (exact fun w' hH hf => hKL (i + 1, y, p, cc) _ w' ⟨hi', hfr _ hf, (hH.drop 0).back hf1.size (.inl (Nat.le_refl _)), by simp only; rw [hst]; exact hO⟩ (by simp only; omega) ⟨rfl, by simp only [hst]; rfl, rfl, rfl, rfl, trivial⟩)
   ·obtain ⟨kk, Bb, hfe⟩ : ∃ kk n, fs[i] = .bys kk n := by
     cases hf : fs[i] with
     | num kk n => rw [hf] at h25; simp [fwire] at h25
     | bys kk n => exact ⟨kk, n, rfl⟩
    have hfv : fbytes fs[i] = nss[i].flatMap vint ∧ ∀ n ∈ nss[i], n < 18446744073709551616 := by rw [hfe] at hat ⊢; exact hat
    refine cj_skip (ej_then (hK11 _ _ _ (CJ.s [(1, _), (5, _), (7, _), (13, _), (14, _), (15, _)] ⟨rfl, rfl, rfl, rfl, rfl, rfl, trivial⟩ (cj_seqF fun K14 hK14 => cj_reg (j_val rfl (fun _ _ h => r_fl (q := 3) (ft := 35) runUnderlying61 rfl sizeOf35 rfl h) (j_valw rfl (fun a w ha hH hf => r_ldH 0 rfl rfl isAgg35 rfl rfl ha hH) (jA rfl rfl (j_nil (ej_then (hK14 _ _ _ (CJ.s [(1, _), (5, _), (8, _), (13, _), (14, _), (15, _)] ⟨rfl, rfl, rfl, rfl, rfl, rfl, trivial⟩ (cj_block ?_))))))))))))
    -- LOOP 1 live [1, 5, 8, 13, 14, 15]
    refine cj_loop (σ := Nat × Nat × Nat × Ent × Option Addr × Nat) (fun s => [(1, .int .i64 (k : Nat)), (5, .slice s.2.2.2.2.1 (((nss.take i).flatten).length + s.1) s.2.2.2.2.2), (8, .slice (some ⟨b', s.2.1, none⟩) ((nss[i].drop s.1).flatMap vint).length s.2.2.1), (13, .slice (some ⟨b, 0, none⟩) fs.length cF), (14, .int .i64 (fs.length : Nat)), (15, .int .i64 (i : Nat))]) (fun s => [s.2.2.2.1])
     (fun s _ => s.1 ≤ nss[i].length ∧ Bys w b' s.2.1 s.2.2.1 ((nss[i].drop s.1).flatMap vint) ∧ ((nss[i].drop s.1).flatMap vint).length ≤ 1000000000000 ∧ Own tU64 1 s.2.2.2.1 s.2.2.2.2.1 (((nss.take i).flatten).length + s.1) s.2.2.2.2.2 ((nss.take i).flatten.map uv ++ (nss[i].take s.1).map uv)) (fun s => nss[i].length - s.1)
     (0, o', c', y, p, cc) ⟨rfl, rfl, by simp only [List.drop_zero, ← hfv.1]; rfl, rfl, rfl, rfl, trivial⟩ (fun w' hH hf => ⟨hH.drop 0, Nat.zero_le _, by simp only [List.drop_zero, ← hfv.1]; exact hB, by simp only [List.drop_zero, ← hfv.1]; exact hc', by simpa using hO⟩) ?_
    rintro ⟨j, o1, c1, y1, p1, cc1⟩ w2 ⟨hj, hB1, hc1, hO1⟩ hf2 hH2 KL2 hKL2
    have hj : j ≤ nss[i].length := hj
    have hB1 : Bys w b' o1 c1 ((nss[i].drop j).flatMap vint) := hB1
    have hc1 : ((nss[i].drop j).flatMap vint).length ≤ 1000000000000 := hc1
    have hO1 : Own tU64 1 y1 p1 (((nss.take i).flatten).length + j) cc1 ((nss.take i).flatten.map uv ++ (nss[i].take j).map uv) := hO1
    refine C.begin _ [y1] hf2 hH2 ?_
    refine CJ.s [(1, .int .i64 (k : Nat)), (5, .slice p1 (((nss.take i).flatten).length + j) cc1), (8, .slice (some ⟨b', o1, none⟩) ((nss[i].drop j).flatMap vint).length c1), (13, .slice (some ⟨b, 0, none⟩) fs.length cF), (14, .int .i64 (fs.length : Nat)), (15, .int .i64 (i : Nat))] ⟨rfl, rfl, rfl, rfl, rfl, rfl, trivial⟩ (cj_seqF fun K15 hK15 => cj_seqF fun K16 hK16 => cj_reg (jM rfl rfl (j_val rfl (fun _ _ h => r_len runUnderlying35 rfl h) (j_val rfl (fun _ _ h => r_gtr rfl rfl h) (j_nil (ej_then (hK16 _ _ _ (CJ.s [(1, _), (5, _), (8, _), (13, _), (14, _), (15, _), (35, _)] ⟨rfl, rfl, rfl, rfl, rfl, rfl, rfl, trivial⟩ ?_))))))))
    refine cj_dec rfl (fun h35 => ?_) (fun h35 => ?_)
    ·have hj' : j < nss[i].length := by
      rcases Nat.lt_or_ge j nss[i].length with h | h
      ·exact h
      ·rw [List.drop_eq_nil_of_le h] at h35; simp at h35
     have hdr : nss[i].drop j = nss[i][j] :: nss[i].drop (j + 1) := List.drop_eq_getElem_cons hj'
     have hD : (nss[i].drop j).flatMap vint = vint nss[i][j] ++ (nss[i].drop (j + 1)).flatMap vint := by rw [hdr, List.flatMap_cons]
     have hnj := hfv.2 _ (List.getElem_mem hj')
     have hB2 := hB1
     rw [hD] at hB2
     have hc2 := hc1
     rw [hD] at hc2
     have hc3 := hc2
     rw [List.length_append] at hc3
     have hB3 : Bys w b' (cut o1 c1 (vint nss[i][j]).length 1) (c1 - (vint nss[i][j]).length) ((nss[i].drop (j + 1)).flatMap vint) := by
      have := hB2.drop (i := (vint nss[i][j]).length) (by simp)
      rwa [List.drop_left] at this
     refine cj_skip (ej_then (hK15 _ _ _ (CJ.s [(1, _), (5, _), (8, _), (13, _), (14, _), (15, _)] ⟨rfl, rfl, rfl, rfl, rfl, rfl, trivial⟩ (cj_block (cj_seqF fun K17 hK17 => cj_reg (jM rfl rfl ?_))))))
     refine j_callQ (φ := fun v => v = .tuple #[.int .u64 (nss[i][j] : Nat), .slice (some ⟨b', cut o1 c1 (vint nss[i][j]).length 1, none⟩) ((nss[i].drop (j + 1)).flatMap vint).length (c1 - (vint nss[i][j]).length), .bool true]) call44 rfl rfl (fun w3 hH hf => by
       rw [hD]
       exact rvarint_c w3 b' o1 c1 _ _ hnj (hB2.mono fun b cs hb => fr_row hf rfl _ _ (fr_row hf1 rfl _ _ hb)) hc2) fun v hv => ?_
     subst hv
     refine jM rfl rfl (j_val rfl (fun _ _ h => r_extract rfl rfl h) (j_val rfl (fun _ _ h => r_extract rfl rfl h) (j_val rfl (fun _ _ h => r_extract rfl rfl h) (jA rfl rfl (jA rfl rfl (jA rfl rfl (j_nil (ej_then (hK17 _ _ _ (CJ.s [(1, _), (5, _), (9, _), (10, _), (11, _), (13, _), (14, _), (15, _)] ⟨rfl, rfl, rfl, rfl, rfl, rfl, rfl, rfl, trivial⟩ (cj_seqF fun K18 hK18 => cj_seqF fun K19 hK19 => cj_reg (jM rfl rfl ?_))))))))))))
     refine j_val rfl (fun _ _ h => r_not rfl h) (j_nil (ej_then (hK19 _ _ _ (CJ.s [(1, _), (5, _), (9, _), (10, _), (13, _), (14, _), (15, _), (43, _)] ⟨rfl, rfl, rfl, rfl, rfl, rfl, rfl, rfl, trivial⟩ ?_))))
     refine cj_if_f rfl ?_
     refine cj_skip (ej_then (hK18 _ _ _ (CJ.s [(1, _), (5, _), (9, _), (10, _), (13, _), (14, _), (15, _)] ⟨rfl, rfl, rfl, rfl, rfl, rfl, rfl, trivial⟩ (cj_seqF fun K20 hK20 => cj_reg (jM rfl rfl (jM rfl rfl ?_))))))
     refine j_bslice1 runUnderlying67 sizeOf59 zeroValue59 rfl rfl rfl rfl rfl fun b46 => ?_
     refine j_appO 0 rfl hO1 runUnderlying67 el59 rfl rfl rfl rfl rfl (by omega) rfl fun y47 p47 c47 hO47 => ?_
     refine jA rfl rfl (j_nil (ej_then (hK20 _ _ _ (CJ.s [(1, _), (5, _), (10, _), (13, _), (14, _), (15, _)] ⟨rfl, rfl, rfl, rfl, rfl, rfl, trivial⟩ (cj_reg (jM rfl rfl (jA rfl rfl (j_nil (ej_blk (ej_then ?_))))))))))
     exact fun w' hH hf => hKL2 (j + 1, _, _, y47, p47, c47) _ w' ⟨hj', hB3, by simp only; omega, by
      have h1 : (nss[i].take (j + 1)).map uv = (nss[i].take j).map uv ++ [uv nss[i][j]] := by rw [← List.take_append_getElem hj', List.map_append]; rfl
      simp only
      rw [h1, ← List.append_assoc]; exact hO47⟩ hf hH (by simp only; omega) ⟨rfl, rfl, rfl, rfl, rfl, rfl, trivial⟩
    ·have hje : j = nss[i].length := by
      rcases Nat.lt_or_ge j nss[i].length with h | h
      ·rw [List.drop_eq_getElem_cons h, List.flatMap_cons] at h35
       have := vint_pos nss[i][j]
       simp at h35
       omega
      ·omega
     refine cj_exit (ej_then_exit (ej_then_exit (ej_blk_hit (ej_blk (ej_then (hK7 _ _ _ (CJ.s [(1, _), (5, _), (13, _), (14, _), (15, _)] ⟨rfl, rfl, rfl, rfl, rfl, trivial⟩ (cj_reg (j_val rfl (fun _ _ h => r_inc (by omega) rfl rfl h) (jM rfl rfl (j_nil (ej_then ?_))))))))))))
     have hfr : ∀ w', Fm.ok ⟨w1, w.heap.size, [tU64]⟩ w' → Fr 0 [] w w' := fun w' hf => Fr.trans hf1 hf (.inl (Nat.le_refl _))
     first
     | (exact fun w' hH hf => hKL (i + 1, y30, p30, c30) _ w' ⟨hi', hfr _ hf, (hH.drop 0).back hf1.size (.inl (Nat.le_refl _)), by simp only; rw [hst, hns, List.map_append, List.length_append]; exact hO30⟩ (by simp only; omega) ⟨rfl, by simp only [hst, hns, List.length_append]; rfl, rfl, rfl, rfl, trivial⟩)
     | (exact fun w' hH hf => hKL (i + 1, y1, p1, cc1) _ w' ⟨hi', hfr _ hf, hH.back hf1.size (.inl (Nat.le_refl _)), by
       rw [hje, List.take_of_length_le (Nat.le_refl _)] at hO1
       simp only; rw [hst, List.map_append, List.length_append]; exact hO1⟩ (by simp only; omega) ⟨rfl, by simp only [hst, hje, List.length_append]; rfl, rfl, rfl, rfl, trivial⟩)
     | (exact fun w' hH hf => hKL (i + 1, y, p, cc) _ w' ⟨hi', hfr _ hf, (hH.drop 0).back hf1.size (.inl (Nat.le_refl _)), by simp only; rw [hst]; exact hO⟩ (by simp only; omega) ⟨rfl, by simp only [hst]; rfl, rfl, rfl, rfl, trivial⟩)
 ·have hie : i = fs.length := by omega
  rw [hie, ← hlen, List.take_of_length_le (Nat.le_refl _)] at hO
  refine cj_exit (ej_then_exit (ej_then_exit (ej_blk_hit (ej_then (hK3 _ _ _ (CJ.s [(5, _)] ⟨rfl, trivial⟩ (cj_seqF fun K21 hK21 => cj_reg (jM rfl rfl (jA rfl rfl (j_nil (ej_then (hK21 _ _ _ (CJ.s [(4, _)] ⟨rfl, trivial⟩ (cj_ret (?_)))))))))))))))
  exact ej_ret1 results24 rfl fun w' hH hf => ⟨by rw [hie, ← hlen, List.take_of_length_le (Nat.le_refl _)]; exact hO.os hH (i := 0) rfl, Fr.trans hf1 hf (.inl (Nat.le_refl _))⟩
end Go.Proofs.YtifnhinopjgfaaaGreat
