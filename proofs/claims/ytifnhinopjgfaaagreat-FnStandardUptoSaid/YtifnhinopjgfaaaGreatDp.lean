/-
  The specification's messages: the messages of fields. Conditions: the bytes of such fields are fields, one behind the other.
-/
import Derived.Test.YtifnhinopjgfaaaGreatDm
namespace Go.Proofs.YtifnhinopjgfaaaGreat
open Go Go.Fw Go.Proofs Go.Proofs.Tryz
/-- fields of a message that are messages -/
structure SubOK (k : Nat) (fs : List Fld) (gss : List (List Fld)) : Prop where
  eq : (fs.filter fun f => fkey f = k).map fbytes = gss.map encFs
  ok : ∀ gs ∈ gss, (∀ f ∈ gs, FldOK f) ∧ gs.length ≤ 10000000000
def cMsg (q : Value × List Fld) : List Value := [q.1, .bool true]
/-- messages in memory -/
structure Msgs (w : World) (v : Value) (gss : List (List Fld)) : Prop where
  ex : ∃ qs : List (Value × List Fld), qs.map (·.2) = gss ∧ OS tMsg 2 w v (qs.flatMap cMsg) ∧ ∀ q ∈ qs, Flds w q.1 q.2
theorem filter_step {k : Nat} {fs : List Fld} {i : Nat} (hi : i < fs.length) : (fs.take (i + 1)).filter (fun f => fkey f = k) = (fs.take i).filter (fun f => fkey f = k) ++ if fkey fs[i] = k then [fs[i]] else [] := by
  rw [← List.take_append_getElem hi, List.filter_append]
  by_cases h : fkey fs[i] = k <;> simp [h]
theorem filter_at (p : Fld → Bool) {fs : List Fld} {i : Nat} (hi : i < fs.length) (hk : p fs[i] = true) : fs.filter p = (fs.take i).filter p ++ (fs[i] :: (fs.drop (i + 1)).filter p) := by
  have h : fs = fs.take i ++ (fs[i] :: fs.drop (i + 1)) := by rw [← List.drop_eq_getElem_cons hi, List.take_append_drop]
  have h2 := congrArg (List.filter p) h
  rw [List.filter_append, List.filter_cons_of_pos hk] at h2
  exact h2
theorem sub_at {k : Nat} {fs : List Fld} {gss : List (List Fld)} (hS : SubOK k fs gss) {i m : Nat} (hi : i < fs.length) (hk : fkey fs[i] = k) (hm : ((fs.take i).filter fun f => fkey f = k).length = m) : ∃ gs, gss[m]? = some gs ∧ encFs gs = fbytes fs[i] := by
  have h1 := filter_at (fun f => decide (fkey f = k)) hi (by simpa using hk)
  have h2 : ((fs.filter fun f => fkey f = k).map fbytes)[m]? = some (fbytes fs[i]) := by
    rw [h1, List.map_append, List.getElem?_append_right (by simp only [List.length_map]; omega), show m - (((fs.take i).filter fun f => fkey f = k).map fbytes).length = 0 by simp only [List.length_map]; omega]
    rfl
  rw [hS.eq, List.getElem?_map] at h2
  obtain ⟨gs, h3, h4⟩ := Option.map_eq_some_iff.1 h2
  exact ⟨gs, h3, h4⟩
theorem frB {B : Nat} {W : List Nat} {a b c : World} (h : Fr 0 [] a b) (k : Fr B W b c) : Fr 0 W a c := Fr.trans (h.quiet 0 W) (k.mono (B' := 0) (W' := W) (.inr ⟨Nat.zero_le _, fun _ h => h⟩)) (.inr ⟨Nat.le_refl _, fun _ h => h⟩)
set_option maxHeartbeats 1000000 in
theorem parts_c (w : World) (lv : Value) (bo : Bool) (k : Nat) (fs : List Fld) (gss : List (List Fld)) (hF : Flds w lv fs) (hl : fs.length ≤ 1000000000) (hS : SubOK k fs gss) :
    Calls Tryz.prog 22 #[.agg #[lv, .bool bo], .int .i64 (k : Nat)] w (Ret fun v w' => Msgs w' v gss ∧ Fr 0 [] w w') := by
  obtain ⟨pF, cF, rfl, hcs⟩ := hF.cells
  refine startJ (args := [_, _]) [(0, .agg [.slice pF fs.length cF, .bool bo].toArray), (1, _)] 0 [] [] func22 rfl ntmps22 rfl rfl .nil ?_
  refine cj_seqF fun K1 hK1 => cj_reg ?_
  refine j_boxA (vs := [_, _]) rfl rfl fun b2 => ?_
  refine jA rfl rfl (j_nil (ej_then (hK1 _ _ _ (CJ.s [(1, _), (2, _)] ⟨rfl, rfl, trivial⟩ (cj_seqF fun K2 hK2 => cj_reg (jA rfl rfl (j_nil (ej_then (hK2 _ _ _ (CJ.s [(1, _), (2, _), (5, _)] ⟨rfl, rfl, rfl, trivial⟩ (cj_seqF fun K3 hK3 => cj_seqF fun K4 hK4 => cj_reg (j_val rfl (fun _ _ h => r_fl (q := 0) (ft := 52) runUnderlying54 rfl sizeOf52 rfl h) ?_))))))))))))
  refine j_valw rfl (fun a w ha hH hf => r_ldH 0 rfl rfl isAgg52 rfl rfl ha hH) (j_val rfl (fun _ _ h => r_len runUnderlying52 rfl h) (jM rfl rfl (j_nil (ej_then (hK4 _ _ _ (CJ.s [(1, _), (5, _), (9, _), (10, _), (11, _)] ⟨rfl, rfl, rfl, rfl, rfl, trivial⟩ (cj_block ?_)))))))
  -- LOOP 0 live [1, 5, 9, 10, 11]
  intro w0 hH0 hf0
  refine c_loop (σ := Nat × List (Value × List Fld) × Ent × Option Addr × Nat) (fun s => [(1, .int .i64 (k : Nat)), (5, .slice s.2.2.2.1 s.2.1.length s.2.2.2.2), (9, .slice pF fs.length cF), (10, .int .i64 (fs.length : Nat)), (11, .int .i64 (s.1 : Nat))])
    (fun s w' => s.1 ≤ fs.length ∧ Fr 0 [] w w' ∧ Hp ⟨w, w.heap.size, []⟩ w' [s.2.2.1] ∧ Own tMsg 2 s.2.2.1 s.2.2.2.1 s.2.1.length s.2.2.2.2 (s.2.1.flatMap cMsg) ∧ s.2.1.map (fun q => encFs q.2) = ((fs.take s.1).filter fun f => fkey f = k).map fbytes ∧ s.2.1.map (·.2) = gss.take s.2.1.length ∧ ∀ q ∈ s.2.1, Flds w' q.1 q.2) (fun s => fs.length - s.1)
    (0, [], nilE tMsg, none, 0) ⟨rfl, rfl, rfl, rfl, rfl, trivial⟩ ⟨Nat.zero_le _, hf0, Hp.off trivial, Own.nil, by simp, by simp, by simp⟩ ?_
  rintro ⟨i, qs, y, p, cc⟩ w1 ⟨hi, hf1, hH1, hO, hqe, hqg, hqf⟩ KL hKL
  have hi : i ≤ fs.length := hi
  have hO : Own tMsg 2 y p qs.length cc (qs.flatMap cMsg) := hO
  have hqe : qs.map (fun q => encFs q.2) = ((fs.take i).filter fun f => fkey f = k).map fbytes := hqe
  have hqg : qs.map (·.2) = gss.take qs.length := hqg
  have hqf : ∀ q ∈ qs, Flds w1 q.1 q.2 := hqf
  have hqi : qs.length ≤ i := by
    have h1 := congrArg List.length hqe
    have h2 := List.length_filter_le (fun f => decide (fkey f = k)) (fs.take i)
    simp only [List.length_map, List.length_take] at h1 h2
    omega
  refine C.begin ⟨w1, w.heap.size, [tMsg]⟩ [y] ok_refl (Hp.again (Nat.le_refl _) hH1 fun x hx he hw => by simp at hx; subst hx; rw [hO.tag]; simp) ?_
  refine CJ.s [(1, .int .i64 (k : Nat)), (5, .slice p qs.length cc), (9, .slice pF fs.length cF), (10, .int .i64 (fs.length : Nat)), (11, .int .i64 (i : Nat))] ⟨rfl, rfl, rfl, rfl, rfl, trivial⟩ (cj_seqF fun K5 hK5 => cj_reg (j_val rfl (fun _ _ h => r_lss rfl rfl h) (j_nil (ej_then (hK5 _ _ _ (CJ.s [(1, _), (5, _), (9, _), (10, _), (11, _), (12, _)] ⟨rfl, rfl, rfl, rfl, rfl, rfl, trivial⟩ (cj_seqF fun K6 hK6 => ?_)))))))
  refine cj_dec rfl (fun h12 => ?_) (fun h12 => ?_)
  · have hi' : i < fs.length := by omega
    obtain ⟨b, fb, rfl, hfb, hcell0⟩ := hcs i fs[i] (List.getElem?_eq_getElem hi')
    obtain ⟨b', o', c', rfl, hB, hc'⟩ := hfb
    have hcell : ∀ w', Fm.ok ⟨w1, w.heap.size, [tMsg]⟩ w' → ∀ (j : Nat) (u : Value), (cFld (fs[i], .slice (some ⟨b', o', none⟩) (fbytes fs[i]).length c'))[j]? = some u → w'.cell? ⟨b, 0 + i * 4 + j, none⟩ = some u := fun w' hf => hcell0 [tMsg] rfl w' (frB hf1 hf)
    refine cj_skip (ej_then (hK6 _ _ _ (CJ.s [(1, _), (5, _), (9, _), (10, _), (11, _)] ⟨rfl, rfl, rfl, rfl, rfl, trivial⟩ (cj_seqF fun K7 hK7 => cj_block (cj_seqF fun K8 hK8 => cj_reg (j_val rfl (fun _ _ h => r_idx runUnderlying52 sizeOf61 rfl rfl (by omega) h) (j_valw rfl (fun a w ha hH hf => r_loadA isAgg61 sizeOf61 rfl rfl (hcell w (hf)) ha) ?_)))))))
    refine j_allocA (zs := [(.int .i64 0), (.int .i64 0), (.int .u64 0), (.slice none 0 0)]) zeroValue61 rfl fun b7 => ?_
    refine j_storeN (cs' := [_, _, _, _]) (H' := [_, _]) 0 rfl rfl rfl rfl sizeOf61 rfl rfl rfl rfl rfl rfl rfl ?_
    refine j_nil (ej_then (hK8 _ _ _ (CJ.s [(1, _), (5, _), (7, _), (9, _), (10, _), (11, _)] ⟨rfl, rfl, rfl, rfl, rfl, rfl, trivial⟩ (cj_seqF fun K9 hK9 => cj_reg (j_val rfl (fun _ _ h => r_fl (q := 0) (ft := 3) runUnderlying61 rfl sizeOf3 rfl h) (j_valw rfl (fun a w ha hH hf => r_ldH 0 rfl rfl isAgg3 rfl rfl ha hH) (jM rfl rfl (j_val rfl (fun _ _ h => r_eql rfl rfl h) (j_nil (ej_then (hK9 _ _ _ (CJ.s [(1, _), (5, _), (7, _), (9, _), (10, _), (11, _), (18, _)] ⟨rfl, rfl, rfl, rfl, rfl, rfl, rfl, trivial⟩ ?_))))))))))))
    refine cj_dec rfl (fun h18 => ?_) (fun h18 => ?_)
    · have h18' : ((fkey fs[i] : Nat) : Int) = (k : Int) := h18
      have hkf : fkey fs[i] = k := by omega
      have hqe' := congrArg List.length hqe
      simp only [List.length_map] at hqe'
      obtain ⟨gs, hgs1, hgs2⟩ := sub_at hS hi' hkf hqe'.symm
      have hgok := hS.ok gs (List.mem_of_getElem? hgs1)
      refine cj_reg (jM rfl rfl (j_val rfl (fun _ _ h => r_fl (q := 3) (ft := 35) runUnderlying61 rfl sizeOf35 rfl h) (j_valw rfl (fun a w ha hH hf => r_ldH 0 rfl rfl isAgg35 rfl rfl ha hH) ?_)))
      refine j_callE (R := fun w3 v w4 => (∃ lv', v = .agg #[lv', .bool true] ∧ Flds w4 lv' gs) ∧ Fr 0 [] w3 w4) call19 rfl rfl (fun w3 hH hf => by
          rw [← hgs2]
          exact messageOf_c w3 b' o' c' gs hgok.1 (by rw [hgs2]; exact hB.mono fun b cs hb => fr_row hf rfl _ _ (fr_row hf1 rfl _ _ hb)) (by rw [hgs2]; exact hc') hgok.2) fun w3 v w4 hH3 hf3 hR => ?_
      obtain ⟨⟨lv', rfl, hFg⟩, hf34⟩ := hR
      obtain ⟨pl, ll, cl, rfl⟩ : ∃ pl ll cl, lv' = .slice pl ll cl := by
        obtain ⟨_, -, hq2, -⟩ := hFg.ex
        obtain ⟨pl, ll, cl, rfl, -⟩ := hq2.scal
        exact ⟨pl, ll, cl, rfl⟩
      have hf14 : Fm.ok ⟨w1, w.heap.size, [tMsg]⟩ w4 := hf3.fr hf34
      have hH4 := hH3.fr hf34
      refine J.begin ⟨w4, w.heap.size, [tMsg]⟩ [y] ok_refl (Hp.again hf1.size (hH4.drop 0) fun x hx he hw => by simp at hx; subst hx; rw [hO.tag]; simp) ?_
      refine j_bslice1 runUnderlying64 sizeOf54 zeroValue54 rfl rfl rfl rfl rfl fun b23 => ?_
      refine j_appO 0 rfl hO runUnderlying64 el54 rfl rfl rfl rfl rfl (by omega) rfl fun y24 p24 c24 hO24 => ?_
      refine jA rfl rfl (j_nil (ej_blk (ej_then (hK7 _ _ _ (CJ.s [(1, _), (5, _), (9, _), (10, _), (11, _)] ⟨rfl, rfl, rfl, rfl, rfl, trivial⟩ (cj_reg (j_val rfl (fun _ _ h => r_inc (by omega) rfl rfl h) (jM rfl rfl (j_nil (ej_then ?_))))))))))
      have hst := filter_step (k := k) hi'
      first
      | (rw [if_pos hkf] at hst
         exact fun w' hH hf => hKL (i + 1, qs ++ [(.slice pl ll cl, gs)], y24, p24, c24) _ w' ⟨hi', Fr.trans (Fr.trans hf1 hf14 (.inl (Nat.le_refl _))) hf (.inl (Nat.le_refl _)), hH.back (Nat.le_trans hf1.size hf14.size) (.inl (Nat.le_refl _)), by rw [List.flatMap_append, List.flatMap_singleton, List.length_append]; exact hO24, by rw [hst, List.map_append, List.map_append, hqe]; simp [hgs2], by
            obtain ⟨hlt, hge⟩ := List.getElem?_eq_some_iff.1 hgs1
            simp only [List.map_append, List.length_append, hqg]
            rw [List.length_singleton, ← List.take_append_getElem hlt, hge]; rfl, fun q hq => by
            rcases List.mem_append.1 hq with hq | hq
            · exact ((hqf q hq).mono (fr_row hf14 rfl) (fr_row hf14 rfl)).mono (fr_row hf rfl) (fr_row hf rfl)
            · simp at hq; subst hq; exact hFg.mono (fr_row hf rfl) (fr_row hf rfl)⟩ (by simp only; omega) ⟨rfl, by simp only [List.length_append, List.length_singleton]; rfl, rfl, rfl, rfl, trivial⟩)
      | (rw [if_neg (fun hc => h18 (congrArg (fun n : Nat => (n : Int)) hc)), List.append_nil] at hst
         exact fun w' hH hf => hKL (i + 1, qs, y, p, cc) _ w' ⟨hi', Fr.trans hf1 hf (.inl (Nat.le_refl _)), (hH.drop 0).back hf1.size (.inl (Nat.le_refl _)), hO, by rw [hst]; exact hqe, hqg, fun q hq => (hqf q hq).mono (fr_row hf rfl) (fr_row hf rfl)⟩ (by simp only; omega) ⟨rfl, rfl, rfl, rfl, rfl, trivial⟩)
    · refine cj_skip (ej_blk (ej_then (hK7 _ _ _ (CJ.s [(1, _), (5, _), (9, _), (10, _), (11, _)] ⟨rfl, rfl, rfl, rfl, rfl, trivial⟩ (cj_reg (j_val rfl (fun _ _ h => r_inc (by omega) rfl rfl h) (jM rfl rfl (j_nil (ej_then ?_)))))))))
      have hst := filter_step (k := k) hi'
      first
      | (rw [if_pos hkf] at hst
         exact fun w' hH hf => hKL (i + 1, qs ++ [(.slice pl ll cl, gs)], y24, p24, c24) _ w' ⟨hi', Fr.trans (Fr.trans hf1 hf14 (.inl (Nat.le_refl _))) hf (.inl (Nat.le_refl _)), hH.back (Nat.le_trans hf1.size hf14.size) (.inl (Nat.le_refl _)), by rw [List.flatMap_append, List.flatMap_singleton, List.length_append]; exact hO24, by rw [hst, List.map_append, List.map_append, hqe]; simp [hgs2], by
            obtain ⟨hlt, hge⟩ := List.getElem?_eq_some_iff.1 hgs1
            simp only [List.map_append, List.length_append, hqg]
            rw [List.length_singleton, ← List.take_append_getElem hlt, hge]; rfl, fun q hq => by
            rcases List.mem_append.1 hq with hq | hq
            · exact ((hqf q hq).mono (fr_row hf14 rfl) (fr_row hf14 rfl)).mono (fr_row hf rfl) (fr_row hf rfl)
            · simp at hq; subst hq; exact hFg.mono (fr_row hf rfl) (fr_row hf rfl)⟩ (by simp only; omega) ⟨rfl, by simp only [List.length_append, List.length_singleton]; rfl, rfl, rfl, rfl, trivial⟩)
      | (rw [if_neg (fun hc => h18 (congrArg (fun n : Nat => (n : Int)) hc)), List.append_nil] at hst
         exact fun w' hH hf => hKL (i + 1, qs, y, p, cc) _ w' ⟨hi', Fr.trans hf1 hf (.inl (Nat.le_refl _)), (hH.drop 0).back hf1.size (.inl (Nat.le_refl _)), hO, by rw [hst]; exact hqe, hqg, fun q hq => (hqf q hq).mono (fr_row hf rfl) (fr_row hf rfl)⟩ (by simp only; omega) ⟨rfl, rfl, rfl, rfl, rfl, trivial⟩)
  · have hie : i = fs.length := by omega
    subst hie
    rw [List.take_of_length_le (Nat.le_refl _)] at hqe
    have hlq : qs.length = gss.length := by
      have h1 := congrArg List.length hqe
      rw [hS.eq] at h1
      simpa using h1
    rw [hlq, List.take_of_length_le (Nat.le_refl _)] at hqg
    refine cj_exit (ej_then_exit (ej_then_exit (ej_blk_hit (ej_then (hK3 _ _ _ (CJ.s [(5, _)] ⟨rfl, trivial⟩ (cj_seqF fun K10 hK10 => cj_reg (jM rfl rfl (jA rfl rfl (j_nil (ej_then (hK10 _ _ _ (CJ.s [(4, _)] ⟨rfl, trivial⟩ (cj_ret (?_)))))))))))))))
    exact ej_ret1 results22 rfl fun w' hH hf => ⟨⟨qs, hqg, hO.os hH (i := 0) rfl, fun q hq => (hqf q hq).mono (fr_row hf rfl) (fr_row hf rfl)⟩, Fr.trans hf1 hf (.inl (Nat.le_refl _))⟩
end Go.Proofs.YtifnhinopjgfaaaGreat
