/-
  The law of the flat values: it returns true. Conditions: the arguments lie in memory as the reading of a profile says.
-/
import Derived.Test.YtgjpegehmbebpaaSf
import Derived.Test.YtgjpegehmbebpaaFits
namespace Go.Proofs.Ytgjpegehmbebpaa
open Go Go.Fw Go.Proofs
theorem quietMap0 {w w' : World} {lb ck : Nat} {es : List MapEntry} (hH : Hp ⟨w, 0, [1000000]⟩ w' (mpE lb es ck :: restH w [lb])) (hf : Fm.ok ⟨w, 0, [1000000]⟩ w') (h4 : w.heap[lb]? = some (.map es.toArray ck)) : Fr 0 [] w w' := by
  have hk := Hp.keepX (l := [lb]) hH.2.2.2 hf
  refine ⟨hk.os, hk.tape, hk.output, hk.size, fun b o hb _ => ?_⟩
  by_cases h : b = lb
  · subst h
    rw [h4] at hb; cases hb
    exact hH.obj (i := 0) rfl rfl
  · exact hk.keep b o hb (by simpa using h)
section
variable {n : Nat} {e : Env} {d ty : Nat} {pos : String} {af : Array Edge}
theorem r_fkeql {x y : Operand} {i j : FK} {t' : Nat} (hx : ev e x = some (encFK i)) (hy : ev e y = some (encFK j)) {a : Act} {w : World} (ha : Sat n e a) :
    (execOp a.eval ⟨some d, .binOp .eql tFlat x y t', ty, pos, af, none⟩).run Try.prog w = .ok (.value (.bool (decide (i = j)))) w := by
  have h : (binOp .eql tFlat (encFK i) (encFK j)).run Try.prog w = .ok (.bool (decide (i = j))) w := by
    have h1 := eqFK w i j
    simp only [binOp]
    simp only [encFK] at h1 ⊢
    simp [Op.equal, Op.maxDepth, h1]
  have hg := fun (xs ys : Array Value) => run_eqGuard_agg (P := Try.prog) (w := w) .eql tFlat x y xs ys Try.eqGuardType55
  simp only [execOp, ha.ev hx, ha.ev hy]
  simp only [encFK] at h ⊢
  simp [hg, h]
end
theorem same_c (w : World) (lv : Value) (is : List NI) (fl : NI → Int) (mb ck : Nat) (ms : List (FK × Value)) (es : List MapEntry) (hos : OS tFlat 5 w lv (is.flatMap fun i => cFK (fkOf i (fl i)))) (hmb : w.heap[mb]? = some (.map es.toArray ck)) (hM : MEnc encFK ms es ck)
    (hget : ∀ i ∈ is, mget ms (fkOf i 0) = some (.int .i64 (fl i))) (hnd : is.Nodup) (hlen : es.length = is.length) (hle : is.length ≤ 12000) :
    Calls Try.prog 6 #[lv, .map (some mb)] w (Ret fun v w' => v = .bool true ∧ Fr 0 [] w w') := by
  obtain ⟨p, l, c, rfl, hl, hlc, hcs⟩ := hos.openF
  have hl2 := flatMap_len (c := fun i => cFK (fkOf i (fl i))) (sz := 5) (fun _ => rfl) is
  obtain rfl : l = is.length := by omega
  refine startJ (args := [_, _]) [(0, _), (1, _)] 0 [1000000] _ Try.func6 rfl Try.ntmps6 rfl rfl (Hp.oneMap hmb (Nat.zero_le _) rfl) ?_
  refine cj_seqF fun K1 hK1 => ?_
  refine cj_reg ?_
  refine j_val rfl (fun a w ha => r_assign rfl ha) ?_
  refine j_nil ?_
  refine ej_then (hK1 _ _ _ ?_); clear hK1
  refine CJ.sub (e' := [(0, _), (1, _)]) ⟨rfl, rfl, trivial⟩ ?_
  refine cj_seqF fun K2 hK2 => ?_
  refine cj_seqF fun K3 hK3 => ?_
  refine cj_reg ?_
  refine j_val rfl (fun a w ha => r_move rfl ha) ?_
  refine j_val rfl (fun a w ha => r_len Try.runUnderlying34 rfl ha) ?_
  refine j_val rfl (fun a w ha => r_move rfl ha) ?_
  refine j_nil ?_
  refine ej_then (hK3 _ _ _ ?_); clear hK3
  refine CJ.sub (e' := [(0, _), (1, _), (12, _), (13, _), (14, _)]) ⟨rfl, rfl, rfl, rfl, rfl, trivial⟩ ?_
  refine cj_block ?_
  -- LOOP 0 live [0, 1, 12, 13, 14]
  refine cj_loop (σ := Nat) (fun k => [(0, .slice p is.length c), (1, .map (some mb)), (12, .slice p is.length c), (13, .int .i64 (is.length : Nat)), (14, .int .i64 (k : Nat))]) (fun _ => mpE mb es ck :: restH w [mb]) (fun k _ => k ≤ is.length) (fun k => is.length - k)
    0 ⟨rfl, rfl, rfl, rfl, rfl, trivial⟩ (fun w' hH hf => ⟨hH, Nat.zero_le _⟩) ?_
  intro k w1 hk hf1 hH1 KL hKL
  refine C.begin _ (mpE mb es ck :: restH w [mb]) hf1 hH1 ?_
  refine cj_seqF fun K4 hK4 => ?_
  refine cj_reg ?_
  refine j_val rfl (fun a w ha => r_lss rfl rfl ha) ?_
  refine j_nil ?_
  refine ej_then (hK4 _ _ _ ?_); clear hK4
  refine CJ.sub (e' := [(0, _), (1, _), (12, _), (13, _), (14, _), (15, _)]) ⟨rfl, rfl, rfl, rfl, rfl, rfl, trivial⟩ ?_
  refine cj_seqF fun K5 hK5 => ?_
  refine cj_dec rfl (fun h15 => ?_) (fun h15 => ?_)
  · have hk' : k < is.length := by omega
    obtain ⟨b, rfl, hcell0⟩ := hcs (by omega)
    generalize hik : is[k] = i
    have hi : i ∈ is := by rw [← hik]; exact List.getElem_mem hk'
    have hcell : ∀ w', Fm.ok ⟨w, 0, [1000000]⟩ w' → ∀ (j : Nat) (u : Value), (cFK (fkOf i (fl i)))[j]? = some u → w'.cell? ⟨b, 0 + k * 5 + j, none⟩ = some u := fun w' kp j u hu => by
      rw [Nat.zero_add]
      exact hcell0 ⟨w, 0, [1000000]⟩ rfl rfl w' kp _ u (flatMap_get (c := fun i => cFK (fkOf i (fl i))) (fun _ => rfl) (by rw [List.getElem?_eq_getElem hk', hik]) j u hu)
    have hgi := hget i hi
    refine cj_skip (ej_then (hK5 _ _ _ ?_)); clear hK5
    refine CJ.sub (e' := [(0, _), (1, _), (12, _), (13, _), (14, _)]) ⟨rfl, rfl, rfl, rfl, rfl, trivial⟩ ?_
    refine cj_seqF fun K6 hK6 => ?_
    refine cj_block ?_
    refine cj_seqF fun K7 hK7 => ?_
    refine cj_reg ?_
    refine j_val rfl (fun a w ha => r_move rfl ha) ?_
    refine j_val rfl (fun a w ha => r_idx Try.runUnderlying34 Try.sizeOf55 rfl rfl (by omega) ha) ?_
    refine j_valw rfl (fun a w ha hH hf => r_loadA Try.isAgg55 Try.sizeOf55 rfl rfl (hcell w (hf)) ha) ?_
    refine j_allocA (zs := [(.string ⟨#[]⟩), (.int .u64 0), (.int .i64 0), (.int .i64 0), (.int .i64 0)]) Try.zeroValue55 rfl fun b6 => ?_
    refine j_val rfl (fun a w ha => r_assign rfl ha) ?_
    refine j_storeN (cs' := [_, _, _, _, _]) (H' := (_ :: _ :: _)) 0 rfl rfl rfl rfl Try.sizeOf55 rfl rfl rfl rfl rfl rfl rfl ?_
    refine j_nil ?_
    refine ej_then (hK7 _ _ _ ?_); clear hK7
    refine CJ.sub (e' := [(0, _), (1, _), (5, _), (6, _), (12, _), (13, _), (14, _)]) ⟨rfl, rfl, rfl, rfl, rfl, rfl, rfl, trivial⟩ ?_
    refine cj_seqF fun K8 hK8 => ?_
    refine cj_reg ?_
    refine j_val rfl (fun a w ha => r_fl (q := 4) (ft := 2) Try.runUnderlying55 rfl Try.sizeOf2 rfl ha) ?_
    refine j_valw rfl (fun a w ha hH hf => r_ldH 0 rfl rfl Try.isAgg2 rfl rfl ha hH) ?_
    refine j_val rfl (fun a w ha => r_assign rfl ha) ?_
    refine j_nil ?_
    refine ej_then (hK8 _ _ _ ?_); clear hK8
    refine CJ.sub (e' := [(0, _), (1, _), (5, _), (6, _), (7, _), (12, _), (13, _), (14, _)]) ⟨rfl, rfl, rfl, rfl, rfl, rfl, rfl, rfl, trivial⟩ ?_
    refine cj_seqF fun K9 hK9 => ?_
    refine cj_reg ?_
    refine j_val rfl (fun a w ha => r_fl (q := 4) (ft := 2) Try.runUnderlying55 rfl Try.sizeOf2 rfl ha) ?_
    refine j_storeN (cs' := [_, _, _, _, _]) (H' := (_ :: _ :: _)) 0 rfl rfl rfl rfl Try.sizeOf2 rfl rfl rfl rfl rfl rfl rfl ?_
    refine j_nil ?_
    refine ej_then (hK9 _ _ _ ?_); clear hK9
    refine CJ.sub (e' := [(0, _), (1, _), (5, _), (6, _), (7, _), (12, _), (13, _), (14, _)]) ⟨rfl, rfl, rfl, rfl, rfl, rfl, rfl, rfl, trivial⟩ ?_
    refine cj_seqF fun K10 hK10 => ?_
    refine cj_seqF fun K11 hK11 => ?_
    refine cj_reg ?_
    refine j_val rfl (fun a w ha => r_move rfl ha) ?_
    refine j_valw rfl (fun a w ha hH hf => r_ldA (vs := [_, _, _, _, _]) 0 rfl rfl Try.isAgg55 Try.sizeOf55 rfl rfl rfl ha hH) ?_
    refine j_valw rfl (fun a w ha hH hf => r_mlook2 (k := fkOf i 0) 1 rfl Try.runUnderlying36 keyFK hM Try.zeroValue2 rfl rfl (fun _ _ _ => ⟨fun _ _ => trivial, trivial⟩) ha hH hf) ?_
    refine j_eqv (u := .tuple #[.int .i64 (fl i), .bool true]) (by rw [hgi]; rfl) ?_
    refine j_val rfl (fun a w ha => r_move rfl ha) ?_
    refine j_val rfl (fun a w ha => r_extract rfl rfl ha) ?_
    refine j_val rfl (fun a w ha => r_extract rfl rfl ha) ?_
    refine j_val rfl (fun a w ha => r_assign rfl ha) ?_
    refine j_val rfl (fun a w ha => r_assign rfl ha) ?_
    refine j_nil ?_
    refine ej_then (hK11 _ _ _ ?_); clear hK11
    refine CJ.sub (e' := [(0, _), (1, _), (5, _), (6, _), (7, _), (8, _), (9, _), (12, _), (13, _), (14, _)]) ⟨rfl, rfl, rfl, rfl, rfl, rfl, rfl, rfl, rfl, rfl, trivial⟩ ?_
    refine cj_seqF fun K12 hK12 => ?_
    refine cj_reg ?_
    refine j_val rfl (fun a w ha => r_move rfl ha) ?_
    refine j_val rfl (fun a w ha => r_not rfl ha) ?_
    refine j_val rfl (fun a w ha => r_move rfl ha) ?_
    refine j_gt rfl rfl ?_
    refine j_val rfl (fun a w ha => r_move rfl ha) ?_
    refine j_gt rfl rfl ?_
    refine j_val rfl (fun a w ha => r_move rfl ha) ?_
    refine j_gt rfl rfl ?_
    refine j_val rfl (fun a w ha => r_neq rfl rfl ha) ?_
    refine j_false (fun h => h rfl) ?_
    refine j_val rfl (fun a w ha => r_pick_f rfl rfl ha) ?_
    refine j_nil ?_
    refine ej_then (hK12 _ _ _ ?_); clear hK12
    refine CJ.sub (e' := [(0, _), (1, _), (5, _), (6, _), (12, _), (13, _), (14, _), (34, _)]) ⟨rfl, rfl, rfl, rfl, rfl, rfl, rfl, rfl, trivial⟩ ?_
    refine cj_if_f rfl ?_
    refine cj_skip (ej_then (hK10 _ _ _ ?_)); clear hK10
    refine CJ.sub (e' := [(0, _), (1, _), (5, _), (6, _), (12, _), (13, _), (14, _)]) ⟨rfl, rfl, rfl, rfl, rfl, rfl, rfl, trivial⟩ ?_
    refine cj_seqF fun K13 hK13 => ?_
    refine cj_reg ?_
    refine j_val rfl (fun a w ha => r_move rfl ha) ?_
    refine j_val rfl (fun a w ha => r_move rfl ha) ?_
    refine j_val rfl (fun a w ha => r_slhi Try.runUnderlying34 Try.sizeOf55 rfl rfl (by omega) ha) ?_
    refine j_val rfl (fun a w ha => r_len Try.runUnderlying34 rfl ha) ?_
    refine j_val rfl (fun a w ha => r_move rfl ha) ?_
    refine j_nil ?_
    refine ej_then (hK13 _ _ _ ?_); clear hK13
    refine CJ.sub (e' := [(0, _), (1, _), (6, _), (12, _), (13, _), (14, _), (37, _), (38, _), (39, _)]) ⟨rfl, rfl, rfl, rfl, rfl, rfl, rfl, rfl, rfl, trivial⟩ ?_
    refine cj_block ?_
    -- LOOP 1 live [0, 1, 6, 12, 13, 14, 37, 38, 39]
    refine cj_loop (σ := Nat) (fun j => [(0, .slice (some ⟨b, 0, none⟩) is.length c), (1, .map (some mb)), (6, ptr b6), (12, .slice (some ⟨b, 0, none⟩) is.length c), (13, .int .i64 (is.length : Nat)), (14, .int .i64 (k : Nat)), (37, .slice (some ⟨b, 0, none⟩) k c), (38, .int .i64 (k : Nat)), (39, .int .i64 (j : Nat))]) (fun _ => ⟨b6, tFlat, cFK (fkOf i 0), true, true, none⟩ :: mpE mb es ck :: restH w [mb]) (fun j _ => j ≤ k) (fun j => k - j)
      0 ⟨rfl, rfl, rfl, rfl, rfl, rfl, rfl, rfl, rfl, trivial⟩ (fun w' hH hf => ⟨hH, Nat.zero_le _⟩) ?_
    intro j w2 hj hf2 hH2 KL2 hKL2
    refine C.begin _ (⟨b6, tFlat, cFK (fkOf i 0), true, true, none⟩ :: mpE mb es ck :: restH w [mb]) hf2 hH2 ?_
    refine cj_seqF fun K14 hK14 => ?_
    refine cj_reg ?_
    refine j_val rfl (fun a w ha => r_lss rfl rfl ha) ?_
    refine j_nil ?_
    refine ej_then (hK14 _ _ _ ?_); clear hK14
    refine CJ.sub (e' := [(0, _), (1, _), (6, _), (12, _), (13, _), (14, _), (37, _), (38, _), (39, _), (40, _)]) ⟨rfl, rfl, rfl, rfl, rfl, rfl, rfl, rfl, rfl, rfl, trivial⟩ ?_
    refine cj_seqF fun K15 hK15 => ?_
    refine cj_dec rfl (fun h40 => ?_) (fun h40 => ?_)
    · have hj' : j < k := by omega
      have hjl : j < is.length := by omega
      generalize hij : is[j] = i2
      have hne : ¬ fkOf i 0 = fkOf i2 0 := fun he => by
        have h1 := (fkOf_inj he).1
        rw [← hik, ← hij] at h1
        have := (List.getElem_inj hnd).1 h1
        omega
      have hcell2 : ∀ w', Fm.ok ⟨w, 0, [1000000]⟩ w' → ∀ (q : Nat) (u : Value), (cFK (fkOf i2 (fl i2)))[q]? = some u → w'.cell? ⟨b, 0 + j * 5 + q, none⟩ = some u := fun w' kp q u hu => by
        rw [Nat.zero_add]
        exact hcell0 ⟨w, 0, [1000000]⟩ rfl rfl w' kp _ u (flatMap_get (c := fun i => cFK (fkOf i (fl i))) (fun _ => rfl) (by rw [List.getElem?_eq_getElem hjl, hij]) q u hu)
      refine cj_skip (ej_then (hK15 _ _ _ ?_)); clear hK15
      refine CJ.sub (e' := [(0, _), (1, _), (6, _), (12, _), (13, _), (14, _), (37, _), (38, _), (39, _)]) ⟨rfl, rfl, rfl, rfl, rfl, rfl, rfl, rfl, rfl, trivial⟩ ?_
      refine cj_seqF fun K16 hK16 => ?_
      refine cj_block ?_
      refine cj_seqF fun K17 hK17 => ?_
      refine cj_reg ?_
      refine j_val rfl (fun a w ha => r_idx Try.runUnderlying34 Try.sizeOf55 rfl rfl (by omega) ha) ?_
      refine j_valw rfl (fun a w ha hH hf => r_loadA Try.isAgg55 Try.sizeOf55 rfl rfl (hcell2 w (hf)) ha) ?_
      refine j_allocA (zs := [(.string ⟨#[]⟩), (.int .u64 0), (.int .i64 0), (.int .i64 0), (.int .i64 0)]) Try.zeroValue55 rfl fun b11 => ?_
      refine j_storeN (cs' := [_, _, _, _, _]) (H' := (_ :: _ :: _ :: _)) 0 rfl rfl rfl rfl Try.sizeOf55 rfl rfl rfl rfl rfl rfl rfl ?_
      refine j_nil ?_
      refine ej_then (hK17 _ _ _ ?_); clear hK17
      refine CJ.sub (e' := [(0, _), (1, _), (6, _), (11, _), (12, _), (13, _), (14, _), (37, _), (38, _), (39, _)]) ⟨rfl, rfl, rfl, rfl, rfl, rfl, rfl, rfl, rfl, rfl, trivial⟩ ?_
      refine cj_seqF fun K18 hK18 => ?_
      refine cj_reg ?_
      refine j_val rfl (fun a w ha => r_fl (q := 4) (ft := 2) Try.runUnderlying55 rfl Try.sizeOf2 rfl ha) ?_
      refine j_storeN (cs' := [_, _, _, _, _]) (H' := (_ :: _ :: _ :: _)) 0 rfl rfl rfl rfl Try.sizeOf2 rfl rfl rfl rfl rfl rfl rfl ?_
      refine j_nil ?_
      refine ej_then (hK18 _ _ _ ?_); clear hK18
      refine CJ.sub (e' := [(0, _), (1, _), (6, _), (11, _), (12, _), (13, _), (14, _), (37, _), (38, _), (39, _)]) ⟨rfl, rfl, rfl, rfl, rfl, rfl, rfl, rfl, rfl, rfl, trivial⟩ ?_
      refine cj_seqF fun K19 hK19 => ?_
      refine cj_reg ?_
      refine j_valw rfl (fun a w ha hH hf => r_ldA (vs := [_, _, _, _, _]) 1 rfl rfl Try.isAgg55 Try.sizeOf55 rfl rfl rfl ha hH) ?_
      refine j_valw rfl (fun a w ha hH hf => r_ldA (vs := [_, _, _, _, _]) 0 rfl rfl Try.isAgg55 Try.sizeOf55 rfl rfl rfl ha hH) ?_
      refine j_val rfl (fun a w ha => r_fkeql (i := fkOf i 0) (j := fkOf i2 0) rfl rfl ha) ?_
      refine j_false hne ?_
      refine j_nil ?_
      refine ej_then (hK19 _ _ _ ?_); clear hK19
      refine CJ.sub (e' := [(0, _), (1, _), (6, _), (12, _), (13, _), (14, _), (37, _), (38, _), (39, _), (46, _)]) ⟨rfl, rfl, rfl, rfl, rfl, rfl, rfl, rfl, rfl, rfl, trivial⟩ ?_
      refine cj_if_f rfl ?_
      refine cj_skip (ej_blk (ej_then (hK16 _ _ _ ?_))); clear hK16
      refine CJ.sub (e' := [(0, _), (1, _), (6, _), (12, _), (13, _), (14, _), (37, _), (38, _), (39, _)]) ⟨rfl, rfl, rfl, rfl, rfl, rfl, rfl, rfl, rfl, trivial⟩ ?_
      refine cj_reg ?_
      refine j_val rfl (fun a w ha => r_inc (by omega) rfl rfl ha) ?_
      refine j_val rfl (fun a w ha => r_move rfl ha) ?_
      refine j_nil ?_
      refine ej_then ?_
      exact fun w' hH hf => hKL2 (j + 1) _ w' hj' hf hH.2.2.2 (by omega) ⟨rfl, rfl, rfl, rfl, rfl, rfl, rfl, rfl, rfl, trivial⟩
    · refine cj_exit (ej_then_exit (ej_then_exit (ej_blk_hit (ej_blk (ej_then (hK6 _ _ _ ?_)))))); clear hK6
      refine CJ.sub (e' := [(0, _), (1, _), (12, _), (13, _), (14, _)]) ⟨rfl, rfl, rfl, rfl, rfl, trivial⟩ ?_
      refine cj_reg ?_
      refine j_val rfl (fun a w ha => r_inc (by omega) rfl rfl ha) ?_
      refine j_val rfl (fun a w ha => r_move rfl ha) ?_
      refine j_nil ?_
      refine ej_then ?_
      exact fun w' hH hf => hKL (k + 1) _ w' hk' hf hH.2.2.2 (by omega) ⟨rfl, rfl, rfl, rfl, rfl, trivial⟩
  · refine cj_exit (ej_then_exit (ej_then_exit (ej_blk_hit (ej_then (hK2 _ _ _ ?_))))); clear hK2
    refine CJ.sub (e' := [(0, _), (1, _)]) ⟨rfl, rfl, trivial⟩ ?_
    refine cj_seqF fun K20 hK20 => ?_
    refine cj_reg ?_
    refine j_val rfl (fun a w ha => r_move rfl ha) ?_
    refine j_val rfl (fun a w ha => r_len Try.runUnderlying34 rfl ha) ?_
    refine j_val rfl (fun a w ha => r_move rfl ha) ?_
    refine j_valw rfl (fun a w ha hH hf => r_mlen 0 rfl Try.runUnderlying36 rfl ha hH) ?_
    refine j_val rfl (fun a w ha => r_eql rfl rfl ha) ?_
    refine j_val rfl (fun a w ha => r_assign rfl ha) ?_
    refine j_nil ?_
    refine ej_then (hK20 _ _ _ ?_); clear hK20
    refine CJ.sub (e' := [(4, _)]) ⟨rfl, trivial⟩ ?_
    refine cj_ret (?_)
    exact ej_ret1 Try.results6 rfl fun w' hH hf => ⟨by rw [hlen]; simp, quietMap0 hH hf hmb⟩
/-- two lists without doubles, of the same members -/
theorem len_eq {α : Type} [DecidableEq α] : ∀ {l m : List α}, l.Nodup → m.Nodup → (∀ x, x ∈ l ↔ x ∈ m) → l.length = m.length := fun {l m} h1 h2 h => ((List.perm_ext_iff_of_nodup h1 h2).2 h).length_eq
theorem root_c (w : World) (cs : List Value) (x : PProf) (kv : Int) (h : RProf w cs x) :
    Calls Try.prog 3 #[.agg cs.toArray, .int .i64 kv] w (Ret fun v w' => v = .bool true ∧ Fr 0 [] w w') := by
  have hP := h
  obtain ⟨la, ls, lm, ll, lf, lcm, rfl, hla, -⟩ := h
  obtain ⟨pt, ct, rfl, -, -⟩ := hla.open
  refine startJ (args := [_, _]) [(0, _), (1, _)] 0 [] [] Try.func3 rfl Try.ntmps3 rfl rfl .nil ?_
  refine cj_seqF fun K1 hK1 => ?_
  refine cj_reg ?_
  refine j_boxA (vs := [_, _, _, _, _, _, _, _, _, _, _, _, _, _]) rfl rfl fun b2 => ?_
  refine j_val rfl (fun a w ha => r_assign rfl ha) ?_
  refine j_nil ?_
  refine ej_then (hK1 _ _ _ ?_); clear hK1
  refine CJ.sub (e' := [(1, _), (2, _)]) ⟨rfl, rfl, trivial⟩ ?_
  refine cj_seqF fun K2 hK2 => ?_
  refine cj_seqF fun K3 hK3 => ?_
  refine cj_reg ?_
  refine j_valw rfl (fun a w ha hH hf => r_ldA (vs := [_, _, _, _, _, _, _, _, _, _, _, _, _, _]) 0 rfl rfl Try.isAgg31 Try.sizeOf31 rfl rfl rfl ha hH) ?_
  refine j_callQ (φ := fun v => ∃ b, v = .bool b ∧ (b = true → x.mappings.length ≤ 2147483647 ∧ x.locs.length ≤ 2147483647 ∧ x.funcs.length ≤ 2147483647)) Try.call4 rfl rfl (fun w hH hf => zzFits1_c w _ _ (RProf.keep (hf.keepAll (.inr rfl)) _ _ hP)) ?_
  rintro _ ⟨bf, rfl, hbf⟩
  refine j_val rfl (fun a w ha => r_not rfl ha) ?_
  refine j_nil ?_
  refine ej_then (hK3 _ _ _ ?_); clear hK3
  refine CJ.sub (e' := [(1, _), (2, _), (7, _)]) ⟨rfl, rfl, rfl, trivial⟩ ?_
  refine cj_if rfl (fun h7 => ?_) (fun h7 => ?_)
  · refine cj_seqF fun K4 hK4 => ?_
    refine cj_reg ?_
    refine j_val rfl (fun a w ha => r_assign rfl ha) ?_
    refine j_nil ?_
    refine ej_then (hK4 _ _ _ ?_); clear hK4
    refine CJ.sub (e' := [(4, _)]) ⟨rfl, trivial⟩ ?_
    refine cj_ret (ej_then_ret (?_))
    exact ej_ret1 Try.results3 rfl fun w' hH hf => ⟨rfl, hf⟩
  · have hbf := hbf (by simpa using h7)
    refine cj_skip (ej_then (hK2 _ _ _ ?_)); clear hK2
    refine CJ.sub (e' := [(1, _), (2, _)]) ⟨rfl, rfl, trivial⟩ ?_
    refine cj_seqF fun K5 hK5 => ?_
    refine cj_seqF fun K6 hK6 => ?_
    refine cj_reg ?_
    refine j_valw rfl (fun a w ha hH hf => r_ldA (vs := [_, _, _, _, _, _, _, _, _, _, _, _, _, _]) 0 rfl rfl Try.isAgg31 Try.sizeOf31 rfl rfl rfl ha hH) ?_
    refine j_callQ (φ := fun v => ∃ b, v = .bool b ∧ (b = true → WellP x)) Try.call5 rfl rfl (fun w hH hf => well_c w _ _ (RProf.keep (hf.keepAll (.inr rfl)) _ _ hP) hbf.1 hbf.2.1 hbf.2.2) ?_
    rintro _ ⟨bw, rfl, hbw⟩
    refine j_val rfl (fun a w ha => r_not rfl ha) ?_
    refine j_val rfl (fun a w ha => r_move rfl ha) ?_
    refine j_split (t := 11) rfl (fun hg11 => ?_) (fun hg11 => ?_)
    · refine j_gf rfl rfl rfl rfl ?_
      refine j_gf rfl rfl rfl rfl ?_
      refine j_val rfl (fun a w ha => r_pick_t rfl rfl ha) ?_
      refine j_val rfl (fun a w ha => r_move rfl ha) ?_
      refine j_gf rfl rfl rfl rfl ?_
      refine j_gf rfl rfl rfl rfl ?_
      refine j_gf rfl rfl rfl rfl ?_
      refine j_gf rfl rfl rfl rfl ?_
      refine j_gf rfl rfl rfl rfl ?_
      refine j_val rfl (fun a w ha => r_pick_t rfl rfl ha) ?_
      refine j_nil ?_
      refine ej_then (hK6 _ _ _ ?_); clear hK6
      refine CJ.sub (e' := [(1, _), (2, _), (21, _)]) ⟨rfl, rfl, rfl, trivial⟩ ?_
      refine cj_if_t rfl ?_
      refine cj_seqF fun K7 hK7 => ?_
      refine cj_reg ?_
      refine j_val rfl (fun a w ha => r_assign rfl ha) ?_
      refine j_nil ?_
      refine ej_then (hK7 _ _ _ ?_); clear hK7
      refine CJ.sub (e' := [(4, _)]) ⟨rfl, trivial⟩ ?_
      refine cj_ret (ej_then_ret (?_))
      exact ej_ret1 Try.results3 rfl fun w' hH hf => ⟨rfl, hf⟩
    · refine j_gt rfl rfl ?_
      refine j_val rfl (fun a w ha => r_move rfl ha) ?_
      refine j_gt rfl rfl ?_
      refine j_val rfl (fun a w ha => r_lss rfl rfl ha) ?_
      refine j_val rfl (fun a w ha => r_pick_f rfl rfl ha) ?_
      refine j_val rfl (fun a w ha => r_move rfl ha) ?_
      refine j_split (t := 15) rfl (fun hg15 => ?_) (fun hg15 => ?_)
      · refine j_gf rfl rfl rfl rfl ?_
        refine j_gf rfl rfl rfl rfl ?_
        refine j_gf rfl rfl rfl rfl ?_
        refine j_gf rfl rfl rfl rfl ?_
        refine j_gf rfl rfl rfl rfl ?_
        refine j_val rfl (fun a w ha => r_pick_t rfl rfl ha) ?_
        refine j_nil ?_
        refine ej_then (hK6 _ _ _ ?_); clear hK6
        refine CJ.sub (e' := [(1, _), (2, _), (21, _)]) ⟨rfl, rfl, rfl, trivial⟩ ?_
        refine cj_if_t rfl ?_
        refine cj_seqF fun K8 hK8 => ?_
        refine cj_reg ?_
        refine j_val rfl (fun a w ha => r_assign rfl ha) ?_
        refine j_nil ?_
        refine ej_then (hK8 _ _ _ ?_); clear hK8
        refine CJ.sub (e' := [(4, _)]) ⟨rfl, trivial⟩ ?_
        refine cj_ret (ej_then_ret (?_))
        exact ej_ret1 Try.results3 rfl fun w' hH hf => ⟨rfl, hf⟩
      · refine j_gt rfl rfl ?_
        refine j_val rfl (fun a w ha => r_move rfl ha) ?_
        refine j_gt rfl rfl ?_
        refine j_val rfl (fun a w ha => r_fl (q := 0) (ft := 22) Try.runUnderlying31 rfl Try.sizeOf22 rfl ha) ?_
        refine j_gt rfl rfl ?_
        refine j_valw rfl (fun a w ha hH hf => r_ldH 0 rfl rfl Try.isAgg22 rfl rfl ha hH) ?_
        refine j_gt rfl rfl ?_
        refine j_val rfl (fun a w ha => r_len Try.runUnderlying22 rfl ha) ?_
        refine j_gt rfl rfl ?_
        refine j_val rfl (fun a w ha => r_geq rfl rfl ha) ?_
        refine j_val rfl (fun a w ha => r_pick_f rfl rfl ha) ?_
        refine j_nil ?_
        refine ej_then (hK6 _ _ _ ?_); clear hK6
        refine CJ.sub (e' := [(1, _), (2, _), (21, _)]) ⟨rfl, rfl, rfl, trivial⟩ ?_
        refine cj_if rfl (fun h21 => ?_) (fun h21 => ?_)
        · refine cj_seqF fun K9 hK9 => ?_
          refine cj_reg ?_
          refine j_val rfl (fun a w ha => r_assign rfl ha) ?_
          refine j_nil ?_
          refine ej_then (hK9 _ _ _ ?_); clear hK9
          refine CJ.sub (e' := [(4, _)]) ⟨rfl, trivial⟩ ?_
          refine cj_ret (ej_then_ret (?_))
          exact ej_ret1 Try.results3 rfl fun w' hH hf => ⟨rfl, hf⟩
        · have hx : WellP x := hbw (by simpa using hg11)
          have hk0 : 0 ≤ kv := by simp at hg15; omega
          have hk1 : kv < x.types.length := by simp at h21; omega
          obtain ⟨k, rfl⟩ : ∃ k : Nat, kv = k := ⟨kv.toNat, by omega⟩
          have hkl : k < x.types.length := by omega
          refine cj_skip (ej_then (hK5 _ _ _ ?_)); clear hK5
          refine CJ.sub (e' := [(1, _), (2, _)]) ⟨rfl, rfl, trivial⟩ ?_
          refine cj_seqF fun K10 hK10 => ?_
          refine cj_drawI 8 [(0, true), (1, true), (3, true), (4, true), (2, false), (5, false), (6, false), (7, true)] [0] rfl (by kernel_rfl) (by kernel_rfl) ?_
          refine dj_ld rfl rfl (sub_of [0] rfl) (fun a w ha hS => r_ldSA (vs := [_, _, _, _, _, _, _, _, _, _, _, _, _, _]) 0 rfl rfl Try.isAgg31 Try.sizeOf31 rfl rfl rfl ha hS) ?_
          refine dj_val rfl rfl (sub_of [0] rfl) (fun a w ha => r_move rfl ha) ?_
          refine dj_ld rfl rfl (sub_of [0] rfl) (fun a w ha hS => r_ldSA (vs := [_, _, _, _, _, _, _, _, _, _, _, _, _, _]) 0 rfl rfl Try.isAgg31 Try.sizeOf31 rfl rfl rfl ha hS) ?_
          refine dj_val rfl rfl (sub_of [0] rfl) (fun a w ha => r_move rfl ha) ?_
          refine dj_eff rfl fun K2 hK2 => ?_
          refine j_callE (R := fun w1 v w2 => (∃ is : List NI, OS tFlat 5 w2 v (is.flatMap fun i => cFK (fkOf i (flS x k x.samples.length i))) ∧ is.Nodup ∧ is.length ≤ 12000 ∧ ∀ i, i ∈ is ↔ flS x k x.samples.length i ≠ 0) ∧ Fr 0 [] w1 w2) Try.call7 rfl rfl (fun w1 hH hf => flats_c w1 _ x k (RProf.keep (hf.keepAll (.inr rfl)) _ _ hP) hx hkl) fun w1 v w2 hH1 hf1 hR => ?_
          obtain ⟨⟨is, ⟨y, p, l, c, rfl, hO, hy⟩, hisn, hisl, his⟩, hq2⟩ := hR
          refine J.begin ⟨w, 0, []⟩ [ro y, _] (hf1.fr hq2) ⟨⟨fun ho => by show Blk w2 y.b y.T y.cs; rw [hO.hT]; exact hy ho, fun o ho => by have : y.ob = some o := ho; rw [hO.ho] at this; cases this⟩, fun _ hw => (by cases hw), fun he z hz hze => ?_, hH1.fr hq2⟩ ?_
          · have hon : y.on = true := by simpa [Ent.ex, ro, hO.ho] using he
            simp at hz
            subst hz
            exact Blk.ne (hq2.blk (hH1.get (i := 0) rfl rfl) (.inr (by simp))) (hy hon) (show (31 : Nat) ≠ tFlat by decide)
          refine j_nil (ej_then (hK2 _ _ (.inr (sub_of [1] rfl)) ?_)); clear hK2 K2
          refine dj_eff rfl fun K2 hK2 => ?_
          refine j_callE (R := fun w1 v w2 => (∃ (mb : Nat) (ms : List (FK × Value)) (es : List MapEntry) (ck : Nat), v = .map (some mb) ∧ w2.heap[mb]? = some (.map es.toArray ck) ∧ MEnc encFK ms es ck ∧ (∀ p ∈ ms, ∃ i, p = (fkOf i 0, .int .i64 (flS x k x.samples.length i)) ∧ flS x k x.samples.length i ≠ 0) ∧
            ∀ i, flS x k x.samples.length i ≠ 0 → mget ms (fkOf i 0) = some (.int .i64 (flS x k x.samples.length i))) ∧ Fr 0 [] w1 w2) Try.call8 rfl rfl (fun w1 hH hf => specFlats_c w1 _ x k (RProf.keep (hf.keepAll (.inr rfl)) _ _ hP) hx hkl) fun w3 v w4 hH3 hf3 hR => ?_
          obtain ⟨⟨mb, ms, es, ck, rfl, hmb, hM, hms, hget⟩, hq4⟩ := hR
          refine J.begin ⟨w, 0, []⟩ (⟨mb, 0, [], false, false, some (.map es.toArray ck)⟩ :: [ro y, _]) (hf3.fr hq4) ⟨⟨fun ho => (by cases ho), fun o ho => (by cases ho; exact hmb)⟩, fun _ hw => (by cases hw), fun _ z hz hze => ?_, hH3.fr hq4⟩ ?_
          · rintro rfl
            have hon : z.on = true := by
              simp at hz
              rcases hz with rfl | rfl
              · simpa [Ent.ex, ro, hO.ho] using hze
              · rfl
            exact map_noBlk hmb _ _ (((hH3.fr hq4).has hz).row hon)
          refine j_nil (ej_then (hK2 _ _ (.inr (sub_of [2] rfl)) ?_)); clear hK2 K2
          refine dj_eff rfl fun K2 hK2 => ?_
          refine j_callQ (φ := fun v => v = .bool true) Try.call6 rfl rfl (fun w5 hH hf => same_c w5 _ is (flS x k x.samples.length) mb ck ms es (hO.osR (i := 1) hH rfl) (hH.obj (i := 0) rfl rfl) hM (fun i hi => hget i ((his i).1 hi)) hisn ?_ hisl) ?_
          · have h1 : es.length = (ms.map (·.1)).length := by have := hM.length; simpa using this
            have h2 : is.length = (is.map fun i => fkOf i 0).length := by simp
            rw [h1, h2]
            refine len_eq hM.keys (nodup_map_on hisn fun a _ b _ he => (fkOf_inj he).1) fun q => ⟨fun hq => ?_, fun hq => ?_⟩
            · obtain ⟨p, hp, rfl⟩ := List.mem_map.1 hq
              obtain ⟨i, rfl, hi⟩ := hms p hp
              exact List.mem_map.2 ⟨i, (his i).2 hi, rfl⟩
            · obtain ⟨i, hi, rfl⟩ := List.mem_map.1 hq
              exact List.mem_map.2 ⟨_, mget_mem (hget i ((his i).1 hi)), rfl⟩
          rintro _ rfl
          refine j_nil (ej_then (hK2 _ _ (.inr (sub_of [2] rfl)) ?_)); clear hK2 K2
          refine dj_val rfl rfl (sub_of [2] rfl) (fun a w ha => r_assign rfl ha) ?_
          refine dj_end ?_
          refine ej_then (hK10 _ _ _ ?_); clear hK10
          refine CJ.sub (e' := [(4, _)]) ⟨rfl, trivial⟩ ?_
          refine cj_ret (?_)
          exact ej_ret1 Try.results3 rfl fun w' hH hf => ⟨rfl, hf⟩
end Go.Proofs.Ytgjpegehmbebpaa
