/-
  The size checks zzFits1 to zzFits17 return a bool and write nothing that was there. Conditions: the arguments are plain data in memory.
-/
import Derived.Test.YtgjpegehmbebpaaTy
import Derived.Test.YtgjpegehmbebpaaPl
import Derived.KernelRfl
namespace Go.Proofs.Ytgjpegehmbebpaa
open Go Go.Fw Go.Proofs
theorem zzFits3_c (w : World) (cs : List Value) (x : PType) (h : RType w cs x) : Calls Try.prog 15 #[.agg cs.toArray] w (Ret fun v w' => (∃ b, v = .bool b) ∧ Fr 0 [] w w') := by
  unfold RType at h
  subst h
  refine startJ (args := [_]) [(0, _)] 0 [] [] Try.func15 rfl Try.ntmps15 rfl rfl .nil ?_
  refine cj_seqF fun K1 hK1 => ?_
  refine cj_reg ?_
  refine j_boxA (vs := [_, _]) rfl rfl fun b1 => ?_
  refine j_val rfl (fun a w ha => r_assign rfl ha) ?_
  refine j_nil ?_
  refine ej_then (hK1 _ _ _ ?_); clear hK1
  refine CJ.sub (e' := [(1, _)]) ⟨rfl, trivial⟩ ?_
  refine cj_seqF fun K2 hK2 => ?_
  refine cj_seqF fun K3 hK3 => ?_
  refine cj_reg ?_
  refine j_val rfl (fun a w ha => r_fl (q := 0) (ft := 9) Try.runUnderlying29 rfl Try.sizeOf9 rfl ha) ?_
  refine j_valw rfl (fun a w ha hH hf => r_ldH 0 rfl rfl Try.isAgg9 rfl rfl ha hH) ?_
  refine j_val rfl (fun a w ha => r_slen Try.runUnderlying9 rfl ha) ?_
  refine j_val rfl (fun a w ha => r_gtr rfl rfl ha) ?_
  refine j_nil ?_
  refine ej_then (hK3 _ _ _ ?_); clear hK3
  refine CJ.sub (e' := [(1, _), (6, _)]) ⟨rfl, rfl, trivial⟩ ?_
  refine cj_dec rfl (fun _ => ?_) (fun _ => ?_)
  · refine cj_seqF fun K4 hK4 => ?_
    refine cj_reg ?_
    refine j_val rfl (fun a w ha => r_assign rfl ha) ?_
    refine j_nil ?_
    refine ej_then (hK4 _ _ _ ?_); clear hK4
    refine CJ.sub (e' := [(2, _)]) ⟨rfl, trivial⟩ ?_
    refine cj_ret (ej_then_ret (?_))
    exact ej_ret1 Try.results15 rfl fun w' hH hf => ⟨⟨_, rfl⟩, hf⟩
  · refine cj_skip (ej_then (hK2 _ _ _ ?_)); clear hK2
    refine CJ.sub (e' := [(1, _)]) ⟨rfl, trivial⟩ ?_
    refine cj_seqF fun K5 hK5 => ?_
    refine cj_seqF fun K6 hK6 => ?_
    refine cj_reg ?_
    refine j_val rfl (fun a w ha => r_fl (q := 1) (ft := 9) Try.runUnderlying29 rfl Try.sizeOf9 rfl ha) ?_
    refine j_valw rfl (fun a w ha hH hf => r_ldH 0 rfl rfl Try.isAgg9 rfl rfl ha hH) ?_
    refine j_val rfl (fun a w ha => r_slen Try.runUnderlying9 rfl ha) ?_
    refine j_val rfl (fun a w ha => r_gtr rfl rfl ha) ?_
    refine j_nil ?_
    refine ej_then (hK6 _ _ _ ?_); clear hK6
    refine CJ.sub (e' := [(10, _)]) ⟨rfl, trivial⟩ ?_
    refine cj_dec rfl (fun _ => ?_) (fun _ => ?_)
    · refine cj_seqF fun K7 hK7 => ?_
      refine cj_reg ?_
      refine j_val rfl (fun a w ha => r_assign rfl ha) ?_
      refine j_nil ?_
      refine ej_then (hK7 _ _ _ ?_); clear hK7
      refine CJ.sub (e' := [(2, _)]) ⟨rfl, trivial⟩ ?_
      refine cj_ret (ej_then_ret (?_))
      exact ej_ret1 Try.results15 rfl fun w' hH hf => ⟨⟨_, rfl⟩, hf⟩
    · refine cj_skip (ej_then (hK5 _ _ _ ?_)); clear hK5
      refine CJ.sub (e' := []) trivial ?_
      refine cj_seqF fun K8 hK8 => ?_
      refine cj_reg ?_
      refine j_val rfl (fun a w ha => r_assign rfl ha) ?_
      refine j_nil ?_
      refine ej_then (hK8 _ _ _ ?_); clear hK8
      refine CJ.sub (e' := [(2, _)]) ⟨rfl, trivial⟩ ?_
      refine cj_ret (?_)
      exact ej_ret1 Try.results15 rfl fun w' hH hf => ⟨⟨_, rfl⟩, hf⟩
theorem zzFits2_c (w : World) (v : Value) (xs : List PType) (h : Lay RType 2 w v xs) : Calls Try.prog 9 #[v] w (Ret fun v w' => (∃ b, v = .bool b ∧ (b = true → xs.length ≤ 2147483647)) ∧ Fr 0 [] w w') := by
  obtain ⟨p, c, rfl, hl, hx⟩ := h.open
  refine startJ (args := [_]) [(0, _)] 0 [] [] Try.func9 rfl Try.ntmps9 rfl rfl .nil ?_
  refine cj_seqF fun K1 hK1 => ?_
  refine cj_reg ?_
  refine j_val rfl (fun a w ha => r_assign rfl ha) ?_
  refine j_nil ?_
  refine ej_then (hK1 _ _ _ ?_); clear hK1
  refine CJ.sub (e' := [(0, _)]) ⟨rfl, trivial⟩ ?_
  refine cj_seqF fun K2 hK2 => ?_
  refine cj_seqF fun K3 hK3 => ?_
  refine cj_reg ?_
  refine j_val rfl (fun a w ha => r_move rfl ha) ?_
  refine j_val rfl (fun a w ha => r_len Try.runUnderlying22 rfl ha) ?_
  refine j_val rfl (fun a w ha => r_gtr rfl rfl ha) ?_
  refine j_nil ?_
  refine ej_then (hK3 _ _ _ ?_); clear hK3
  refine CJ.sub (e' := [(0, _), (7, _)]) ⟨rfl, rfl, trivial⟩ ?_
  refine cj_dec rfl (fun hbig => ?_) (fun hbig => ?_)
  · refine cj_seqF fun K4 hK4 => ?_
    refine cj_reg ?_
    refine j_val rfl (fun a w ha => r_assign rfl ha) ?_
    refine j_nil ?_
    refine ej_then (hK4 _ _ _ ?_); clear hK4
    refine CJ.sub (e' := [(2, _)]) ⟨rfl, trivial⟩ ?_
    refine cj_ret (ej_then_ret (?_))
    exact ej_ret1 Try.results9 rfl fun w' hH hf => ⟨⟨_, rfl, by first | (intro h; exact absurd h (by decide)) | (intro _; omega)⟩, hf⟩
  · refine cj_skip (ej_then (hK2 _ _ _ ?_)); clear hK2
    refine CJ.sub (e' := [(0, _)]) ⟨rfl, trivial⟩ ?_
    refine cj_seqF fun K5 hK5 => ?_
    refine cj_seqF fun K6 hK6 => ?_
    refine cj_reg ?_
    refine j_val rfl (fun a w ha => r_move rfl ha) ?_
    refine j_val rfl (fun a w ha => r_len Try.runUnderlying22 rfl ha) ?_
    refine j_val rfl (fun a w ha => r_move rfl ha) ?_
    refine j_nil ?_
    refine ej_then (hK6 _ _ _ ?_); clear hK6
    refine CJ.sub (e' := [(8, _), (9, _), (10, _)]) ⟨rfl, rfl, rfl, trivial⟩ ?_
    refine cj_block ?_
    -- LOOP 0 live [8, 9, 10]
    refine cj_loop (σ := Nat) (fun k => [(8, .slice p xs.length c), (9, .int .i64 (xs.length : Nat)), (10, .int .i64 (k : Nat))]) (fun _ => []) (fun k _ => k ≤ xs.length) (fun k => xs.length - k) 0 ⟨rfl, rfl, rfl, trivial⟩ (fun w hH hf => ⟨.nil, Nat.zero_le _⟩) ?_
    intro k w1 hk hf1 hH1 KL hKL
    refine C.begin _ [] hf1 .nil ?_
    refine cj_seqF fun K7 hK7 => ?_
    refine cj_reg ?_
    refine j_val rfl (fun a w ha => r_lss rfl rfl ha) ?_
    refine j_nil ?_
    refine ej_then (hK7 _ _ _ ?_); clear hK7
    refine CJ.sub (e' := [(8, _), (9, _), (10, _), (11, _)]) ⟨rfl, rfl, rfl, rfl, trivial⟩ ?_
    refine cj_seqF fun K8 hK8 => ?_
    refine cj_dec rfl (fun hlt => ?_) (fun hlt => ?_)
    · have hlt' : k < xs.length := by omega
      obtain ⟨b, o, cs, rfl, hcs, hR, hcell⟩ := hx k xs[k] (List.getElem?_eq_getElem hlt')
      have hR' := hR
      unfold RType at hR
      subst hR
      refine cj_skip (ej_then (hK8 _ _ _ ?_)); clear hK8
      refine CJ.sub (e' := [(8, _), (9, _), (10, _)]) ⟨rfl, rfl, rfl, trivial⟩ ?_
      refine cj_seqF fun K9 hK9 => ?_
      refine cj_block ?_
      refine cj_seqF fun K10 hK10 => ?_
      refine cj_reg ?_
      refine j_val rfl (fun a w ha => r_idx Try.runUnderlying22 Try.sizeOf29 rfl rfl (by omega) ha) ?_
      refine j_valw rfl (fun a w ha hH hf => r_loadA Try.isAgg29 Try.sizeOf29 rfl rfl (hcell w (hf.keepAll (.inr rfl))) ha) ?_
      refine j_allocA (zs := [(.string ⟨#[]⟩), (.string ⟨#[]⟩)]) Try.zeroValue29 rfl fun b4 => ?_
      refine j_storeN (cs' := [_, _]) (H' := [_]) 0 rfl rfl rfl rfl Try.sizeOf29 rfl rfl rfl rfl rfl rfl rfl ?_
      refine j_nil ?_
      refine ej_then (hK10 _ _ _ ?_); clear hK10
      refine CJ.sub (e' := [(4, _), (8, _), (9, _), (10, _)]) ⟨rfl, rfl, rfl, rfl, trivial⟩ ?_
      refine cj_seqF fun K11 hK11 => ?_
      refine cj_reg ?_
      refine j_valw rfl (fun a w ha hH hf => r_ldA (vs := [_, _]) 0 rfl rfl Try.isAgg29 Try.sizeOf29 rfl rfl rfl ha hH) ?_
      refine j_callQ (φ := fun v => ∃ b, v = .bool b) Try.call15 rfl rfl (fun w hH hf => zzFits3_c w _ _ (RType.keep (hf.keepAll (.inr rfl)) _ _ hR')) ?_
      rintro _ ⟨b15, rfl⟩
      refine j_val rfl (fun a w ha => r_not rfl ha) ?_
      refine j_nil ?_
      refine ej_then (hK11 _ _ _ ?_); clear hK11
      refine CJ.sub (e' := [(8, _), (9, _), (10, _), (16, _)]) ⟨rfl, rfl, rfl, rfl, trivial⟩ ?_
      refine cj_if rfl (fun _ => ?_) (fun _ => ?_)
      · refine cj_seqF fun K12 hK12 => ?_
        refine cj_reg ?_
        refine j_val rfl (fun a w ha => r_assign rfl ha) ?_
        refine j_nil ?_
        refine ej_then (hK12 _ _ _ ?_); clear hK12
        refine CJ.sub (e' := [(2, _)]) ⟨rfl, trivial⟩ ?_
        refine cj_ret (ej_blk_ret (ej_then_ret (ej_then_ret (ej_blk_ret (ej_then_ret (?_))))))
        exact ej_ret1 Try.results9 rfl fun w' hH hf => ⟨⟨_, rfl, by first | (intro h; exact absurd h (by decide)) | (intro _; omega)⟩, hf⟩
      · refine cj_skip (ej_blk (ej_then (hK9 _ _ _ ?_))); clear hK9
        refine CJ.sub (e' := [(8, _), (9, _), (10, _)]) ⟨rfl, rfl, rfl, trivial⟩ ?_
        refine cj_reg ?_
        refine j_val rfl (fun a w ha => r_inc (by omega) rfl rfl ha) ?_
        refine j_val rfl (fun a w ha => r_move rfl ha) ?_
        refine j_nil ?_
        refine ej_then ?_
        exact fun w hH hf => hKL (k + 1) _ w hlt' hf .nil (by omega) ⟨rfl, rfl, rfl, trivial⟩
    · refine cj_exit (ej_then_exit (ej_then_exit (ej_blk_hit (ej_then (hK5 _ _ _ ?_))))); clear hK5
      refine CJ.sub (e' := []) trivial ?_
      refine cj_seqF fun K13 hK13 => ?_
      refine cj_reg ?_
      refine j_val rfl (fun a w ha => r_assign rfl ha) ?_
      refine j_nil ?_
      refine ej_then (hK13 _ _ _ ?_); clear hK13
      refine CJ.sub (e' := [(2, _)]) ⟨rfl, trivial⟩ ?_
      refine cj_ret (?_)
      exact ej_ret1 Try.results9 rfl fun w' hH hf => ⟨⟨_, rfl, by first | (intro h; exact absurd h (by decide)) | (intro _; omega)⟩, hf⟩
theorem zzFits8_c (w : World) (v : Value) (xs : List ByteArray) (h : Lay RStr 1 w v xs) : Calls Try.prog 14 #[v] w (Ret fun v w' => (∃ b, v = .bool b ∧ (b = true → xs.length ≤ 2147483647)) ∧ Fr 0 [] w w') := by
  obtain ⟨p, c, rfl, hl, hx⟩ := h.open
  refine startJ (args := [_]) [(0, _)] 0 [] [] Try.func14 rfl Try.ntmps14 rfl rfl .nil ?_
  refine cj_seqF fun K1 hK1 => ?_
  refine cj_reg ?_
  refine j_val rfl (fun a w ha => r_assign rfl ha) ?_
  refine j_nil ?_
  refine ej_then (hK1 _ _ _ ?_); clear hK1
  refine CJ.sub (e' := [(0, _)]) ⟨rfl, trivial⟩ ?_
  refine cj_seqF fun K2 hK2 => ?_
  refine cj_seqF fun K3 hK3 => ?_
  refine cj_reg ?_
  refine j_val rfl (fun a w ha => r_move rfl ha) ?_
  refine j_val rfl (fun a w ha => r_len Try.runUnderlying27 rfl ha) ?_
  refine j_val rfl (fun a w ha => r_gtr rfl rfl ha) ?_
  refine j_nil ?_
  refine ej_then (hK3 _ _ _ ?_); clear hK3
  refine CJ.sub (e' := [(0, _), (7, _)]) ⟨rfl, rfl, trivial⟩ ?_
  refine cj_dec rfl (fun hbig => ?_) (fun hbig => ?_)
  · refine cj_seqF fun K4 hK4 => ?_
    refine cj_reg ?_
    refine j_val rfl (fun a w ha => r_assign rfl ha) ?_
    refine j_nil ?_
    refine ej_then (hK4 _ _ _ ?_); clear hK4
    refine CJ.sub (e' := [(2, _)]) ⟨rfl, trivial⟩ ?_
    refine cj_ret (ej_then_ret (?_))
    exact ej_ret1 Try.results14 rfl fun w' hH hf => ⟨⟨_, rfl, by first | (intro h; exact absurd h (by decide)) | (intro _; omega)⟩, hf⟩
  · refine cj_skip (ej_then (hK2 _ _ _ ?_)); clear hK2
    refine CJ.sub (e' := [(0, _)]) ⟨rfl, trivial⟩ ?_
    refine cj_seqF fun K5 hK5 => ?_
    refine cj_seqF fun K6 hK6 => ?_
    refine cj_reg ?_
    refine j_val rfl (fun a w ha => r_move rfl ha) ?_
    refine j_val rfl (fun a w ha => r_len Try.runUnderlying27 rfl ha) ?_
    refine j_val rfl (fun a w ha => r_move rfl ha) ?_
    refine j_nil ?_
    refine ej_then (hK6 _ _ _ ?_); clear hK6
    refine CJ.sub (e' := [(8, _), (9, _), (10, _)]) ⟨rfl, rfl, rfl, trivial⟩ ?_
    refine cj_block ?_
    -- LOOP 0 live [8, 9, 10]
    refine cj_loop (σ := Nat) (fun k => [(8, .slice p xs.length c), (9, .int .i64 (xs.length : Nat)), (10, .int .i64 (k : Nat))]) (fun _ => []) (fun k _ => k ≤ xs.length) (fun k => xs.length - k) 0 ⟨rfl, rfl, rfl, trivial⟩ (fun w hH hf => ⟨.nil, Nat.zero_le _⟩) ?_
    intro k w1 hk hf1 hH1 KL hKL
    refine C.begin _ [] hf1 .nil ?_
    refine cj_seqF fun K7 hK7 => ?_
    refine cj_reg ?_
    refine j_val rfl (fun a w ha => r_lss rfl rfl ha) ?_
    refine j_nil ?_
    refine ej_then (hK7 _ _ _ ?_); clear hK7
    refine CJ.sub (e' := [(8, _), (9, _), (10, _), (11, _)]) ⟨rfl, rfl, rfl, rfl, trivial⟩ ?_
    refine cj_seqF fun K8 hK8 => ?_
    refine cj_dec rfl (fun hlt => ?_) (fun hlt => ?_)
    · have hlt' : k < xs.length := by omega
      obtain ⟨b, o, cs, rfl, hcs, hR, hcell⟩ := hx k xs[k] (List.getElem?_eq_getElem hlt')
      unfold RStr at hR
      subst hR
      refine cj_skip (ej_then (hK8 _ _ _ ?_)); clear hK8
      refine CJ.sub (e' := [(8, _), (9, _), (10, _)]) ⟨rfl, rfl, rfl, trivial⟩ ?_
      refine cj_seqF fun K9 hK9 => ?_
      refine cj_block ?_
      refine cj_seqF fun K10 hK10 => ?_
      refine cj_reg ?_
      refine j_val rfl (fun a w ha => r_idx Try.runUnderlying27 Try.sizeOf9 rfl rfl (by omega) ha) ?_
      refine j_valw rfl (fun a w ha hH hf => r_load Try.isAgg9 rfl (hcell w (hf.keepAll (.inr rfl)) 0 _ rfl) ha) ?_
      refine j_val rfl (fun a w ha => r_assign rfl ha) ?_
      refine j_nil ?_
      refine ej_then (hK10 _ _ _ ?_); clear hK10
      refine CJ.sub (e' := [(4, _), (8, _), (9, _), (10, _)]) ⟨rfl, rfl, rfl, rfl, trivial⟩ ?_
      refine cj_seqF fun K11 hK11 => ?_
      refine cj_reg ?_
      refine j_val rfl (fun a w ha => r_move rfl ha) ?_
      refine j_val rfl (fun a w ha => r_slen Try.runUnderlying9 rfl ha) ?_
      refine j_val rfl (fun a w ha => r_gtr rfl rfl ha) ?_
      refine j_nil ?_
      refine ej_then (hK11 _ _ _ ?_); clear hK11
      refine CJ.sub (e' := [(8, _), (9, _), (10, _), (16, _)]) ⟨rfl, rfl, rfl, rfl, trivial⟩ ?_
      refine cj_dec rfl (fun _ => ?_) (fun _ => ?_)
      · refine cj_seqF fun K12 hK12 => ?_
        refine cj_reg ?_
        refine j_val rfl (fun a w ha => r_assign rfl ha) ?_
        refine j_nil ?_
        refine ej_then (hK12 _ _ _ ?_); clear hK12
        refine CJ.sub (e' := [(2, _)]) ⟨rfl, trivial⟩ ?_
        refine cj_ret (ej_blk_ret (ej_then_ret (ej_then_ret (ej_blk_ret (ej_then_ret (?_))))))
        exact ej_ret1 Try.results14 rfl fun w' hH hf => ⟨⟨_, rfl, by first | (intro h; exact absurd h (by decide)) | (intro _; omega)⟩, hf⟩
      · refine cj_skip (ej_blk (ej_then (hK9 _ _ _ ?_))); clear hK9
        refine CJ.sub (e' := [(8, _), (9, _), (10, _)]) ⟨rfl, rfl, rfl, trivial⟩ ?_
        refine cj_reg ?_
        refine j_val rfl (fun a w ha => r_inc (by omega) rfl rfl ha) ?_
        refine j_val rfl (fun a w ha => r_move rfl ha) ?_
        refine j_nil ?_
        refine ej_then ?_
        exact fun w hH hf => hKL (k + 1) _ w hlt' hf .nil (by omega) ⟨rfl, rfl, rfl, trivial⟩
    · refine cj_exit (ej_then_exit (ej_then_exit (ej_blk_hit (ej_then (hK5 _ _ _ ?_))))); clear hK5
      refine CJ.sub (e' := []) trivial ?_
      refine cj_seqF fun K13 hK13 => ?_
      refine cj_reg ?_
      refine j_val rfl (fun a w ha => r_assign rfl ha) ?_
      refine j_nil ?_
      refine ej_then (hK13 _ _ _ ?_); clear hK13
      refine CJ.sub (e' := [(2, _)]) ⟨rfl, trivial⟩ ?_
      refine cj_ret (?_)
      exact ej_ret1 Try.results14 rfl fun w' hH hf => ⟨⟨_, rfl, by first | (intro h; exact absurd h (by decide)) | (intro _; omega)⟩, hf⟩
theorem zzFits7_c (w : World) (cs : List Value) (x : PTexts) (h : RTexts w cs x) : Calls Try.prog 44 #[.agg cs.toArray] w (Ret fun v w' => (∃ b, v = .bool b) ∧ Fr 0 [] w w') := by
  obtain ⟨la, rfl, hla⟩ := h
  refine startJ (args := [_]) [(0, _)] 0 [] [] Try.func44 rfl Try.ntmps44 rfl rfl .nil ?_
  refine cj_seqF fun K1 hK1 => ?_
  refine cj_reg ?_
  refine j_boxA (vs := [_, _]) rfl rfl fun b1 => ?_
  refine j_val rfl (fun a w ha => r_assign rfl ha) ?_
  refine j_nil ?_
  refine ej_then (hK1 _ _ _ ?_); clear hK1
  refine CJ.sub (e' := [(1, _)]) ⟨rfl, trivial⟩ ?_
  refine cj_seqF fun K2 hK2 => ?_
  refine cj_seqF fun K3 hK3 => ?_
  refine cj_reg ?_
  refine j_val rfl (fun a w ha => r_fl (q := 0) (ft := 9) Try.runUnderlying91 rfl Try.sizeOf9 rfl ha) ?_
  refine j_valw rfl (fun a w ha hH hf => r_ldH 0 rfl rfl Try.isAgg9 rfl rfl ha hH) ?_
  refine j_val rfl (fun a w ha => r_slen Try.runUnderlying9 rfl ha) ?_
  refine j_val rfl (fun a w ha => r_gtr rfl rfl ha) ?_
  refine j_nil ?_
  refine ej_then (hK3 _ _ _ ?_); clear hK3
  refine CJ.sub (e' := [(1, _), (6, _)]) ⟨rfl, rfl, trivial⟩ ?_
  refine cj_dec rfl (fun _ => ?_) (fun _ => ?_)
  · refine cj_seqF fun K4 hK4 => ?_
    refine cj_reg ?_
    refine j_val rfl (fun a w ha => r_assign rfl ha) ?_
    refine j_nil ?_
    refine ej_then (hK4 _ _ _ ?_); clear hK4
    refine CJ.sub (e' := [(2, _)]) ⟨rfl, trivial⟩ ?_
    refine cj_ret (ej_then_ret (?_))
    exact ej_ret1 Try.results44 rfl fun w' hH hf => ⟨⟨_, rfl⟩, hf⟩
  · refine cj_skip (ej_then (hK2 _ _ _ ?_)); clear hK2
    refine CJ.sub (e' := [(1, _)]) ⟨rfl, trivial⟩ ?_
    refine cj_seqF fun K5 hK5 => ?_
    refine cj_seqF fun K6 hK6 => ?_
    refine cj_reg ?_
    refine j_val rfl (fun a w ha => r_fl (q := 1) (ft := 27) Try.runUnderlying91 rfl Try.sizeOf27 rfl ha) ?_
    refine j_valw rfl (fun a w ha hH hf => r_ldH 0 rfl rfl Try.isAgg27 rfl rfl ha hH) ?_
    refine j_callQ (φ := fun v => ∃ b, v = .bool b ∧ (b = true → x.list.length ≤ 2147483647)) Try.call14 rfl rfl (fun w hH hf => zzFits8_c w _ _ (hla.keep (RStr.keep (hf.keepAll (.inr rfl))) (hf.keepAll (.inr rfl)))) ?_
    rintro _ ⟨b9, rfl, hb9⟩
    refine j_val rfl (fun a w ha => r_not rfl ha) ?_
    refine j_nil ?_
    refine ej_then (hK6 _ _ _ ?_); clear hK6
    refine CJ.sub (e' := [(10, _)]) ⟨rfl, trivial⟩ ?_
    refine cj_if rfl (fun _ => ?_) (fun _ => ?_)
    · refine cj_seqF fun K7 hK7 => ?_
      refine cj_reg ?_
      refine j_val rfl (fun a w ha => r_assign rfl ha) ?_
      refine j_nil ?_
      refine ej_then (hK7 _ _ _ ?_); clear hK7
      refine CJ.sub (e' := [(2, _)]) ⟨rfl, trivial⟩ ?_
      refine cj_ret (ej_then_ret (?_))
      exact ej_ret1 Try.results44 rfl fun w' hH hf => ⟨⟨_, rfl⟩, hf⟩
    · refine cj_skip (ej_then (hK5 _ _ _ ?_)); clear hK5
      refine CJ.sub (e' := []) trivial ?_
      refine cj_seqF fun K8 hK8 => ?_
      refine cj_reg ?_
      refine j_val rfl (fun a w ha => r_assign rfl ha) ?_
      refine j_nil ?_
      refine ej_then (hK8 _ _ _ ?_); clear hK8
      refine CJ.sub (e' := [(2, _)]) ⟨rfl, trivial⟩ ?_
      refine cj_ret (?_)
      exact ej_ret1 Try.results44 rfl fun w' hH hf => ⟨⟨_, rfl⟩, hf⟩
theorem zzFits6_c (w : World) (v : Value) (xs : List PTexts) (h : Lay RTexts 2 w v xs) : Calls Try.prog 34 #[v] w (Ret fun v w' => (∃ b, v = .bool b ∧ (b = true → xs.length ≤ 2147483647)) ∧ Fr 0 [] w w') := by
  obtain ⟨p, c, rfl, hl, hx⟩ := h.open
  refine startJ (args := [_]) [(0, _)] 0 [] [] Try.func34 rfl Try.ntmps34 rfl rfl .nil ?_
  refine cj_seqF fun K1 hK1 => ?_
  refine cj_reg ?_
  refine j_val rfl (fun a w ha => r_assign rfl ha) ?_
  refine j_nil ?_
  refine ej_then (hK1 _ _ _ ?_); clear hK1
  refine CJ.sub (e' := [(0, _)]) ⟨rfl, trivial⟩ ?_
  refine cj_seqF fun K2 hK2 => ?_
  refine cj_seqF fun K3 hK3 => ?_
  refine cj_reg ?_
  refine j_val rfl (fun a w ha => r_move rfl ha) ?_
  refine j_val rfl (fun a w ha => r_len Try.runUnderlying48 rfl ha) ?_
  refine j_val rfl (fun a w ha => r_gtr rfl rfl ha) ?_
  refine j_nil ?_
  refine ej_then (hK3 _ _ _ ?_); clear hK3
  refine CJ.sub (e' := [(0, _), (7, _)]) ⟨rfl, rfl, trivial⟩ ?_
  refine cj_dec rfl (fun hbig => ?_) (fun hbig => ?_)
  · refine cj_seqF fun K4 hK4 => ?_
    refine cj_reg ?_
    refine j_val rfl (fun a w ha => r_assign rfl ha) ?_
    refine j_nil ?_
    refine ej_then (hK4 _ _ _ ?_); clear hK4
    refine CJ.sub (e' := [(2, _)]) ⟨rfl, trivial⟩ ?_
    refine cj_ret (ej_then_ret (?_))
    exact ej_ret1 Try.results34 rfl fun w' hH hf => ⟨⟨_, rfl, by first | (intro h; exact absurd h (by decide)) | (intro _; omega)⟩, hf⟩
  · refine cj_skip (ej_then (hK2 _ _ _ ?_)); clear hK2
    refine CJ.sub (e' := [(0, _)]) ⟨rfl, trivial⟩ ?_
    refine cj_seqF fun K5 hK5 => ?_
    refine cj_seqF fun K6 hK6 => ?_
    refine cj_reg ?_
    refine j_val rfl (fun a w ha => r_move rfl ha) ?_
    refine j_val rfl (fun a w ha => r_len Try.runUnderlying48 rfl ha) ?_
    refine j_val rfl (fun a w ha => r_move rfl ha) ?_
    refine j_nil ?_
    refine ej_then (hK6 _ _ _ ?_); clear hK6
    refine CJ.sub (e' := [(8, _), (9, _), (10, _)]) ⟨rfl, rfl, rfl, trivial⟩ ?_
    refine cj_block ?_
    -- LOOP 0 live [8, 9, 10]
    refine cj_loop (σ := Nat) (fun k => [(8, .slice p xs.length c), (9, .int .i64 (xs.length : Nat)), (10, .int .i64 (k : Nat))]) (fun _ => []) (fun k _ => k ≤ xs.length) (fun k => xs.length - k) 0 ⟨rfl, rfl, rfl, trivial⟩ (fun w hH hf => ⟨.nil, Nat.zero_le _⟩) ?_
    intro k w1 hk hf1 hH1 KL hKL
    refine C.begin _ [] hf1 .nil ?_
    refine cj_seqF fun K7 hK7 => ?_
    refine cj_reg ?_
    refine j_val rfl (fun a w ha => r_lss rfl rfl ha) ?_
    refine j_nil ?_
    refine ej_then (hK7 _ _ _ ?_); clear hK7
    refine CJ.sub (e' := [(8, _), (9, _), (10, _), (11, _)]) ⟨rfl, rfl, rfl, rfl, trivial⟩ ?_
    refine cj_seqF fun K8 hK8 => ?_
    refine cj_dec rfl (fun hlt => ?_) (fun hlt => ?_)
    · have hlt' : k < xs.length := by omega
      obtain ⟨b, o, cs, rfl, hcs, hR, hcell⟩ := hx k xs[k] (List.getElem?_eq_getElem hlt')
      have hR' := hR
      obtain ⟨la, rfl, hla⟩ := hR
      obtain ⟨p1, c1, rfl, hl1, -⟩ := hla.open
      refine cj_skip (ej_then (hK8 _ _ _ ?_)); clear hK8
      refine CJ.sub (e' := [(8, _), (9, _), (10, _)]) ⟨rfl, rfl, rfl, trivial⟩ ?_
      refine cj_seqF fun K9 hK9 => ?_
      refine cj_block ?_
      refine cj_seqF fun K10 hK10 => ?_
      refine cj_reg ?_
      refine j_val rfl (fun a w ha => r_idx Try.runUnderlying48 Try.sizeOf91 rfl rfl (by omega) ha) ?_
      refine j_valw rfl (fun a w ha hH hf => r_loadA Try.isAgg91 Try.sizeOf91 rfl rfl (hcell w (hf.keepAll (.inr rfl))) ha) ?_
      refine j_allocA (zs := [(.string ⟨#[]⟩), (.slice none 0 0)]) Try.zeroValue91 rfl fun b4 => ?_
      refine j_storeN (cs' := [_, _]) (H' := [_]) 0 rfl rfl rfl rfl Try.sizeOf91 rfl rfl rfl rfl rfl rfl rfl ?_
      refine j_nil ?_
      refine ej_then (hK10 _ _ _ ?_); clear hK10
      refine CJ.sub (e' := [(4, _), (8, _), (9, _), (10, _)]) ⟨rfl, rfl, rfl, rfl, trivial⟩ ?_
      refine cj_seqF fun K11 hK11 => ?_
      refine cj_reg ?_
      refine j_valw rfl (fun a w ha hH hf => r_ldA (vs := [_, _]) 0 rfl rfl Try.isAgg91 Try.sizeOf91 rfl rfl rfl ha hH) ?_
      refine j_callQ (φ := fun v => ∃ b, v = .bool b) Try.call44 rfl rfl (fun w hH hf => zzFits7_c w _ _ (RTexts.keep (hf.keepAll (.inr rfl)) _ _ hR')) ?_
      rintro _ ⟨b15, rfl⟩
      refine j_val rfl (fun a w ha => r_not rfl ha) ?_
      refine j_nil ?_
      refine ej_then (hK11 _ _ _ ?_); clear hK11
      refine CJ.sub (e' := [(8, _), (9, _), (10, _), (16, _)]) ⟨rfl, rfl, rfl, rfl, trivial⟩ ?_
      refine cj_if rfl (fun _ => ?_) (fun _ => ?_)
      · refine cj_seqF fun K12 hK12 => ?_
        refine cj_reg ?_
        refine j_val rfl (fun a w ha => r_assign rfl ha) ?_
        refine j_nil ?_
        refine ej_then (hK12 _ _ _ ?_); clear hK12
        refine CJ.sub (e' := [(2, _)]) ⟨rfl, trivial⟩ ?_
        refine cj_ret (ej_blk_ret (ej_then_ret (ej_then_ret (ej_blk_ret (ej_then_ret (?_))))))
        exact ej_ret1 Try.results34 rfl fun w' hH hf => ⟨⟨_, rfl, by first | (intro h; exact absurd h (by decide)) | (intro _; omega)⟩, hf⟩
      · refine cj_skip (ej_blk (ej_then (hK9 _ _ _ ?_))); clear hK9
        refine CJ.sub (e' := [(8, _), (9, _), (10, _)]) ⟨rfl, rfl, rfl, trivial⟩ ?_
        refine cj_reg ?_
        refine j_val rfl (fun a w ha => r_inc (by omega) rfl rfl ha) ?_
        refine j_val rfl (fun a w ha => r_move rfl ha) ?_
        refine j_nil ?_
        refine ej_then ?_
        exact fun w hH hf => hKL (k + 1) _ w hlt' hf .nil (by omega) ⟨rfl, rfl, rfl, trivial⟩
    · refine cj_exit (ej_then_exit (ej_then_exit (ej_blk_hit (ej_then (hK5 _ _ _ ?_))))); clear hK5
      refine CJ.sub (e' := []) trivial ?_
      refine cj_seqF fun K13 hK13 => ?_
      refine cj_reg ?_
      refine j_val rfl (fun a w ha => r_assign rfl ha) ?_
      refine j_nil ?_
      refine ej_then (hK13 _ _ _ ?_); clear hK13
      refine CJ.sub (e' := [(2, _)]) ⟨rfl, trivial⟩ ?_
      refine cj_ret (?_)
      exact ej_ret1 Try.results34 rfl fun w' hH hf => ⟨⟨_, rfl, by first | (intro h; exact absurd h (by decide)) | (intro _; omega)⟩, hf⟩
theorem zzFits10_c (w : World) (cs : List Value) (x : PNums) (h : RNums w cs x) : Calls Try.prog 45 #[.agg cs.toArray] w (Ret fun v w' => (∃ b, v = .bool b) ∧ Fr 0 [] w w') := by
  obtain ⟨la, rfl, hla⟩ := h
  obtain ⟨p1, c1, rfl, hl1, -⟩ := hla.open
  refine startJ (args := [_]) [(0, _)] 0 [] [] Try.func45 rfl Try.ntmps45 rfl rfl .nil ?_
  refine cj_seqF fun K1 hK1 => ?_
  refine cj_reg ?_
  refine j_boxA (vs := [_, _]) rfl rfl fun b1 => ?_
  refine j_val rfl (fun a w ha => r_assign rfl ha) ?_
  refine j_nil ?_
  refine ej_then (hK1 _ _ _ ?_); clear hK1
  refine CJ.sub (e' := [(1, _)]) ⟨rfl, trivial⟩ ?_
  refine cj_seqF fun K2 hK2 => ?_
  refine cj_seqF fun K3 hK3 => ?_
  refine cj_reg ?_
  refine j_val rfl (fun a w ha => r_fl (q := 0) (ft := 9) Try.runUnderlying94 rfl Try.sizeOf9 rfl ha) ?_
  refine j_valw rfl (fun a w ha hH hf => r_ldH 0 rfl rfl Try.isAgg9 rfl rfl ha hH) ?_
  refine j_val rfl (fun a w ha => r_slen Try.runUnderlying9 rfl ha) ?_
  refine j_val rfl (fun a w ha => r_gtr rfl rfl ha) ?_
  refine j_nil ?_
  refine ej_then (hK3 _ _ _ ?_); clear hK3
  refine CJ.sub (e' := [(1, _), (6, _)]) ⟨rfl, rfl, trivial⟩ ?_
  refine cj_dec rfl (fun _ => ?_) (fun _ => ?_)
  · refine cj_seqF fun K4 hK4 => ?_
    refine cj_reg ?_
    refine j_val rfl (fun a w ha => r_assign rfl ha) ?_
    refine j_nil ?_
    refine ej_then (hK4 _ _ _ ?_); clear hK4
    refine CJ.sub (e' := [(2, _)]) ⟨rfl, trivial⟩ ?_
    refine cj_ret (ej_then_ret (?_))
    exact ej_ret1 Try.results45 rfl fun w' hH hf => ⟨⟨_, rfl⟩, hf⟩
  · refine cj_skip (ej_then (hK2 _ _ _ ?_)); clear hK2
    refine CJ.sub (e' := [(1, _)]) ⟨rfl, trivial⟩ ?_
    refine cj_seqF fun K5 hK5 => ?_
    refine cj_seqF fun K6 hK6 => ?_
    refine cj_reg ?_
    refine j_val rfl (fun a w ha => r_fl (q := 1) (ft := 47) Try.runUnderlying94 rfl Try.sizeOf47 rfl ha) ?_
    refine j_valw rfl (fun a w ha hH hf => r_ldH 0 rfl rfl Try.isAgg47 rfl rfl ha hH) ?_
    refine j_val rfl (fun a w ha => r_len Try.runUnderlying47 rfl ha) ?_
    refine j_val rfl (fun a w ha => r_gtr rfl rfl ha) ?_
    refine j_nil ?_
    refine ej_then (hK6 _ _ _ ?_); clear hK6
    refine CJ.sub (e' := [(10, _)]) ⟨rfl, trivial⟩ ?_
    refine cj_dec rfl (fun _ => ?_) (fun _ => ?_)
    · refine cj_seqF fun K7 hK7 => ?_
      refine cj_reg ?_
      refine j_val rfl (fun a w ha => r_assign rfl ha) ?_
      refine j_nil ?_
      refine ej_then (hK7 _ _ _ ?_); clear hK7
      refine CJ.sub (e' := [(2, _)]) ⟨rfl, trivial⟩ ?_
      refine cj_ret (ej_then_ret (?_))
      exact ej_ret1 Try.results45 rfl fun w' hH hf => ⟨⟨_, rfl⟩, hf⟩
    · refine cj_skip (ej_then (hK5 _ _ _ ?_)); clear hK5
      refine CJ.sub (e' := []) trivial ?_
      refine cj_seqF fun K8 hK8 => ?_
      refine cj_reg ?_
      refine j_val rfl (fun a w ha => r_assign rfl ha) ?_
      refine j_nil ?_
      refine ej_then (hK8 _ _ _ ?_); clear hK8
      refine CJ.sub (e' := [(2, _)]) ⟨rfl, trivial⟩ ?_
      refine cj_ret (?_)
      exact ej_ret1 Try.results45 rfl fun w' hH hf => ⟨⟨_, rfl⟩, hf⟩
theorem zzFits9_c (w : World) (v : Value) (xs : List PNums) (h : Lay RNums 2 w v xs) : Calls Try.prog 35 #[v] w (Ret fun v w' => (∃ b, v = .bool b ∧ (b = true → xs.length ≤ 2147483647)) ∧ Fr 0 [] w w') := by
  obtain ⟨p, c, rfl, hl, hx⟩ := h.open
  refine startJ (args := [_]) [(0, _)] 0 [] [] Try.func35 rfl Try.ntmps35 rfl rfl .nil ?_
  refine cj_seqF fun K1 hK1 => ?_
  refine cj_reg ?_
  refine j_val rfl (fun a w ha => r_assign rfl ha) ?_
  refine j_nil ?_
  refine ej_then (hK1 _ _ _ ?_); clear hK1
  refine CJ.sub (e' := [(0, _)]) ⟨rfl, trivial⟩ ?_
  refine cj_seqF fun K2 hK2 => ?_
  refine cj_seqF fun K3 hK3 => ?_
  refine cj_reg ?_
  refine j_val rfl (fun a w ha => r_move rfl ha) ?_
  refine j_val rfl (fun a w ha => r_len Try.runUnderlying49 rfl ha) ?_
  refine j_val rfl (fun a w ha => r_gtr rfl rfl ha) ?_
  refine j_nil ?_
  refine ej_then (hK3 _ _ _ ?_); clear hK3
  refine CJ.sub (e' := [(0, _), (7, _)]) ⟨rfl, rfl, trivial⟩ ?_
  refine cj_dec rfl (fun hbig => ?_) (fun hbig => ?_)
  · refine cj_seqF fun K4 hK4 => ?_
    refine cj_reg ?_
    refine j_val rfl (fun a w ha => r_assign rfl ha) ?_
    refine j_nil ?_
    refine ej_then (hK4 _ _ _ ?_); clear hK4
    refine CJ.sub (e' := [(2, _)]) ⟨rfl, trivial⟩ ?_
    refine cj_ret (ej_then_ret (?_))
    exact ej_ret1 Try.results35 rfl fun w' hH hf => ⟨⟨_, rfl, by first | (intro h; exact absurd h (by decide)) | (intro _; omega)⟩, hf⟩
  · refine cj_skip (ej_then (hK2 _ _ _ ?_)); clear hK2
    refine CJ.sub (e' := [(0, _)]) ⟨rfl, trivial⟩ ?_
    refine cj_seqF fun K5 hK5 => ?_
    refine cj_seqF fun K6 hK6 => ?_
    refine cj_reg ?_
    refine j_val rfl (fun a w ha => r_move rfl ha) ?_
    refine j_val rfl (fun a w ha => r_len Try.runUnderlying49 rfl ha) ?_
    refine j_val rfl (fun a w ha => r_move rfl ha) ?_
    refine j_nil ?_
    refine ej_then (hK6 _ _ _ ?_); clear hK6
    refine CJ.sub (e' := [(8, _), (9, _), (10, _)]) ⟨rfl, rfl, rfl, trivial⟩ ?_
    refine cj_block ?_
    -- LOOP 0 live [8, 9, 10]
    refine cj_loop (σ := Nat) (fun k => [(8, .slice p xs.length c), (9, .int .i64 (xs.length : Nat)), (10, .int .i64 (k : Nat))]) (fun _ => []) (fun k _ => k ≤ xs.length) (fun k => xs.length - k) 0 ⟨rfl, rfl, rfl, trivial⟩ (fun w hH hf => ⟨.nil, Nat.zero_le _⟩) ?_
    intro k w1 hk hf1 hH1 KL hKL
    refine C.begin _ [] hf1 .nil ?_
    refine cj_seqF fun K7 hK7 => ?_
    refine cj_reg ?_
    refine j_val rfl (fun a w ha => r_lss rfl rfl ha) ?_
    refine j_nil ?_
    refine ej_then (hK7 _ _ _ ?_); clear hK7
    refine CJ.sub (e' := [(8, _), (9, _), (10, _), (11, _)]) ⟨rfl, rfl, rfl, rfl, trivial⟩ ?_
    refine cj_seqF fun K8 hK8 => ?_
    refine cj_dec rfl (fun hlt => ?_) (fun hlt => ?_)
    · have hlt' : k < xs.length := by omega
      obtain ⟨b, o, cs, rfl, hcs, hR, hcell⟩ := hx k xs[k] (List.getElem?_eq_getElem hlt')
      have hR' := hR
      obtain ⟨la, rfl, hla⟩ := hR
      obtain ⟨p1, c1, rfl, hl1, -⟩ := hla.open
      refine cj_skip (ej_then (hK8 _ _ _ ?_)); clear hK8
      refine CJ.sub (e' := [(8, _), (9, _), (10, _)]) ⟨rfl, rfl, rfl, trivial⟩ ?_
      refine cj_seqF fun K9 hK9 => ?_
      refine cj_block ?_
      refine cj_seqF fun K10 hK10 => ?_
      refine cj_reg ?_
      refine j_val rfl (fun a w ha => r_idx Try.runUnderlying49 Try.sizeOf94 rfl rfl (by omega) ha) ?_
      refine j_valw rfl (fun a w ha hH hf => r_loadA Try.isAgg94 Try.sizeOf94 rfl rfl (hcell w (hf.keepAll (.inr rfl))) ha) ?_
      refine j_allocA (zs := [(.string ⟨#[]⟩), (.slice none 0 0)]) Try.zeroValue94 rfl fun b4 => ?_
      refine j_storeN (cs' := [_, _]) (H' := [_]) 0 rfl rfl rfl rfl Try.sizeOf94 rfl rfl rfl rfl rfl rfl rfl ?_
      refine j_nil ?_
      refine ej_then (hK10 _ _ _ ?_); clear hK10
      refine CJ.sub (e' := [(4, _), (8, _), (9, _), (10, _)]) ⟨rfl, rfl, rfl, rfl, trivial⟩ ?_
      refine cj_seqF fun K11 hK11 => ?_
      refine cj_reg ?_
      refine j_valw rfl (fun a w ha hH hf => r_ldA (vs := [_, _]) 0 rfl rfl Try.isAgg94 Try.sizeOf94 rfl rfl rfl ha hH) ?_
      refine j_callQ (φ := fun v => ∃ b, v = .bool b) Try.call45 rfl rfl (fun w hH hf => zzFits10_c w _ _ (RNums.keep (hf.keepAll (.inr rfl)) _ _ hR')) ?_
      rintro _ ⟨b15, rfl⟩
      refine j_val rfl (fun a w ha => r_not rfl ha) ?_
      refine j_nil ?_
      refine ej_then (hK11 _ _ _ ?_); clear hK11
      refine CJ.sub (e' := [(8, _), (9, _), (10, _), (16, _)]) ⟨rfl, rfl, rfl, rfl, trivial⟩ ?_
      refine cj_if rfl (fun _ => ?_) (fun _ => ?_)
      · refine cj_seqF fun K12 hK12 => ?_
        refine cj_reg ?_
        refine j_val rfl (fun a w ha => r_assign rfl ha) ?_
        refine j_nil ?_
        refine ej_then (hK12 _ _ _ ?_); clear hK12
        refine CJ.sub (e' := [(2, _)]) ⟨rfl, trivial⟩ ?_
        refine cj_ret (ej_blk_ret (ej_then_ret (ej_then_ret (ej_blk_ret (ej_then_ret (?_))))))
        exact ej_ret1 Try.results35 rfl fun w' hH hf => ⟨⟨_, rfl, by first | (intro h; exact absurd h (by decide)) | (intro _; omega)⟩, hf⟩
      · refine cj_skip (ej_blk (ej_then (hK9 _ _ _ ?_))); clear hK9
        refine CJ.sub (e' := [(8, _), (9, _), (10, _)]) ⟨rfl, rfl, rfl, trivial⟩ ?_
        refine cj_reg ?_
        refine j_val rfl (fun a w ha => r_inc (by omega) rfl rfl ha) ?_
        refine j_val rfl (fun a w ha => r_move rfl ha) ?_
        refine j_nil ?_
        refine ej_then ?_
        exact fun w hH hf => hKL (k + 1) _ w hlt' hf .nil (by omega) ⟨rfl, rfl, rfl, trivial⟩
    · refine cj_exit (ej_then_exit (ej_then_exit (ej_blk_hit (ej_then (hK5 _ _ _ ?_))))); clear hK5
      refine CJ.sub (e' := []) trivial ?_
      refine cj_seqF fun K13 hK13 => ?_
      refine cj_reg ?_
      refine j_val rfl (fun a w ha => r_assign rfl ha) ?_
      refine j_nil ?_
      refine ej_then (hK13 _ _ _ ?_); clear hK13
      refine CJ.sub (e' := [(2, _)]) ⟨rfl, trivial⟩ ?_
      refine cj_ret (?_)
      exact ej_ret1 Try.results35 rfl fun w' hH hf => ⟨⟨_, rfl, by first | (intro h; exact absurd h (by decide)) | (intro _; omega)⟩, hf⟩
theorem zzFits5_c (w : World) (cs : List Value) (x : PSample) (h : RSample w cs x) : Calls Try.prog 21 #[.agg cs.toArray] w (Ret fun v w' => (∃ b, v = .bool b) ∧ Fr 0 [] w w') := by
  obtain ⟨la, lb, lt, lu, rfl, hla, hlb, hlt, hlu⟩ := h
  obtain ⟨p1, c1, rfl, hl1, -⟩ := hla.open
  obtain ⟨p2, c2, rfl, hl2, -⟩ := hlb.open
  refine startJ (args := [_]) [(0, _)] 0 [] [] Try.func21 rfl Try.ntmps21 rfl rfl .nil ?_
  refine cj_seqF fun K1 hK1 => ?_
  refine cj_reg ?_
  refine j_boxA (vs := [_, _, _, _]) rfl rfl fun b1 => ?_
  refine j_val rfl (fun a w ha => r_assign rfl ha) ?_
  refine j_nil ?_
  refine ej_then (hK1 _ _ _ ?_); clear hK1
  refine CJ.sub (e' := [(1, _)]) ⟨rfl, trivial⟩ ?_
  refine cj_seqF fun K2 hK2 => ?_
  refine cj_seqF fun K3 hK3 => ?_
  refine cj_reg ?_
  refine j_val rfl (fun a w ha => r_fl (q := 0) (ft := 46) Try.runUnderlying51 rfl Try.sizeOf46 rfl ha) ?_
  refine j_valw rfl (fun a w ha hH hf => r_ldH 0 rfl rfl Try.isAgg46 rfl rfl ha hH) ?_
  refine j_val rfl (fun a w ha => r_len Try.runUnderlying46 rfl ha) ?_
  refine j_val rfl (fun a w ha => r_gtr rfl rfl ha) ?_
  refine j_nil ?_
  refine ej_then (hK3 _ _ _ ?_); clear hK3
  refine CJ.sub (e' := [(1, _), (6, _)]) ⟨rfl, rfl, trivial⟩ ?_
  refine cj_dec rfl (fun _ => ?_) (fun _ => ?_)
  · refine cj_seqF fun K4 hK4 => ?_
    refine cj_reg ?_
    refine j_val rfl (fun a w ha => r_assign rfl ha) ?_
    refine j_nil ?_
    refine ej_then (hK4 _ _ _ ?_); clear hK4
    refine CJ.sub (e' := [(2, _)]) ⟨rfl, trivial⟩ ?_
    refine cj_ret (ej_then_ret (?_))
    exact ej_ret1 Try.results21 rfl fun w' hH hf => ⟨⟨_, rfl⟩, hf⟩
  · refine cj_skip (ej_then (hK2 _ _ _ ?_)); clear hK2
    refine CJ.sub (e' := [(1, _)]) ⟨rfl, trivial⟩ ?_
    refine cj_seqF fun K5 hK5 => ?_
    refine cj_seqF fun K6 hK6 => ?_
    refine cj_reg ?_
    refine j_val rfl (fun a w ha => r_fl (q := 1) (ft := 47) Try.runUnderlying51 rfl Try.sizeOf47 rfl ha) ?_
    refine j_valw rfl (fun a w ha hH hf => r_ldH 0 rfl rfl Try.isAgg47 rfl rfl ha hH) ?_
    refine j_val rfl (fun a w ha => r_len Try.runUnderlying47 rfl ha) ?_
    refine j_val rfl (fun a w ha => r_gtr rfl rfl ha) ?_
    refine j_nil ?_
    refine ej_then (hK6 _ _ _ ?_); clear hK6
    refine CJ.sub (e' := [(1, _), (10, _)]) ⟨rfl, rfl, trivial⟩ ?_
    refine cj_dec rfl (fun _ => ?_) (fun _ => ?_)
    · refine cj_seqF fun K7 hK7 => ?_
      refine cj_reg ?_
      refine j_val rfl (fun a w ha => r_assign rfl ha) ?_
      refine j_nil ?_
      refine ej_then (hK7 _ _ _ ?_); clear hK7
      refine CJ.sub (e' := [(2, _)]) ⟨rfl, trivial⟩ ?_
      refine cj_ret (ej_then_ret (?_))
      exact ej_ret1 Try.results21 rfl fun w' hH hf => ⟨⟨_, rfl⟩, hf⟩
    · refine cj_skip (ej_then (hK5 _ _ _ ?_)); clear hK5
      refine CJ.sub (e' := [(1, _)]) ⟨rfl, trivial⟩ ?_
      refine cj_seqF fun K8 hK8 => ?_
      refine cj_seqF fun K9 hK9 => ?_
      refine cj_reg ?_
      refine j_val rfl (fun a w ha => r_fl (q := 2) (ft := 48) Try.runUnderlying51 rfl Try.sizeOf48 rfl ha) ?_
      refine j_valw rfl (fun a w ha hH hf => r_ldH 0 rfl rfl Try.isAgg48 rfl rfl ha hH) ?_
      refine j_callQ (φ := fun v => ∃ b, v = .bool b ∧ (b = true → x.texts.length ≤ 2147483647)) Try.call34 rfl rfl (fun w hH hf => zzFits6_c w _ _ (hlt.keep (RTexts.keep (hf.keepAll (.inr rfl))) (hf.keepAll (.inr rfl)))) ?_
      rintro _ ⟨b13, rfl, hb13⟩
      refine j_val rfl (fun a w ha => r_not rfl ha) ?_
      refine j_nil ?_
      refine ej_then (hK9 _ _ _ ?_); clear hK9
      refine CJ.sub (e' := [(1, _), (14, _)]) ⟨rfl, rfl, trivial⟩ ?_
      refine cj_if rfl (fun _ => ?_) (fun _ => ?_)
      · refine cj_seqF fun K10 hK10 => ?_
        refine cj_reg ?_
        refine j_val rfl (fun a w ha => r_assign rfl ha) ?_
        refine j_nil ?_
        refine ej_then (hK10 _ _ _ ?_); clear hK10
        refine CJ.sub (e' := [(2, _)]) ⟨rfl, trivial⟩ ?_
        refine cj_ret (ej_then_ret (?_))
        exact ej_ret1 Try.results21 rfl fun w' hH hf => ⟨⟨_, rfl⟩, hf⟩
      · refine cj_skip (ej_then (hK8 _ _ _ ?_)); clear hK8
        refine CJ.sub (e' := [(1, _)]) ⟨rfl, trivial⟩ ?_
        refine cj_seqF fun K11 hK11 => ?_
        refine cj_seqF fun K12 hK12 => ?_
        refine cj_reg ?_
        refine j_val rfl (fun a w ha => r_fl (q := 3) (ft := 49) Try.runUnderlying51 rfl Try.sizeOf49 rfl ha) ?_
        refine j_valw rfl (fun a w ha hH hf => r_ldH 0 rfl rfl Try.isAgg49 rfl rfl ha hH) ?_
        refine j_callQ (φ := fun v => ∃ b, v = .bool b ∧ (b = true → x.nums.length ≤ 2147483647)) Try.call35 rfl rfl (fun w hH hf => zzFits9_c w _ _ (hlu.keep (RNums.keep (hf.keepAll (.inr rfl))) (hf.keepAll (.inr rfl)))) ?_
        rintro _ ⟨b17, rfl, hb17⟩
        refine j_val rfl (fun a w ha => r_not rfl ha) ?_
        refine j_nil ?_
        refine ej_then (hK12 _ _ _ ?_); clear hK12
        refine CJ.sub (e' := [(18, _)]) ⟨rfl, trivial⟩ ?_
        refine cj_if rfl (fun _ => ?_) (fun _ => ?_)
        · refine cj_seqF fun K13 hK13 => ?_
          refine cj_reg ?_
          refine j_val rfl (fun a w ha => r_assign rfl ha) ?_
          refine j_nil ?_
          refine ej_then (hK13 _ _ _ ?_); clear hK13
          refine CJ.sub (e' := [(2, _)]) ⟨rfl, trivial⟩ ?_
          refine cj_ret (ej_then_ret (?_))
          exact ej_ret1 Try.results21 rfl fun w' hH hf => ⟨⟨_, rfl⟩, hf⟩
        · refine cj_skip (ej_then (hK11 _ _ _ ?_)); clear hK11
          refine CJ.sub (e' := []) trivial ?_
          refine cj_seqF fun K14 hK14 => ?_
          refine cj_reg ?_
          refine j_val rfl (fun a w ha => r_assign rfl ha) ?_
          refine j_nil ?_
          refine ej_then (hK14 _ _ _ ?_); clear hK14
          refine CJ.sub (e' := [(2, _)]) ⟨rfl, trivial⟩ ?_
          refine cj_ret (?_)
          exact ej_ret1 Try.results21 rfl fun w' hH hf => ⟨⟨_, rfl⟩, hf⟩
theorem zzFits4_c (w : World) (v : Value) (xs : List PSample) (h : Lay RSample 4 w v xs) : Calls Try.prog 10 #[v] w (Ret fun v w' => (∃ b, v = .bool b ∧ (b = true → xs.length ≤ 2147483647)) ∧ Fr 0 [] w w') := by
  obtain ⟨p, c, rfl, hl, hx⟩ := h.open
  refine startJ (args := [_]) [(0, _)] 0 [] [] Try.func10 rfl Try.ntmps10 rfl rfl .nil ?_
  refine cj_seqF fun K1 hK1 => ?_
  refine cj_reg ?_
  refine j_val rfl (fun a w ha => r_assign rfl ha) ?_
  refine j_nil ?_
  refine ej_then (hK1 _ _ _ ?_); clear hK1
  refine CJ.sub (e' := [(0, _)]) ⟨rfl, trivial⟩ ?_
  refine cj_seqF fun K2 hK2 => ?_
  refine cj_seqF fun K3 hK3 => ?_
  refine cj_reg ?_
  refine j_val rfl (fun a w ha => r_move rfl ha) ?_
  refine j_val rfl (fun a w ha => r_len Try.runUnderlying23 rfl ha) ?_
  refine j_val rfl (fun a w ha => r_gtr rfl rfl ha) ?_
  refine j_nil ?_
  refine ej_then (hK3 _ _ _ ?_); clear hK3
  refine CJ.sub (e' := [(0, _), (7, _)]) ⟨rfl, rfl, trivial⟩ ?_
  refine cj_dec rfl (fun hbig => ?_) (fun hbig => ?_)
  · refine cj_seqF fun K4 hK4 => ?_
    refine cj_reg ?_
    refine j_val rfl (fun a w ha => r_assign rfl ha) ?_
    refine j_nil ?_
    refine ej_then (hK4 _ _ _ ?_); clear hK4
    refine CJ.sub (e' := [(2, _)]) ⟨rfl, trivial⟩ ?_
    refine cj_ret (ej_then_ret (?_))
    exact ej_ret1 Try.results10 rfl fun w' hH hf => ⟨⟨_, rfl, by first | (intro h; exact absurd h (by decide)) | (intro _; omega)⟩, hf⟩
  · refine cj_skip (ej_then (hK2 _ _ _ ?_)); clear hK2
    refine CJ.sub (e' := [(0, _)]) ⟨rfl, trivial⟩ ?_
    refine cj_seqF fun K5 hK5 => ?_
    refine cj_seqF fun K6 hK6 => ?_
    refine cj_reg ?_
    refine j_val rfl (fun a w ha => r_move rfl ha) ?_
    refine j_val rfl (fun a w ha => r_len Try.runUnderlying23 rfl ha) ?_
    refine j_val rfl (fun a w ha => r_move rfl ha) ?_
    refine j_nil ?_
    refine ej_then (hK6 _ _ _ ?_); clear hK6
    refine CJ.sub (e' := [(8, _), (9, _), (10, _)]) ⟨rfl, rfl, rfl, trivial⟩ ?_
    refine cj_block ?_
    -- LOOP 0 live [8, 9, 10]
    refine cj_loop (σ := Nat) (fun k => [(8, .slice p xs.length c), (9, .int .i64 (xs.length : Nat)), (10, .int .i64 (k : Nat))]) (fun _ => []) (fun k _ => k ≤ xs.length) (fun k => xs.length - k) 0 ⟨rfl, rfl, rfl, trivial⟩ (fun w hH hf => ⟨.nil, Nat.zero_le _⟩) ?_
    intro k w1 hk hf1 hH1 KL hKL
    refine C.begin _ [] hf1 .nil ?_
    refine cj_seqF fun K7 hK7 => ?_
    refine cj_reg ?_
    refine j_val rfl (fun a w ha => r_lss rfl rfl ha) ?_
    refine j_nil ?_
    refine ej_then (hK7 _ _ _ ?_); clear hK7
    refine CJ.sub (e' := [(8, _), (9, _), (10, _), (11, _)]) ⟨rfl, rfl, rfl, rfl, trivial⟩ ?_
    refine cj_seqF fun K8 hK8 => ?_
    refine cj_dec rfl (fun hlt => ?_) (fun hlt => ?_)
    · have hlt' : k < xs.length := by omega
      obtain ⟨b, o, cs, rfl, hcs, hR, hcell⟩ := hx k xs[k] (List.getElem?_eq_getElem hlt')
      have hR' := hR
      obtain ⟨la, lb, lt, lu, rfl, hla, hlb, hlt2, hlu⟩ := hR
      obtain ⟨p1, c1, rfl, hl1, -⟩ := hla.open
      obtain ⟨p2, c2, rfl, hl2, -⟩ := hlb.open
      obtain ⟨p3, c3, rfl, hl3, -⟩ := hlt2.open
      obtain ⟨p4, c4, rfl, hl4, -⟩ := hlu.open
      refine cj_skip (ej_then (hK8 _ _ _ ?_)); clear hK8
      refine CJ.sub (e' := [(8, _), (9, _), (10, _)]) ⟨rfl, rfl, rfl, trivial⟩ ?_
      refine cj_seqF fun K9 hK9 => ?_
      refine cj_block ?_
      refine cj_seqF fun K10 hK10 => ?_
      refine cj_reg ?_
      refine j_val rfl (fun a w ha => r_idx Try.runUnderlying23 Try.sizeOf51 rfl rfl (by omega) ha) ?_
      refine j_valw rfl (fun a w ha hH hf => r_loadA Try.isAgg51 Try.sizeOf51 rfl rfl (hcell w (hf.keepAll (.inr rfl))) ha) ?_
      refine j_allocA (zs := [(.slice none 0 0), (.slice none 0 0), (.slice none 0 0), (.slice none 0 0)]) Try.zeroValue51 rfl fun b4 => ?_
      refine j_storeN (cs' := [_, _, _, _]) (H' := [_]) 0 rfl rfl rfl rfl Try.sizeOf51 rfl rfl rfl rfl rfl rfl rfl ?_
      refine j_nil ?_
      refine ej_then (hK10 _ _ _ ?_); clear hK10
      refine CJ.sub (e' := [(4, _), (8, _), (9, _), (10, _)]) ⟨rfl, rfl, rfl, rfl, trivial⟩ ?_
      refine cj_seqF fun K11 hK11 => ?_
      refine cj_reg ?_
      refine j_valw rfl (fun a w ha hH hf => r_ldA (vs := [_, _, _, _]) 0 rfl rfl Try.isAgg51 Try.sizeOf51 rfl rfl rfl ha hH) ?_
      refine j_callQ (φ := fun v => ∃ b, v = .bool b) Try.call21 rfl rfl (fun w hH hf => zzFits5_c w _ _ (RSample.keep (hf.keepAll (.inr rfl)) _ _ hR')) ?_
      rintro _ ⟨b15, rfl⟩
      refine j_val rfl (fun a w ha => r_not rfl ha) ?_
      refine j_nil ?_
      refine ej_then (hK11 _ _ _ ?_); clear hK11
      refine CJ.sub (e' := [(8, _), (9, _), (10, _), (16, _)]) ⟨rfl, rfl, rfl, rfl, trivial⟩ ?_
      refine cj_if rfl (fun _ => ?_) (fun _ => ?_)
      · refine cj_seqF fun K12 hK12 => ?_
        refine cj_reg ?_
        refine j_val rfl (fun a w ha => r_assign rfl ha) ?_
        refine j_nil ?_
        refine ej_then (hK12 _ _ _ ?_); clear hK12
        refine CJ.sub (e' := [(2, _)]) ⟨rfl, trivial⟩ ?_
        refine cj_ret (ej_blk_ret (ej_then_ret (ej_then_ret (ej_blk_ret (ej_then_ret (?_))))))
        exact ej_ret1 Try.results10 rfl fun w' hH hf => ⟨⟨_, rfl, by first | (intro h; exact absurd h (by decide)) | (intro _; omega)⟩, hf⟩
      · refine cj_skip (ej_blk (ej_then (hK9 _ _ _ ?_))); clear hK9
        refine CJ.sub (e' := [(8, _), (9, _), (10, _)]) ⟨rfl, rfl, rfl, trivial⟩ ?_
        refine cj_reg ?_
        refine j_val rfl (fun a w ha => r_inc (by omega) rfl rfl ha) ?_
        refine j_val rfl (fun a w ha => r_move rfl ha) ?_
        refine j_nil ?_
        refine ej_then ?_
        exact fun w hH hf => hKL (k + 1) _ w hlt' hf .nil (by omega) ⟨rfl, rfl, rfl, trivial⟩
    · refine cj_exit (ej_then_exit (ej_then_exit (ej_blk_hit (ej_then (hK5 _ _ _ ?_))))); clear hK5
      refine CJ.sub (e' := []) trivial ?_
      refine cj_seqF fun K13 hK13 => ?_
      refine cj_reg ?_
      refine j_val rfl (fun a w ha => r_assign rfl ha) ?_
      refine j_nil ?_
      refine ej_then (hK13 _ _ _ ?_); clear hK13
      refine CJ.sub (e' := [(2, _)]) ⟨rfl, trivial⟩ ?_
      refine cj_ret (?_)
      exact ej_ret1 Try.results10 rfl fun w' hH hf => ⟨⟨_, rfl, by first | (intro h; exact absurd h (by decide)) | (intro _; omega)⟩, hf⟩
theorem zzFits12_c (w : World) (cs : List Value) (x : PMapping) (h : RMapping w cs x) : Calls Try.prog 22 #[.agg cs.toArray] w (Ret fun v w' => (∃ b, v = .bool b) ∧ Fr 0 [] w w') := by
  obtain ⟨rfl, -⟩ := h
  refine startJ (args := [_]) [(0, _)] 0 [] [] Try.func22 rfl Try.ntmps22 rfl rfl .nil ?_
  refine cj_seqF fun K1 hK1 => ?_
  refine cj_reg ?_
  refine j_boxA (vs := [_, _, _, _, _, _, _, _, _, _]) rfl rfl fun b1 => ?_
  refine j_val rfl (fun a w ha => r_assign rfl ha) ?_
  refine j_nil ?_
  refine ej_then (hK1 _ _ _ ?_); clear hK1
  refine CJ.sub (e' := [(1, _)]) ⟨rfl, trivial⟩ ?_
  refine cj_seqF fun K2 hK2 => ?_
  refine cj_seqF fun K3 hK3 => ?_
  refine cj_reg ?_
  refine j_val rfl (fun a w ha => r_fl (q := 4) (ft := 9) Try.runUnderlying86 rfl Try.sizeOf9 rfl ha) ?_
  refine j_valw rfl (fun a w ha hH hf => r_ldH 0 rfl rfl Try.isAgg9 rfl rfl ha hH) ?_
  refine j_val rfl (fun a w ha => r_slen Try.runUnderlying9 rfl ha) ?_
  refine j_val rfl (fun a w ha => r_gtr rfl rfl ha) ?_
  refine j_nil ?_
  refine ej_then (hK3 _ _ _ ?_); clear hK3
  refine CJ.sub (e' := [(1, _), (6, _)]) ⟨rfl, rfl, trivial⟩ ?_
  refine cj_dec rfl (fun _ => ?_) (fun _ => ?_)
  · refine cj_seqF fun K4 hK4 => ?_
    refine cj_reg ?_
    refine j_val rfl (fun a w ha => r_assign rfl ha) ?_
    refine j_nil ?_
    refine ej_then (hK4 _ _ _ ?_); clear hK4
    refine CJ.sub (e' := [(2, _)]) ⟨rfl, trivial⟩ ?_
    refine cj_ret (ej_then_ret (?_))
    exact ej_ret1 Try.results22 rfl fun w' hH hf => ⟨⟨_, rfl⟩, hf⟩
  · refine cj_skip (ej_then (hK2 _ _ _ ?_)); clear hK2
    refine CJ.sub (e' := [(1, _)]) ⟨rfl, trivial⟩ ?_
    refine cj_seqF fun K5 hK5 => ?_
    refine cj_seqF fun K6 hK6 => ?_
    refine cj_reg ?_
    refine j_val rfl (fun a w ha => r_fl (q := 5) (ft := 9) Try.runUnderlying86 rfl Try.sizeOf9 rfl ha) ?_
    refine j_valw rfl (fun a w ha hH hf => r_ldH 0 rfl rfl Try.isAgg9 rfl rfl ha hH) ?_
    refine j_val rfl (fun a w ha => r_slen Try.runUnderlying9 rfl ha) ?_
    refine j_val rfl (fun a w ha => r_gtr rfl rfl ha) ?_
    refine j_nil ?_
    refine ej_then (hK6 _ _ _ ?_); clear hK6
    refine CJ.sub (e' := [(10, _)]) ⟨rfl, trivial⟩ ?_
    refine cj_dec rfl (fun _ => ?_) (fun _ => ?_)
    · refine cj_seqF fun K7 hK7 => ?_
      refine cj_reg ?_
      refine j_val rfl (fun a w ha => r_assign rfl ha) ?_
      refine j_nil ?_
      refine ej_then (hK7 _ _ _ ?_); clear hK7
      refine CJ.sub (e' := [(2, _)]) ⟨rfl, trivial⟩ ?_
      refine cj_ret (ej_then_ret (?_))
      exact ej_ret1 Try.results22 rfl fun w' hH hf => ⟨⟨_, rfl⟩, hf⟩
    · refine cj_skip (ej_then (hK5 _ _ _ ?_)); clear hK5
      refine CJ.sub (e' := []) trivial ?_
      refine cj_seqF fun K8 hK8 => ?_
      refine cj_reg ?_
      refine j_val rfl (fun a w ha => r_assign rfl ha) ?_
      refine j_nil ?_
      refine ej_then (hK8 _ _ _ ?_); clear hK8
      refine CJ.sub (e' := [(2, _)]) ⟨rfl, trivial⟩ ?_
      refine cj_ret (?_)
      exact ej_ret1 Try.results22 rfl fun w' hH hf => ⟨⟨_, rfl⟩, hf⟩
theorem zzFits11_c (w : World) (v : Value) (xs : List PMapping) (h : Lay RMapping 10 w v xs) : Calls Try.prog 11 #[v] w (Ret fun v w' => (∃ b, v = .bool b ∧ (b = true → xs.length ≤ 2147483647)) ∧ Fr 0 [] w w') := by
  obtain ⟨p, c, rfl, hl, hx⟩ := h.open
  refine startJ (args := [_]) [(0, _)] 0 [] [] Try.func11 rfl Try.ntmps11 rfl rfl .nil ?_
  refine cj_seqF fun K1 hK1 => ?_
  refine cj_reg ?_
  refine j_val rfl (fun a w ha => r_assign rfl ha) ?_
  refine j_nil ?_
  refine ej_then (hK1 _ _ _ ?_); clear hK1
  refine CJ.sub (e' := [(0, _)]) ⟨rfl, trivial⟩ ?_
  refine cj_seqF fun K2 hK2 => ?_
  refine cj_seqF fun K3 hK3 => ?_
  refine cj_reg ?_
  refine j_val rfl (fun a w ha => r_move rfl ha) ?_
  refine j_val rfl (fun a w ha => r_len Try.runUnderlying24 rfl ha) ?_
  refine j_val rfl (fun a w ha => r_gtr rfl rfl ha) ?_
  refine j_nil ?_
  refine ej_then (hK3 _ _ _ ?_); clear hK3
  refine CJ.sub (e' := [(0, _), (7, _)]) ⟨rfl, rfl, trivial⟩ ?_
  refine cj_dec rfl (fun hbig => ?_) (fun hbig => ?_)
  · refine cj_seqF fun K4 hK4 => ?_
    refine cj_reg ?_
    refine j_val rfl (fun a w ha => r_assign rfl ha) ?_
    refine j_nil ?_
    refine ej_then (hK4 _ _ _ ?_); clear hK4
    refine CJ.sub (e' := [(2, _)]) ⟨rfl, trivial⟩ ?_
    refine cj_ret (ej_then_ret (?_))
    exact ej_ret1 Try.results11 rfl fun w' hH hf => ⟨⟨_, rfl, by first | (intro h; exact absurd h (by decide)) | (intro _; omega)⟩, hf⟩
  · refine cj_skip (ej_then (hK2 _ _ _ ?_)); clear hK2
    refine CJ.sub (e' := [(0, _)]) ⟨rfl, trivial⟩ ?_
    refine cj_seqF fun K5 hK5 => ?_
    refine cj_seqF fun K6 hK6 => ?_
    refine cj_reg ?_
    refine j_val rfl (fun a w ha => r_move rfl ha) ?_
    refine j_val rfl (fun a w ha => r_len Try.runUnderlying24 rfl ha) ?_
    refine j_val rfl (fun a w ha => r_move rfl ha) ?_
    refine j_nil ?_
    refine ej_then (hK6 _ _ _ ?_); clear hK6
    refine CJ.sub (e' := [(8, _), (9, _), (10, _)]) ⟨rfl, rfl, rfl, trivial⟩ ?_
    refine cj_block ?_
    -- LOOP 0 live [8, 9, 10]
    refine cj_loop (σ := Nat) (fun k => [(8, .slice p xs.length c), (9, .int .i64 (xs.length : Nat)), (10, .int .i64 (k : Nat))]) (fun _ => []) (fun k _ => k ≤ xs.length) (fun k => xs.length - k) 0 ⟨rfl, rfl, rfl, trivial⟩ (fun w hH hf => ⟨.nil, Nat.zero_le _⟩) ?_
    intro k w1 hk hf1 hH1 KL hKL
    refine C.begin _ [] hf1 .nil ?_
    refine cj_seqF fun K7 hK7 => ?_
    refine cj_reg ?_
    refine j_val rfl (fun a w ha => r_lss rfl rfl ha) ?_
    refine j_nil ?_
    refine ej_then (hK7 _ _ _ ?_); clear hK7
    refine CJ.sub (e' := [(8, _), (9, _), (10, _), (11, _)]) ⟨rfl, rfl, rfl, rfl, trivial⟩ ?_
    refine cj_seqF fun K8 hK8 => ?_
    refine cj_dec rfl (fun hlt => ?_) (fun hlt => ?_)
    · have hlt' : k < xs.length := by omega
      obtain ⟨b, o, cs, rfl, hcs, hR, hcell⟩ := hx k xs[k] (List.getElem?_eq_getElem hlt')
      have hR' := hR
      obtain ⟨rfl, -⟩ := hR
      refine cj_skip (ej_then (hK8 _ _ _ ?_)); clear hK8
      refine CJ.sub (e' := [(8, _), (9, _), (10, _)]) ⟨rfl, rfl, rfl, trivial⟩ ?_
      refine cj_seqF fun K9 hK9 => ?_
      refine cj_block ?_
      refine cj_seqF fun K10 hK10 => ?_
      refine cj_reg ?_
      refine j_val rfl (fun a w ha => r_idx Try.runUnderlying24 Try.sizeOf86 rfl rfl (by omega) ha) ?_
      refine j_valw rfl (fun a w ha hH hf => r_loadA Try.isAgg86 Try.sizeOf86 rfl rfl (hcell w (hf.keepAll (.inr rfl))) ha) ?_
      refine j_allocA (zs := [(.int .u64 0), (.int .u64 0), (.int .u64 0), (.int .u64 0), (.string ⟨#[]⟩), (.string ⟨#[]⟩), (.bool false), (.bool false), (.bool false), (.bool false)]) Try.zeroValue86 rfl fun b4 => ?_
      refine j_storeN (cs' := [_, _, _, _, _, _, _, _, _, _]) (H' := [_]) 0 rfl rfl rfl rfl Try.sizeOf86 rfl rfl rfl rfl rfl rfl rfl ?_
      refine j_nil ?_
      refine ej_then (hK10 _ _ _ ?_); clear hK10
      refine CJ.sub (e' := [(4, _), (8, _), (9, _), (10, _)]) ⟨rfl, rfl, rfl, rfl, trivial⟩ ?_
      refine cj_seqF fun K11 hK11 => ?_
      refine cj_reg ?_
      refine j_valw rfl (fun a w ha hH hf => r_ldA (vs := [_, _, _, _, _, _, _, _, _, _]) 0 rfl rfl Try.isAgg86 Try.sizeOf86 rfl rfl rfl ha hH) ?_
      refine j_callQ (φ := fun v => ∃ b, v = .bool b) Try.call22 rfl rfl (fun w hH hf => zzFits12_c w _ _ (RMapping.keep (hf.keepAll (.inr rfl)) _ _ hR')) ?_
      rintro _ ⟨b15, rfl⟩
      refine j_val rfl (fun a w ha => r_not rfl ha) ?_
      refine j_nil ?_
      refine ej_then (hK11 _ _ _ ?_); clear hK11
      refine CJ.sub (e' := [(8, _), (9, _), (10, _), (16, _)]) ⟨rfl, rfl, rfl, rfl, trivial⟩ ?_
      refine cj_if rfl (fun _ => ?_) (fun _ => ?_)
      · refine cj_seqF fun K12 hK12 => ?_
        refine cj_reg ?_
        refine j_val rfl (fun a w ha => r_assign rfl ha) ?_
        refine j_nil ?_
        refine ej_then (hK12 _ _ _ ?_); clear hK12
        refine CJ.sub (e' := [(2, _)]) ⟨rfl, trivial⟩ ?_
        refine cj_ret (ej_blk_ret (ej_then_ret (ej_then_ret (ej_blk_ret (ej_then_ret (?_))))))
        exact ej_ret1 Try.results11 rfl fun w' hH hf => ⟨⟨_, rfl, by first | (intro h; exact absurd h (by decide)) | (intro _; omega)⟩, hf⟩
      · refine cj_skip (ej_blk (ej_then (hK9 _ _ _ ?_))); clear hK9
        refine CJ.sub (e' := [(8, _), (9, _), (10, _)]) ⟨rfl, rfl, rfl, trivial⟩ ?_
        refine cj_reg ?_
        refine j_val rfl (fun a w ha => r_inc (by omega) rfl rfl ha) ?_
        refine j_val rfl (fun a w ha => r_move rfl ha) ?_
        refine j_nil ?_
        refine ej_then ?_
        exact fun w hH hf => hKL (k + 1) _ w hlt' hf .nil (by omega) ⟨rfl, rfl, rfl, trivial⟩
    · refine cj_exit (ej_then_exit (ej_then_exit (ej_blk_hit (ej_then (hK5 _ _ _ ?_))))); clear hK5
      refine CJ.sub (e' := []) trivial ?_
      refine cj_seqF fun K13 hK13 => ?_
      refine cj_reg ?_
      refine j_val rfl (fun a w ha => r_assign rfl ha) ?_
      refine j_nil ?_
      refine ej_then (hK13 _ _ _ ?_); clear hK13
      refine CJ.sub (e' := [(2, _)]) ⟨rfl, trivial⟩ ?_
      refine cj_ret (?_)
      exact ej_ret1 Try.results11 rfl fun w' hH hf => ⟨⟨_, rfl, by first | (intro h; exact absurd h (by decide)) | (intro _; omega)⟩, hf⟩
theorem zzFits14_c (w : World) (cs : List Value) (x : PLoc) (h : RLoc w cs x) : Calls Try.prog 23 #[.agg cs.toArray] w (Ret fun v w' => (∃ b, v = .bool b) ∧ Fr 0 [] w w') := by
  obtain ⟨la, rfl, -, -, -, hla⟩ := h
  obtain ⟨p1, c1, rfl, hl1, -⟩ := hla.open
  refine startJ (args := [_]) [(0, _)] 0 [] [] Try.func23 rfl Try.ntmps23 rfl rfl .nil ?_
  refine cj_seqF fun K1 hK1 => ?_
  refine cj_reg ?_
  refine j_boxA (vs := [_, _, _, _]) rfl rfl fun b1 => ?_
  refine j_val rfl (fun a w ha => r_assign rfl ha) ?_
  refine j_nil ?_
  refine ej_then (hK1 _ _ _ ?_); clear hK1
  refine CJ.sub (e' := [(1, _)]) ⟨rfl, trivial⟩ ?_
  refine cj_seqF fun K2 hK2 => ?_
  refine cj_seqF fun K3 hK3 => ?_
  refine cj_reg ?_
  refine j_val rfl (fun a w ha => r_fl (q := 3) (ft := 78) Try.runUnderlying80 rfl Try.sizeOf78 rfl ha) ?_
  refine j_valw rfl (fun a w ha hH hf => r_ldH 0 rfl rfl Try.isAgg78 rfl rfl ha hH) ?_
  refine j_val rfl (fun a w ha => r_len Try.runUnderlying78 rfl ha) ?_
  refine j_val rfl (fun a w ha => r_gtr rfl rfl ha) ?_
  refine j_nil ?_
  refine ej_then (hK3 _ _ _ ?_); clear hK3
  refine CJ.sub (e' := [(6, _)]) ⟨rfl, trivial⟩ ?_
  refine cj_dec rfl (fun _ => ?_) (fun _ => ?_)
  · refine cj_seqF fun K4 hK4 => ?_
    refine cj_reg ?_
    refine j_val rfl (fun a w ha => r_assign rfl ha) ?_
    refine j_nil ?_
    refine ej_then (hK4 _ _ _ ?_); clear hK4
    refine CJ.sub (e' := [(2, _)]) ⟨rfl, trivial⟩ ?_
    refine cj_ret (ej_then_ret (?_))
    exact ej_ret1 Try.results23 rfl fun w' hH hf => ⟨⟨_, rfl⟩, hf⟩
  · refine cj_skip (ej_then (hK2 _ _ _ ?_)); clear hK2
    refine CJ.sub (e' := []) trivial ?_
    refine cj_seqF fun K5 hK5 => ?_
    refine cj_reg ?_
    refine j_val rfl (fun a w ha => r_assign rfl ha) ?_
    refine j_nil ?_
    refine ej_then (hK5 _ _ _ ?_); clear hK5
    refine CJ.sub (e' := [(2, _)]) ⟨rfl, trivial⟩ ?_
    refine cj_ret (?_)
    exact ej_ret1 Try.results23 rfl fun w' hH hf => ⟨⟨_, rfl⟩, hf⟩
theorem zzFits13_c (w : World) (v : Value) (xs : List PLoc) (h : Lay RLoc 4 w v xs) : Calls Try.prog 12 #[v] w (Ret fun v w' => (∃ b, v = .bool b ∧ (b = true → xs.length ≤ 2147483647)) ∧ Fr 0 [] w w') := by
  obtain ⟨p, c, rfl, hl, hx⟩ := h.open
  refine startJ (args := [_]) [(0, _)] 0 [] [] Try.func12 rfl Try.ntmps12 rfl rfl .nil ?_
  refine cj_seqF fun K1 hK1 => ?_
  refine cj_reg ?_
  refine j_val rfl (fun a w ha => r_assign rfl ha) ?_
  refine j_nil ?_
  refine ej_then (hK1 _ _ _ ?_); clear hK1
  refine CJ.sub (e' := [(0, _)]) ⟨rfl, trivial⟩ ?_
  refine cj_seqF fun K2 hK2 => ?_
  refine cj_seqF fun K3 hK3 => ?_
  refine cj_reg ?_
  refine j_val rfl (fun a w ha => r_move rfl ha) ?_
  refine j_val rfl (fun a w ha => r_len Try.runUnderlying25 rfl ha) ?_
  refine j_val rfl (fun a w ha => r_gtr rfl rfl ha) ?_
  refine j_nil ?_
  refine ej_then (hK3 _ _ _ ?_); clear hK3
  refine CJ.sub (e' := [(0, _), (7, _)]) ⟨rfl, rfl, trivial⟩ ?_
  refine cj_dec rfl (fun hbig => ?_) (fun hbig => ?_)
  · refine cj_seqF fun K4 hK4 => ?_
    refine cj_reg ?_
    refine j_val rfl (fun a w ha => r_assign rfl ha) ?_
    refine j_nil ?_
    refine ej_then (hK4 _ _ _ ?_); clear hK4
    refine CJ.sub (e' := [(2, _)]) ⟨rfl, trivial⟩ ?_
    refine cj_ret (ej_then_ret (?_))
    exact ej_ret1 Try.results12 rfl fun w' hH hf => ⟨⟨_, rfl, by first | (intro h; exact absurd h (by decide)) | (intro _; omega)⟩, hf⟩
  · refine cj_skip (ej_then (hK2 _ _ _ ?_)); clear hK2
    refine CJ.sub (e' := [(0, _)]) ⟨rfl, trivial⟩ ?_
    refine cj_seqF fun K5 hK5 => ?_
    refine cj_seqF fun K6 hK6 => ?_
    refine cj_reg ?_
    refine j_val rfl (fun a w ha => r_move rfl ha) ?_
    refine j_val rfl (fun a w ha => r_len Try.runUnderlying25 rfl ha) ?_
    refine j_val rfl (fun a w ha => r_move rfl ha) ?_
    refine j_nil ?_
    refine ej_then (hK6 _ _ _ ?_); clear hK6
    refine CJ.sub (e' := [(8, _), (9, _), (10, _)]) ⟨rfl, rfl, rfl, trivial⟩ ?_
    refine cj_block ?_
    -- LOOP 0 live [8, 9, 10]
    refine cj_loop (σ := Nat) (fun k => [(8, .slice p xs.length c), (9, .int .i64 (xs.length : Nat)), (10, .int .i64 (k : Nat))]) (fun _ => []) (fun k _ => k ≤ xs.length) (fun k => xs.length - k) 0 ⟨rfl, rfl, rfl, trivial⟩ (fun w hH hf => ⟨.nil, Nat.zero_le _⟩) ?_
    intro k w1 hk hf1 hH1 KL hKL
    refine C.begin _ [] hf1 .nil ?_
    refine cj_seqF fun K7 hK7 => ?_
    refine cj_reg ?_
    refine j_val rfl (fun a w ha => r_lss rfl rfl ha) ?_
    refine j_nil ?_
    refine ej_then (hK7 _ _ _ ?_); clear hK7
    refine CJ.sub (e' := [(8, _), (9, _), (10, _), (11, _)]) ⟨rfl, rfl, rfl, rfl, trivial⟩ ?_
    refine cj_seqF fun K8 hK8 => ?_
    refine cj_dec rfl (fun hlt => ?_) (fun hlt => ?_)
    · have hlt' : k < xs.length := by omega
      obtain ⟨b, o, cs, rfl, hcs, hR, hcell⟩ := hx k xs[k] (List.getElem?_eq_getElem hlt')
      have hR' := hR
      obtain ⟨la, rfl, -, -, -, hla⟩ := hR
      obtain ⟨p1, c1, rfl, hl1, -⟩ := hla.open
      refine cj_skip (ej_then (hK8 _ _ _ ?_)); clear hK8
      refine CJ.sub (e' := [(8, _), (9, _), (10, _)]) ⟨rfl, rfl, rfl, trivial⟩ ?_
      refine cj_seqF fun K9 hK9 => ?_
      refine cj_block ?_
      refine cj_seqF fun K10 hK10 => ?_
      refine cj_reg ?_
      refine j_val rfl (fun a w ha => r_idx Try.runUnderlying25 Try.sizeOf80 rfl rfl (by omega) ha) ?_
      refine j_valw rfl (fun a w ha hH hf => r_loadA Try.isAgg80 Try.sizeOf80 rfl rfl (hcell w (hf.keepAll (.inr rfl))) ha) ?_
      refine j_allocA (zs := [(.int .u64 0), (.int .i64 0), (.int .u64 0), (.slice none 0 0)]) Try.zeroValue80 rfl fun b4 => ?_
      refine j_storeN (cs' := [_, _, _, _]) (H' := [_]) 0 rfl rfl rfl rfl Try.sizeOf80 rfl rfl rfl rfl rfl rfl rfl ?_
      refine j_nil ?_
      refine ej_then (hK10 _ _ _ ?_); clear hK10
      refine CJ.sub (e' := [(4, _), (8, _), (9, _), (10, _)]) ⟨rfl, rfl, rfl, rfl, trivial⟩ ?_
      refine cj_seqF fun K11 hK11 => ?_
      refine cj_reg ?_
      refine j_valw rfl (fun a w ha hH hf => r_ldA (vs := [_, _, _, _]) 0 rfl rfl Try.isAgg80 Try.sizeOf80 rfl rfl rfl ha hH) ?_
      refine j_callQ (φ := fun v => ∃ b, v = .bool b) Try.call23 rfl rfl (fun w hH hf => zzFits14_c w _ _ (RLoc.keep (hf.keepAll (.inr rfl)) _ _ hR')) ?_
      rintro _ ⟨b15, rfl⟩
      refine j_val rfl (fun a w ha => r_not rfl ha) ?_
      refine j_nil ?_
      refine ej_then (hK11 _ _ _ ?_); clear hK11
      refine CJ.sub (e' := [(8, _), (9, _), (10, _), (16, _)]) ⟨rfl, rfl, rfl, rfl, trivial⟩ ?_
      refine cj_if rfl (fun _ => ?_) (fun _ => ?_)
      · refine cj_seqF fun K12 hK12 => ?_
        refine cj_reg ?_
        refine j_val rfl (fun a w ha => r_assign rfl ha) ?_
        refine j_nil ?_
        refine ej_then (hK12 _ _ _ ?_); clear hK12
        refine CJ.sub (e' := [(2, _)]) ⟨rfl, trivial⟩ ?_
        refine cj_ret (ej_blk_ret (ej_then_ret (ej_then_ret (ej_blk_ret (ej_then_ret (?_))))))
        exact ej_ret1 Try.results12 rfl fun w' hH hf => ⟨⟨_, rfl, by first | (intro h; exact absurd h (by decide)) | (intro _; omega)⟩, hf⟩
      · refine cj_skip (ej_blk (ej_then (hK9 _ _ _ ?_))); clear hK9
        refine CJ.sub (e' := [(8, _), (9, _), (10, _)]) ⟨rfl, rfl, rfl, trivial⟩ ?_
        refine cj_reg ?_
        refine j_val rfl (fun a w ha => r_inc (by omega) rfl rfl ha) ?_
        refine j_val rfl (fun a w ha => r_move rfl ha) ?_
        refine j_nil ?_
        refine ej_then ?_
        exact fun w hH hf => hKL (k + 1) _ w hlt' hf .nil (by omega) ⟨rfl, rfl, rfl, trivial⟩
    · refine cj_exit (ej_then_exit (ej_then_exit (ej_blk_hit (ej_then (hK5 _ _ _ ?_))))); clear hK5
      refine CJ.sub (e' := []) trivial ?_
      refine cj_seqF fun K13 hK13 => ?_
      refine cj_reg ?_
      refine j_val rfl (fun a w ha => r_assign rfl ha) ?_
      refine j_nil ?_
      refine ej_then (hK13 _ _ _ ?_); clear hK13
      refine CJ.sub (e' := [(2, _)]) ⟨rfl, trivial⟩ ?_
      refine cj_ret (?_)
      exact ej_ret1 Try.results12 rfl fun w' hH hf => ⟨⟨_, rfl, by first | (intro h; exact absurd h (by decide)) | (intro _; omega)⟩, hf⟩
theorem zzFits16_c (w : World) (cs : List Value) (x : PFunc) (h : RFunc w cs x) : Calls Try.prog 24 #[.agg cs.toArray] w (Ret fun v w' => (∃ b, v = .bool b) ∧ Fr 0 [] w w') := by
  obtain ⟨rfl, -⟩ := h
  refine startJ (args := [_]) [(0, _)] 0 [] [] Try.func24 rfl Try.ntmps24 rfl rfl .nil ?_
  refine cj_seqF fun K1 hK1 => ?_
  refine cj_reg ?_
  refine j_boxA (vs := [_, _, _, _, _]) rfl rfl fun b1 => ?_
  refine j_val rfl (fun a w ha => r_assign rfl ha) ?_
  refine j_nil ?_
  refine ej_then (hK1 _ _ _ ?_); clear hK1
  refine CJ.sub (e' := [(1, _)]) ⟨rfl, trivial⟩ ?_
  refine cj_seqF fun K2 hK2 => ?_
  refine cj_seqF fun K3 hK3 => ?_
  refine cj_reg ?_
  refine j_val rfl (fun a w ha => r_fl (q := 1) (ft := 9) Try.runUnderlying84 rfl Try.sizeOf9 rfl ha) ?_
  refine j_valw rfl (fun a w ha hH hf => r_ldH 0 rfl rfl Try.isAgg9 rfl rfl ha hH) ?_
  refine j_val rfl (fun a w ha => r_slen Try.runUnderlying9 rfl ha) ?_
  refine j_val rfl (fun a w ha => r_gtr rfl rfl ha) ?_
  refine j_nil ?_
  refine ej_then (hK3 _ _ _ ?_); clear hK3
  refine CJ.sub (e' := [(1, _), (6, _)]) ⟨rfl, rfl, trivial⟩ ?_
  refine cj_dec rfl (fun _ => ?_) (fun _ => ?_)
  · refine cj_seqF fun K4 hK4 => ?_
    refine cj_reg ?_
    refine j_val rfl (fun a w ha => r_assign rfl ha) ?_
    refine j_nil ?_
    refine ej_then (hK4 _ _ _ ?_); clear hK4
    refine CJ.sub (e' := [(2, _)]) ⟨rfl, trivial⟩ ?_
    refine cj_ret (ej_then_ret (?_))
    exact ej_ret1 Try.results24 rfl fun w' hH hf => ⟨⟨_, rfl⟩, hf⟩
  · refine cj_skip (ej_then (hK2 _ _ _ ?_)); clear hK2
    refine CJ.sub (e' := [(1, _)]) ⟨rfl, trivial⟩ ?_
    refine cj_seqF fun K5 hK5 => ?_
    refine cj_seqF fun K6 hK6 => ?_
    refine cj_reg ?_
    refine j_val rfl (fun a w ha => r_fl (q := 2) (ft := 9) Try.runUnderlying84 rfl Try.sizeOf9 rfl ha) ?_
    refine j_valw rfl (fun a w ha hH hf => r_ldH 0 rfl rfl Try.isAgg9 rfl rfl ha hH) ?_
    refine j_val rfl (fun a w ha => r_slen Try.runUnderlying9 rfl ha) ?_
    refine j_val rfl (fun a w ha => r_gtr rfl rfl ha) ?_
    refine j_nil ?_
    refine ej_then (hK6 _ _ _ ?_); clear hK6
    refine CJ.sub (e' := [(1, _), (10, _)]) ⟨rfl, rfl, trivial⟩ ?_
    refine cj_dec rfl (fun _ => ?_) (fun _ => ?_)
    · refine cj_seqF fun K7 hK7 => ?_
      refine cj_reg ?_
      refine j_val rfl (fun a w ha => r_assign rfl ha) ?_
      refine j_nil ?_
      refine ej_then (hK7 _ _ _ ?_); clear hK7
      refine CJ.sub (e' := [(2, _)]) ⟨rfl, trivial⟩ ?_
      refine cj_ret (ej_then_ret (?_))
      exact ej_ret1 Try.results24 rfl fun w' hH hf => ⟨⟨_, rfl⟩, hf⟩
    · refine cj_skip (ej_then (hK5 _ _ _ ?_)); clear hK5
      refine CJ.sub (e' := [(1, _)]) ⟨rfl, trivial⟩ ?_
      refine cj_seqF fun K8 hK8 => ?_
      refine cj_seqF fun K9 hK9 => ?_
      refine cj_reg ?_
      refine j_val rfl (fun a w ha => r_fl (q := 3) (ft := 9) Try.runUnderlying84 rfl Try.sizeOf9 rfl ha) ?_
      refine j_valw rfl (fun a w ha hH hf => r_ldH 0 rfl rfl Try.isAgg9 rfl rfl ha hH) ?_
      refine j_val rfl (fun a w ha => r_slen Try.runUnderlying9 rfl ha) ?_
      refine j_val rfl (fun a w ha => r_gtr rfl rfl ha) ?_
      refine j_nil ?_
      refine ej_then (hK9 _ _ _ ?_); clear hK9
      refine CJ.sub (e' := [(14, _)]) ⟨rfl, trivial⟩ ?_
      refine cj_dec rfl (fun _ => ?_) (fun _ => ?_)
      · refine cj_seqF fun K10 hK10 => ?_
        refine cj_reg ?_
        refine j_val rfl (fun a w ha => r_assign rfl ha) ?_
        refine j_nil ?_
        refine ej_then (hK10 _ _ _ ?_); clear hK10
        refine CJ.sub (e' := [(2, _)]) ⟨rfl, trivial⟩ ?_
        refine cj_ret (ej_then_ret (?_))
        exact ej_ret1 Try.results24 rfl fun w' hH hf => ⟨⟨_, rfl⟩, hf⟩
      · refine cj_skip (ej_then (hK8 _ _ _ ?_)); clear hK8
        refine CJ.sub (e' := []) trivial ?_
        refine cj_seqF fun K11 hK11 => ?_
        refine cj_reg ?_
        refine j_val rfl (fun a w ha => r_assign rfl ha) ?_
        refine j_nil ?_
        refine ej_then (hK11 _ _ _ ?_); clear hK11
        refine CJ.sub (e' := [(2, _)]) ⟨rfl, trivial⟩ ?_
        refine cj_ret (?_)
        exact ej_ret1 Try.results24 rfl fun w' hH hf => ⟨⟨_, rfl⟩, hf⟩
theorem zzFits15_c (w : World) (v : Value) (xs : List PFunc) (h : Lay RFunc 5 w v xs) : Calls Try.prog 13 #[v] w (Ret fun v w' => (∃ b, v = .bool b ∧ (b = true → xs.length ≤ 2147483647)) ∧ Fr 0 [] w w') := by
  obtain ⟨p, c, rfl, hl, hx⟩ := h.open
  refine startJ (args := [_]) [(0, _)] 0 [] [] Try.func13 rfl Try.ntmps13 rfl rfl .nil ?_
  refine cj_seqF fun K1 hK1 => ?_
  refine cj_reg ?_
  refine j_val rfl (fun a w ha => r_assign rfl ha) ?_
  refine j_nil ?_
  refine ej_then (hK1 _ _ _ ?_); clear hK1
  refine CJ.sub (e' := [(0, _)]) ⟨rfl, trivial⟩ ?_
  refine cj_seqF fun K2 hK2 => ?_
  refine cj_seqF fun K3 hK3 => ?_
  refine cj_reg ?_
  refine j_val rfl (fun a w ha => r_move rfl ha) ?_
  refine j_val rfl (fun a w ha => r_len Try.runUnderlying26 rfl ha) ?_
  refine j_val rfl (fun a w ha => r_gtr rfl rfl ha) ?_
  refine j_nil ?_
  refine ej_then (hK3 _ _ _ ?_); clear hK3
  refine CJ.sub (e' := [(0, _), (7, _)]) ⟨rfl, rfl, trivial⟩ ?_
  refine cj_dec rfl (fun hbig => ?_) (fun hbig => ?_)
  · refine cj_seqF fun K4 hK4 => ?_
    refine cj_reg ?_
    refine j_val rfl (fun a w ha => r_assign rfl ha) ?_
    refine j_nil ?_
    refine ej_then (hK4 _ _ _ ?_); clear hK4
    refine CJ.sub (e' := [(2, _)]) ⟨rfl, trivial⟩ ?_
    refine cj_ret (ej_then_ret (?_))
    exact ej_ret1 Try.results13 rfl fun w' hH hf => ⟨⟨_, rfl, by first | (intro h; exact absurd h (by decide)) | (intro _; omega)⟩, hf⟩
  · refine cj_skip (ej_then (hK2 _ _ _ ?_)); clear hK2
    refine CJ.sub (e' := [(0, _)]) ⟨rfl, trivial⟩ ?_
    refine cj_seqF fun K5 hK5 => ?_
    refine cj_seqF fun K6 hK6 => ?_
    refine cj_reg ?_
    refine j_val rfl (fun a w ha => r_move rfl ha) ?_
    refine j_val rfl (fun a w ha => r_len Try.runUnderlying26 rfl ha) ?_
    refine j_val rfl (fun a w ha => r_move rfl ha) ?_
    refine j_nil ?_
    refine ej_then (hK6 _ _ _ ?_); clear hK6
    refine CJ.sub (e' := [(8, _), (9, _), (10, _)]) ⟨rfl, rfl, rfl, trivial⟩ ?_
    refine cj_block ?_
    -- LOOP 0 live [8, 9, 10]
    refine cj_loop (σ := Nat) (fun k => [(8, .slice p xs.length c), (9, .int .i64 (xs.length : Nat)), (10, .int .i64 (k : Nat))]) (fun _ => []) (fun k _ => k ≤ xs.length) (fun k => xs.length - k) 0 ⟨rfl, rfl, rfl, trivial⟩ (fun w hH hf => ⟨.nil, Nat.zero_le _⟩) ?_
    intro k w1 hk hf1 hH1 KL hKL
    refine C.begin _ [] hf1 .nil ?_
    refine cj_seqF fun K7 hK7 => ?_
    refine cj_reg ?_
    refine j_val rfl (fun a w ha => r_lss rfl rfl ha) ?_
    refine j_nil ?_
    refine ej_then (hK7 _ _ _ ?_); clear hK7
    refine CJ.sub (e' := [(8, _), (9, _), (10, _), (11, _)]) ⟨rfl, rfl, rfl, rfl, trivial⟩ ?_
    refine cj_seqF fun K8 hK8 => ?_
    refine cj_dec rfl (fun hlt => ?_) (fun hlt => ?_)
    · have hlt' : k < xs.length := by omega
      obtain ⟨b, o, cs, rfl, hcs, hR, hcell⟩ := hx k xs[k] (List.getElem?_eq_getElem hlt')
      have hR' := hR
      obtain ⟨rfl, -⟩ := hR
      refine cj_skip (ej_then (hK8 _ _ _ ?_)); clear hK8
      refine CJ.sub (e' := [(8, _), (9, _), (10, _)]) ⟨rfl, rfl, rfl, trivial⟩ ?_
      refine cj_seqF fun K9 hK9 => ?_
      refine cj_block ?_
      refine cj_seqF fun K10 hK10 => ?_
      refine cj_reg ?_
      refine j_val rfl (fun a w ha => r_idx Try.runUnderlying26 Try.sizeOf84 rfl rfl (by omega) ha) ?_
      refine j_valw rfl (fun a w ha hH hf => r_loadA Try.isAgg84 Try.sizeOf84 rfl rfl (hcell w (hf.keepAll (.inr rfl))) ha) ?_
      refine j_allocA (zs := [(.int .u64 0), (.string ⟨#[]⟩), (.string ⟨#[]⟩), (.string ⟨#[]⟩), (.int .i64 0)]) Try.zeroValue84 rfl fun b4 => ?_
      refine j_storeN (cs' := [_, _, _, _, _]) (H' := [_]) 0 rfl rfl rfl rfl Try.sizeOf84 rfl rfl rfl rfl rfl rfl rfl ?_
      refine j_nil ?_
      refine ej_then (hK10 _ _ _ ?_); clear hK10
      refine CJ.sub (e' := [(4, _), (8, _), (9, _), (10, _)]) ⟨rfl, rfl, rfl, rfl, trivial⟩ ?_
      refine cj_seqF fun K11 hK11 => ?_
      refine cj_reg ?_
      refine j_valw rfl (fun a w ha hH hf => r_ldA (vs := [_, _, _, _, _]) 0 rfl rfl Try.isAgg84 Try.sizeOf84 rfl rfl rfl ha hH) ?_
      refine j_callQ (φ := fun v => ∃ b, v = .bool b) Try.call24 rfl rfl (fun w hH hf => zzFits16_c w _ _ (RFunc.keep (hf.keepAll (.inr rfl)) _ _ hR')) ?_
      rintro _ ⟨b15, rfl⟩
      refine j_val rfl (fun a w ha => r_not rfl ha) ?_
      refine j_nil ?_
      refine ej_then (hK11 _ _ _ ?_); clear hK11
      refine CJ.sub (e' := [(8, _), (9, _), (10, _), (16, _)]) ⟨rfl, rfl, rfl, rfl, trivial⟩ ?_
      refine cj_if rfl (fun _ => ?_) (fun _ => ?_)
      · refine cj_seqF fun K12 hK12 => ?_
        refine cj_reg ?_
        refine j_val rfl (fun a w ha => r_assign rfl ha) ?_
        refine j_nil ?_
        refine ej_then (hK12 _ _ _ ?_); clear hK12
        refine CJ.sub (e' := [(2, _)]) ⟨rfl, trivial⟩ ?_
        refine cj_ret (ej_blk_ret (ej_then_ret (ej_then_ret (ej_blk_ret (ej_then_ret (?_))))))
        exact ej_ret1 Try.results13 rfl fun w' hH hf => ⟨⟨_, rfl, by first | (intro h; exact absurd h (by decide)) | (intro _; omega)⟩, hf⟩
      · refine cj_skip (ej_blk (ej_then (hK9 _ _ _ ?_))); clear hK9
        refine CJ.sub (e' := [(8, _), (9, _), (10, _)]) ⟨rfl, rfl, rfl, trivial⟩ ?_
        refine cj_reg ?_
        refine j_val rfl (fun a w ha => r_inc (by omega) rfl rfl ha) ?_
        refine j_val rfl (fun a w ha => r_move rfl ha) ?_
        refine j_nil ?_
        refine ej_then ?_
        exact fun w hH hf => hKL (k + 1) _ w hlt' hf .nil (by omega) ⟨rfl, rfl, rfl, trivial⟩
    · refine cj_exit (ej_then_exit (ej_then_exit (ej_blk_hit (ej_then (hK5 _ _ _ ?_))))); clear hK5
      refine CJ.sub (e' := []) trivial ?_
      refine cj_seqF fun K13 hK13 => ?_
      refine cj_reg ?_
      refine j_val rfl (fun a w ha => r_assign rfl ha) ?_
      refine j_nil ?_
      refine ej_then (hK13 _ _ _ ?_); clear hK13
      refine CJ.sub (e' := [(2, _)]) ⟨rfl, trivial⟩ ?_
      refine cj_ret (?_)
      exact ej_ret1 Try.results13 rfl fun w' hH hf => ⟨⟨_, rfl, by first | (intro h; exact absurd h (by decide)) | (intro _; omega)⟩, hf⟩
theorem zzFits1_c (w : World) (cs : List Value) (x : PProf) (h : RProf w cs x) : Calls Try.prog 4 #[.agg cs.toArray] w (Ret fun v w' => (∃ b, v = .bool b ∧ (b = true → x.mappings.length ≤ 2147483647 ∧ x.locs.length ≤ 2147483647 ∧ x.funcs.length ≤ 2147483647)) ∧ Fr 0 [] w w') := by
  obtain ⟨la, ls, lm, ll, lf, lcm, rfl, ha, hs, hm, hll, hfu, hcm, -⟩ := h
  refine startJ (args := [_]) [(0, _)] 0 [] [] Try.func4 rfl Try.ntmps4 rfl rfl .nil ?_
  refine cj_seqF fun K1 hK1 => ?_
  refine cj_reg ?_
  refine j_boxA (vs := [_, _, _, _, _, _, _, _, _, _, _, _, _, _]) rfl rfl fun b1 => ?_
  refine j_val rfl (fun a w ha => r_assign rfl ha) ?_
  refine j_nil ?_
  refine ej_then (hK1 _ _ _ ?_); clear hK1
  refine CJ.sub (e' := [(1, _)]) ⟨rfl, trivial⟩ ?_
  refine cj_seqF fun K2 hK2 => ?_
  refine cj_seqF fun K3 hK3 => ?_
  refine cj_reg ?_
  refine j_val rfl (fun a w ha => r_fl (q := 0) (ft := 22) Try.runUnderlying31 rfl Try.sizeOf22 rfl ha) ?_
  refine j_valw rfl (fun a w ha hH hf => r_ldH 0 rfl rfl Try.isAgg22 rfl rfl ha hH) ?_
  refine j_callQ (φ := fun v => ∃ b, v = .bool b ∧ (b = true → x.types.length ≤ 2147483647)) Try.call9 rfl rfl (fun w hH hf => zzFits2_c w _ _ (ha.keep (RType.keep (hf.keepAll (.inr rfl))) (hf.keepAll (.inr rfl)))) ?_
  rintro _ ⟨b5, rfl, hb5⟩
  refine j_val rfl (fun a w ha => r_not rfl ha) ?_
  refine j_nil ?_
  refine ej_then (hK3 _ _ _ ?_); clear hK3
  refine CJ.sub (e' := [(1, _), (6, _)]) ⟨rfl, rfl, trivial⟩ ?_
  refine cj_if rfl (fun _ => ?_) (fun _ => ?_)
  · refine cj_seqF fun K4 hK4 => ?_
    refine cj_reg ?_
    refine j_val rfl (fun a w ha => r_assign rfl ha) ?_
    refine j_nil ?_
    refine ej_then (hK4 _ _ _ ?_); clear hK4
    refine CJ.sub (e' := [(2, _)]) ⟨rfl, trivial⟩ ?_
    refine cj_ret (ej_then_ret (?_))
    exact ej_ret1 Try.results4 rfl fun w' hH hf => ⟨⟨_, rfl, by first | (intro h; exact absurd h (by decide)) | (intro _; simp at h18 h22 h26; exact ⟨hb17 h18, hb21 h22, hb25 h26⟩)⟩, hf⟩
  · refine cj_skip (ej_then (hK2 _ _ _ ?_)); clear hK2
    refine CJ.sub (e' := [(1, _)]) ⟨rfl, trivial⟩ ?_
    refine cj_seqF fun K5 hK5 => ?_
    refine cj_seqF fun K6 hK6 => ?_
    refine cj_reg ?_
    refine j_val rfl (fun a w ha => r_fl (q := 1) (ft := 9) Try.runUnderlying31 rfl Try.sizeOf9 rfl ha) ?_
    refine j_valw rfl (fun a w ha hH hf => r_ldH 0 rfl rfl Try.isAgg9 rfl rfl ha hH) ?_
    refine j_val rfl (fun a w ha => r_slen Try.runUnderlying9 rfl ha) ?_
    refine j_val rfl (fun a w ha => r_gtr rfl rfl ha) ?_
    refine j_nil ?_
    refine ej_then (hK6 _ _ _ ?_); clear hK6
    refine CJ.sub (e' := [(1, _), (10, _)]) ⟨rfl, rfl, trivial⟩ ?_
    refine cj_dec rfl (fun _ => ?_) (fun _ => ?_)
    · refine cj_seqF fun K7 hK7 => ?_
      refine cj_reg ?_
      refine j_val rfl (fun a w ha => r_assign rfl ha) ?_
      refine j_nil ?_
      refine ej_then (hK7 _ _ _ ?_); clear hK7
      refine CJ.sub (e' := [(2, _)]) ⟨rfl, trivial⟩ ?_
      refine cj_ret (ej_then_ret (?_))
      exact ej_ret1 Try.results4 rfl fun w' hH hf => ⟨⟨_, rfl, by first | (intro h; exact absurd h (by decide)) | (intro _; simp at h18 h22 h26; exact ⟨hb17 h18, hb21 h22, hb25 h26⟩)⟩, hf⟩
    · refine cj_skip (ej_then (hK5 _ _ _ ?_)); clear hK5
      refine CJ.sub (e' := [(1, _)]) ⟨rfl, trivial⟩ ?_
      refine cj_seqF fun K8 hK8 => ?_
      refine cj_seqF fun K9 hK9 => ?_
      refine cj_reg ?_
      refine j_val rfl (fun a w ha => r_fl (q := 2) (ft := 23) Try.runUnderlying31 rfl Try.sizeOf23 rfl ha) ?_
      refine j_valw rfl (fun a w ha hH hf => r_ldH 0 rfl rfl Try.isAgg23 rfl rfl ha hH) ?_
      refine j_callQ (φ := fun v => ∃ b, v = .bool b ∧ (b = true → x.samples.length ≤ 2147483647)) Try.call10 rfl rfl (fun w hH hf => zzFits4_c w _ _ (hs.keep (RSample.keep (hf.keepAll (.inr rfl))) (hf.keepAll (.inr rfl)))) ?_
      rintro _ ⟨b13, rfl, hb13⟩
      refine j_val rfl (fun a w ha => r_not rfl ha) ?_
      refine j_nil ?_
      refine ej_then (hK9 _ _ _ ?_); clear hK9
      refine CJ.sub (e' := [(1, _), (14, _)]) ⟨rfl, rfl, trivial⟩ ?_
      refine cj_if rfl (fun _ => ?_) (fun _ => ?_)
      · refine cj_seqF fun K10 hK10 => ?_
        refine cj_reg ?_
        refine j_val rfl (fun a w ha => r_assign rfl ha) ?_
        refine j_nil ?_
        refine ej_then (hK10 _ _ _ ?_); clear hK10
        refine CJ.sub (e' := [(2, _)]) ⟨rfl, trivial⟩ ?_
        refine cj_ret (ej_then_ret (?_))
        exact ej_ret1 Try.results4 rfl fun w' hH hf => ⟨⟨_, rfl, by first | (intro h; exact absurd h (by decide)) | (intro _; simp at h18 h22 h26; exact ⟨hb17 h18, hb21 h22, hb25 h26⟩)⟩, hf⟩
      · refine cj_skip (ej_then (hK8 _ _ _ ?_)); clear hK8
        refine CJ.sub (e' := [(1, _)]) ⟨rfl, trivial⟩ ?_
        refine cj_seqF fun K11 hK11 => ?_
        refine cj_seqF fun K12 hK12 => ?_
        refine cj_reg ?_
        refine j_val rfl (fun a w ha => r_fl (q := 3) (ft := 24) Try.runUnderlying31 rfl Try.sizeOf24 rfl ha) ?_
        refine j_valw rfl (fun a w ha hH hf => r_ldH 0 rfl rfl Try.isAgg24 rfl rfl ha hH) ?_
        refine j_callQ (φ := fun v => ∃ b, v = .bool b ∧ (b = true → x.mappings.length ≤ 2147483647)) Try.call11 rfl rfl (fun w hH hf => zzFits11_c w _ _ (hm.keep (RMapping.keep (hf.keepAll (.inr rfl))) (hf.keepAll (.inr rfl)))) ?_
        rintro _ ⟨b17, rfl, hb17⟩
        refine j_val rfl (fun a w ha => r_not rfl ha) ?_
        refine j_nil ?_
        refine ej_then (hK12 _ _ _ ?_); clear hK12
        refine CJ.sub (e' := [(1, _), (18, _)]) ⟨rfl, rfl, trivial⟩ ?_
        refine cj_if rfl (fun h18 => ?_) (fun h18 => ?_)
        · refine cj_seqF fun K13 hK13 => ?_
          refine cj_reg ?_
          refine j_val rfl (fun a w ha => r_assign rfl ha) ?_
          refine j_nil ?_
          refine ej_then (hK13 _ _ _ ?_); clear hK13
          refine CJ.sub (e' := [(2, _)]) ⟨rfl, trivial⟩ ?_
          refine cj_ret (ej_then_ret (?_))
          exact ej_ret1 Try.results4 rfl fun w' hH hf => ⟨⟨_, rfl, by first | (intro h; exact absurd h (by decide)) | (intro _; simp at h18 h22 h26; exact ⟨hb17 h18, hb21 h22, hb25 h26⟩)⟩, hf⟩
        · refine cj_skip (ej_then (hK11 _ _ _ ?_)); clear hK11
          refine CJ.sub (e' := [(1, _)]) ⟨rfl, trivial⟩ ?_
          refine cj_seqF fun K14 hK14 => ?_
          refine cj_seqF fun K15 hK15 => ?_
          refine cj_reg ?_
          refine j_val rfl (fun a w ha => r_fl (q := 4) (ft := 25) Try.runUnderlying31 rfl Try.sizeOf25 rfl ha) ?_
          refine j_valw rfl (fun a w ha hH hf => r_ldH 0 rfl rfl Try.isAgg25 rfl rfl ha hH) ?_
          refine j_callQ (φ := fun v => ∃ b, v = .bool b ∧ (b = true → x.locs.length ≤ 2147483647)) Try.call12 rfl rfl (fun w hH hf => zzFits13_c w _ _ (hll.keep (RLoc.keep (hf.keepAll (.inr rfl))) (hf.keepAll (.inr rfl)))) ?_
          rintro _ ⟨b21, rfl, hb21⟩
          refine j_val rfl (fun a w ha => r_not rfl ha) ?_
          refine j_nil ?_
          refine ej_then (hK15 _ _ _ ?_); clear hK15
          refine CJ.sub (e' := [(1, _), (22, _)]) ⟨rfl, rfl, trivial⟩ ?_
          refine cj_if rfl (fun h22 => ?_) (fun h22 => ?_)
          · refine cj_seqF fun K16 hK16 => ?_
            refine cj_reg ?_
            refine j_val rfl (fun a w ha => r_assign rfl ha) ?_
            refine j_nil ?_
            refine ej_then (hK16 _ _ _ ?_); clear hK16
            refine CJ.sub (e' := [(2, _)]) ⟨rfl, trivial⟩ ?_
            refine cj_ret (ej_then_ret (?_))
            exact ej_ret1 Try.results4 rfl fun w' hH hf => ⟨⟨_, rfl, by first | (intro h; exact absurd h (by decide)) | (intro _; simp at h18 h22 h26; exact ⟨hb17 h18, hb21 h22, hb25 h26⟩)⟩, hf⟩
          · refine cj_skip (ej_then (hK14 _ _ _ ?_)); clear hK14
            refine CJ.sub (e' := [(1, _)]) ⟨rfl, trivial⟩ ?_
            refine cj_seqF fun K17 hK17 => ?_
            refine cj_seqF fun K18 hK18 => ?_
            refine cj_reg ?_
            refine j_val rfl (fun a w ha => r_fl (q := 5) (ft := 26) Try.runUnderlying31 rfl Try.sizeOf26 rfl ha) ?_
            refine j_valw rfl (fun a w ha hH hf => r_ldH 0 rfl rfl Try.isAgg26 rfl rfl ha hH) ?_
            refine j_callQ (φ := fun v => ∃ b, v = .bool b ∧ (b = true → x.funcs.length ≤ 2147483647)) Try.call13 rfl rfl (fun w hH hf => zzFits15_c w _ _ (hfu.keep (RFunc.keep (hf.keepAll (.inr rfl))) (hf.keepAll (.inr rfl)))) ?_
            rintro _ ⟨b25, rfl, hb25⟩
            refine j_val rfl (fun a w ha => r_not rfl ha) ?_
            refine j_nil ?_
            refine ej_then (hK18 _ _ _ ?_); clear hK18
            refine CJ.sub (e' := [(1, _), (26, _)]) ⟨rfl, rfl, trivial⟩ ?_
            refine cj_if rfl (fun h26 => ?_) (fun h26 => ?_)
            · refine cj_seqF fun K19 hK19 => ?_
              refine cj_reg ?_
              refine j_val rfl (fun a w ha => r_assign rfl ha) ?_
              refine j_nil ?_
              refine ej_then (hK19 _ _ _ ?_); clear hK19
              refine CJ.sub (e' := [(2, _)]) ⟨rfl, trivial⟩ ?_
              refine cj_ret (ej_then_ret (?_))
              exact ej_ret1 Try.results4 rfl fun w' hH hf => ⟨⟨_, rfl, by first | (intro h; exact absurd h (by decide)) | (intro _; simp at h18 h22 h26; exact ⟨hb17 h18, hb21 h22, hb25 h26⟩)⟩, hf⟩
            · refine cj_skip (ej_then (hK17 _ _ _ ?_)); clear hK17
              refine CJ.sub (e' := [(1, _)]) ⟨rfl, trivial⟩ ?_
              refine cj_seqF fun K20 hK20 => ?_
              refine cj_seqF fun K21 hK21 => ?_
              refine cj_reg ?_
              refine j_val rfl (fun a w ha => r_fl (q := 6) (ft := 27) Try.runUnderlying31 rfl Try.sizeOf27 rfl ha) ?_
              refine j_valw rfl (fun a w ha hH hf => r_ldH 0 rfl rfl Try.isAgg27 rfl rfl ha hH) ?_
              refine j_callQ (φ := fun v => ∃ b, v = .bool b ∧ (b = true → x.comments.length ≤ 2147483647)) Try.call14 rfl rfl (fun w hH hf => zzFits8_c w _ _ (hcm.keep (RStr.keep (hf.keepAll (.inr rfl))) (hf.keepAll (.inr rfl)))) ?_
              rintro _ ⟨b29, rfl, hb29⟩
              refine j_val rfl (fun a w ha => r_not rfl ha) ?_
              refine j_nil ?_
              refine ej_then (hK21 _ _ _ ?_); clear hK21
              refine CJ.sub (e' := [(1, _), (30, _)]) ⟨rfl, rfl, trivial⟩ ?_
              refine cj_if rfl (fun _ => ?_) (fun _ => ?_)
              · refine cj_seqF fun K22 hK22 => ?_
                refine cj_reg ?_
                refine j_val rfl (fun a w ha => r_assign rfl ha) ?_
                refine j_nil ?_
                refine ej_then (hK22 _ _ _ ?_); clear hK22
                refine CJ.sub (e' := [(2, _)]) ⟨rfl, trivial⟩ ?_
                refine cj_ret (ej_then_ret (?_))
                exact ej_ret1 Try.results4 rfl fun w' hH hf => ⟨⟨_, rfl, by first | (intro h; exact absurd h (by decide)) | (intro _; simp at h18 h22 h26; exact ⟨hb17 h18, hb21 h22, hb25 h26⟩)⟩, hf⟩
              · refine cj_skip (ej_then (hK20 _ _ _ ?_)); clear hK20
                refine CJ.sub (e' := [(1, _)]) ⟨rfl, trivial⟩ ?_
                refine cj_seqF fun K23 hK23 => ?_
                refine cj_seqF fun K24 hK24 => ?_
                refine cj_reg ?_
                refine j_val rfl (fun a w ha => r_fl (q := 7) (ft := 9) Try.runUnderlying31 rfl Try.sizeOf9 rfl ha) ?_
                refine j_valw rfl (fun a w ha hH hf => r_ldH 0 rfl rfl Try.isAgg9 rfl rfl ha hH) ?_
                refine j_val rfl (fun a w ha => r_slen Try.runUnderlying9 rfl ha) ?_
                refine j_val rfl (fun a w ha => r_gtr rfl rfl ha) ?_
                refine j_nil ?_
                refine ej_then (hK24 _ _ _ ?_); clear hK24
                refine CJ.sub (e' := [(1, _), (34, _)]) ⟨rfl, rfl, trivial⟩ ?_
                refine cj_dec rfl (fun _ => ?_) (fun _ => ?_)
                · refine cj_seqF fun K25 hK25 => ?_
                  refine cj_reg ?_
                  refine j_val rfl (fun a w ha => r_assign rfl ha) ?_
                  refine j_nil ?_
                  refine ej_then (hK25 _ _ _ ?_); clear hK25
                  refine CJ.sub (e' := [(2, _)]) ⟨rfl, trivial⟩ ?_
                  refine cj_ret (ej_then_ret (?_))
                  exact ej_ret1 Try.results4 rfl fun w' hH hf => ⟨⟨_, rfl, by first | (intro h; exact absurd h (by decide)) | (intro _; simp at h18 h22 h26; exact ⟨hb17 h18, hb21 h22, hb25 h26⟩)⟩, hf⟩
                · refine cj_skip (ej_then (hK23 _ _ _ ?_)); clear hK23
                  refine CJ.sub (e' := [(1, _)]) ⟨rfl, trivial⟩ ?_
                  refine cj_seqF fun K26 hK26 => ?_
                  refine cj_seqF fun K27 hK27 => ?_
                  refine cj_reg ?_
                  refine j_val rfl (fun a w ha => r_fl (q := 8) (ft := 9) Try.runUnderlying31 rfl Try.sizeOf9 rfl ha) ?_
                  refine j_valw rfl (fun a w ha hH hf => r_ldH 0 rfl rfl Try.isAgg9 rfl rfl ha hH) ?_
                  refine j_val rfl (fun a w ha => r_slen Try.runUnderlying9 rfl ha) ?_
                  refine j_val rfl (fun a w ha => r_gtr rfl rfl ha) ?_
                  refine j_nil ?_
                  refine ej_then (hK27 _ _ _ ?_); clear hK27
                  refine CJ.sub (e' := [(1, _), (38, _)]) ⟨rfl, rfl, trivial⟩ ?_
                  refine cj_dec rfl (fun _ => ?_) (fun _ => ?_)
                  · refine cj_seqF fun K28 hK28 => ?_
                    refine cj_reg ?_
                    refine j_val rfl (fun a w ha => r_assign rfl ha) ?_
                    refine j_nil ?_
                    refine ej_then (hK28 _ _ _ ?_); clear hK28
                    refine CJ.sub (e' := [(2, _)]) ⟨rfl, trivial⟩ ?_
                    refine cj_ret (ej_then_ret (?_))
                    exact ej_ret1 Try.results4 rfl fun w' hH hf => ⟨⟨_, rfl, by first | (intro h; exact absurd h (by decide)) | (intro _; simp at h18 h22 h26; exact ⟨hb17 h18, hb21 h22, hb25 h26⟩)⟩, hf⟩
                  · refine cj_skip (ej_then (hK26 _ _ _ ?_)); clear hK26
                    refine CJ.sub (e' := [(1, _)]) ⟨rfl, trivial⟩ ?_
                    refine cj_seqF fun K29 hK29 => ?_
                    refine cj_seqF fun K30 hK30 => ?_
                    refine cj_reg ?_
                    refine j_val rfl (fun a w ha => r_fl (q := 12) (ft := 29) Try.runUnderlying31 rfl Try.sizeOf29 rfl ha) ?_
                    refine j_valw rfl (fun a w ha hH hf => r_ldA (vs := [_, _]) 0 rfl rfl Try.isAgg29 Try.sizeOf29 rfl rfl rfl ha hH) ?_
                    refine j_callQ (φ := fun v => ∃ b, v = .bool b) Try.call15 rfl rfl (fun w hH hf => zzFits3_c w _ x.per rfl) ?_
                    rintro _ ⟨b41, rfl⟩
                    refine j_val rfl (fun a w ha => r_not rfl ha) ?_
                    refine j_nil ?_
                    refine ej_then (hK30 _ _ _ ?_); clear hK30
                    refine CJ.sub (e' := [(42, _)]) ⟨rfl, trivial⟩ ?_
                    refine cj_if rfl (fun _ => ?_) (fun _ => ?_)
                    · refine cj_seqF fun K31 hK31 => ?_
                      refine cj_reg ?_
                      refine j_val rfl (fun a w ha => r_assign rfl ha) ?_
                      refine j_nil ?_
                      refine ej_then (hK31 _ _ _ ?_); clear hK31
                      refine CJ.sub (e' := [(2, _)]) ⟨rfl, trivial⟩ ?_
                      refine cj_ret (ej_then_ret (?_))
                      exact ej_ret1 Try.results4 rfl fun w' hH hf => ⟨⟨_, rfl, by first | (intro h; exact absurd h (by decide)) | (intro _; simp at h18 h22 h26; exact ⟨hb17 h18, hb21 h22, hb25 h26⟩)⟩, hf⟩
                    · refine cj_skip (ej_then (hK29 _ _ _ ?_)); clear hK29
                      refine CJ.sub (e' := []) trivial ?_
                      refine cj_seqF fun K32 hK32 => ?_
                      refine cj_reg ?_
                      refine j_val rfl (fun a w ha => r_assign rfl ha) ?_
                      refine j_nil ?_
                      refine ej_then (hK32 _ _ _ ?_); clear hK32
                      refine CJ.sub (e' := [(2, _)]) ⟨rfl, trivial⟩ ?_
                      refine cj_ret (?_)
                      exact ej_ret1 Try.results4 rfl fun w' hH hf => ⟨⟨_, rfl, by first | (intro h; exact absurd h (by decide)) | (intro _; simp at h18 h22 h26; exact ⟨hb17 h18, hb21 h22, hb25 h26⟩)⟩, hf⟩
end Go.Proofs.Ytgjpegehmbebpaa
