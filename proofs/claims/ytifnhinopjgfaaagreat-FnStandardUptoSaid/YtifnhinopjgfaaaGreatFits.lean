/-
  The size checks zzFits1 to zzFits17 return a bool and write nothing that was there. Conditions: the arguments are plain data in memory.
-/
import Derived.Test.YtifnhinopjgfaaaGreatTy
import Derived.Test.YtifnhinopjgfaaaGreatPl
import Derived.KernelRfl
namespace Go.Proofs.YtifnhinopjgfaaaGreat
open Go Go.Fw Go.Proofs Go.Proofs.Tryz
theorem zzFits3_c (w : World) (cs : List Value) (x : PType) (h : RType w cs x) : Calls Tryz.prog 16 #[.agg cs.toArray] w (Ret fun v w' => (∃ b, v = .bool b) ∧ Fr 0 [] w w') := by
 unfold RType at h
 subst h
 refine startJ (args := [_]) [(0, _)] 0 [] [] func16 rfl ntmps16 rfl rfl .nil ?_
 refine cj_seqF fun K1 hK1 => cj_reg ?_
 refine j_boxA (vs := [_, _]) rfl rfl fun b1 => ?_
 refine jA rfl rfl (j_nil (ej_then (hK1 _ _ _ (CJ.s [(1, _)] ⟨rfl, trivial⟩ (cj_seqF fun K2 hK2 => cj_seqF fun K3 hK3 => cj_reg (j_val rfl (fun _ _ h => r_fl (q := 0) (ft := 9) runUnderlying29 rfl sizeOf9 rfl h) (j_valw rfl (fun a w ha hH hf => r_ldH 0 rfl rfl isAgg9 rfl rfl ha hH) (j_val rfl (fun _ _ h => r_slen runUnderlying9 rfl h) (j_val rfl (fun _ _ h => r_gtr rfl rfl h) (j_nil (ej_then (hK3 _ _ _ (CJ.s [(1, _), (6, _)] ⟨rfl, rfl, trivial⟩ ?_)))))))))))))
 refine cj_dec rfl (fun _ => ?_) (fun _ => ?_)
 ·refine cj_seqF fun K4 hK4 => cj_reg (jA rfl rfl (j_nil (ej_then (hK4 _ _ _ (CJ.s [(2, _)] ⟨rfl, trivial⟩ (cj_ret (ej_then_ret (?_))))))))
  exact ej_ret1 results16 rfl fun w' hH hf => ⟨⟨_, rfl⟩, hf⟩
 ·refine cj_skip (ej_then (hK2 _ _ _ (CJ.s [(1, _)] ⟨rfl, trivial⟩ (cj_seqF fun K5 hK5 => cj_seqF fun K6 hK6 => cj_reg (j_val rfl (fun _ _ h => r_fl (q := 1) (ft := 9) runUnderlying29 rfl sizeOf9 rfl h) (j_valw rfl (fun a w ha hH hf => r_ldH 0 rfl rfl isAgg9 rfl rfl ha hH) (j_val rfl (fun _ _ h => r_slen runUnderlying9 rfl h) (j_val rfl (fun _ _ h => r_gtr rfl rfl h) (j_nil (ej_then (hK6 _ _ _ (CJ.s [(10, _)] ⟨rfl, trivial⟩ ?_))))))))))))
  refine cj_dec rfl (fun _ => ?_) (fun _ => ?_)
  ·refine cj_seqF fun K7 hK7 => cj_reg (jA rfl rfl (j_nil (ej_then (hK7 _ _ _ (CJ.s [(2, _)] ⟨rfl, trivial⟩ (cj_ret (ej_then_ret (?_))))))))
   exact ej_ret1 results16 rfl fun w' hH hf => ⟨⟨_, rfl⟩, hf⟩
  ·refine cj_skip (ej_then (hK5 _ _ _ (CJ.s [] trivial (cj_seqF fun K8 hK8 => cj_reg (jA rfl rfl (j_nil (ej_then (hK8 _ _ _ (CJ.s [(2, _)] ⟨rfl, trivial⟩ (cj_ret (?_)))))))))))
   exact ej_ret1 results16 rfl fun w' hH hf => ⟨⟨_, rfl⟩, hf⟩
theorem zzFits2_c (w : World) (v : Value) (xs : List PType) (h : Lay RType 2 w v xs) : Calls Tryz.prog 10 #[v] w (Ret fun v w' => (∃ b, v = .bool b ∧ (b = true → xs.length ≤ 2147483647)) ∧ Fr 0 [] w w') := by
 obtain ⟨p, c, rfl, hl, hx⟩ := h.open
 refine startJ (args := [_]) [(0, _)] 0 [] [] func10 rfl ntmps10 rfl rfl .nil ?_
 refine cj_seqF fun K1 hK1 => cj_reg (jA rfl rfl (j_nil (ej_then (hK1 _ _ _ (CJ.s [(0, _)] ⟨rfl, trivial⟩ (cj_seqF fun K2 hK2 => cj_seqF fun K3 hK3 => cj_reg (jM rfl rfl (j_val rfl (fun _ _ h => r_len runUnderlying22 rfl h) (j_val rfl (fun _ _ h => r_gtr rfl rfl h) (j_nil (ej_then (hK3 _ _ _ ?_))))))))))))
 refine CJ.s [(0, _), (7, _)] ⟨rfl, rfl, trivial⟩ ?_
 refine cj_dec rfl (fun hbig => ?_) (fun hbig => ?_)
 ·refine cj_seqF fun K4 hK4 => cj_reg (jA rfl rfl (j_nil (ej_then (hK4 _ _ _ (CJ.s [(2, _)] ⟨rfl, trivial⟩ (cj_ret (ej_then_ret (?_))))))))
  exact ej_ret1 results10 rfl fun w' hH hf => ⟨⟨_, rfl, by first | (intro h; exact absurd h (by decide)) | (intro _; omega)⟩, hf⟩
 ·refine cj_skip (ej_then (hK2 _ _ _ (CJ.s [(0, _)] ⟨rfl, trivial⟩ (cj_seqF fun K5 hK5 => cj_seqF fun K6 hK6 => cj_reg (jM rfl rfl (j_val rfl (fun _ _ h => r_len runUnderlying22 rfl h) (jM rfl rfl (j_nil (ej_then (hK6 _ _ _ (CJ.s [(8, _), (9, _), (10, _)] ⟨rfl, rfl, rfl, trivial⟩ (cj_block ?_))))))))))))
  -- LOOP 0 live [8, 9, 10]
  refine cj_loop (σ := Nat) (fun k => [(8, .slice p xs.length c), (9, .int .i64 (xs.length : Nat)), (10, .int .i64 (k : Nat))]) (fun _ => []) (fun k _ => k ≤ xs.length) (fun k => xs.length - k) 0 ⟨rfl, rfl, rfl, trivial⟩ (fun w hH hf => ⟨.nil, Nat.zero_le _⟩) ?_
  intro k w1 hk hf1 hH1 KL hKL
  refine C.begin _ [] hf1 .nil ?_
  refine cj_seqF fun K7 hK7 => cj_reg (j_val rfl (fun _ _ h => r_lss rfl rfl h) (j_nil (ej_then (hK7 _ _ _ (CJ.s [(8, _), (9, _), (10, _), (11, _)] ⟨rfl, rfl, rfl, rfl, trivial⟩ (cj_seqF fun K8 hK8 => ?_))))))
  refine cj_dec rfl (fun hlt => ?_) (fun hlt => ?_)
  ·have hlt' : k < xs.length := by omega
   obtain ⟨b, o, cs, rfl, hcs, hR, hcell⟩ := hx k xs[k] (List.getElem?_eq_getElem hlt')
   have hR' := hR
   unfold RType at hR
   subst hR
   refine cj_skip (ej_then (hK8 _ _ _ (CJ.s [(8, _), (9, _), (10, _)] ⟨rfl, rfl, rfl, trivial⟩ (cj_seqF fun K9 hK9 => cj_block (cj_seqF fun K10 hK10 => cj_reg (j_val rfl (fun _ _ h => r_idx runUnderlying22 sizeOf29 rfl rfl (by omega) h) (j_valw rfl (fun a w ha hH hf => r_loadA isAgg29 sizeOf29 rfl rfl (hcell w (hf.keepAll (.inr rfl))) ha) ?_)))))))
   refine j_allocA (zs := [(.string ⟨#[]⟩), (.string ⟨#[]⟩)]) zeroValue29 rfl fun b4 => ?_
   refine j_storeN (cs' := [_, _]) (H' := [_]) 0 rfl rfl rfl rfl sizeOf29 rfl rfl rfl rfl rfl rfl rfl ?_
   refine j_nil (ej_then (hK10 _ _ _ (CJ.s [(4, _), (8, _), (9, _), (10, _)] ⟨rfl, rfl, rfl, rfl, trivial⟩ (cj_seqF fun K11 hK11 => cj_reg (j_valw rfl (fun a w ha hH hf => r_ldA (vs := [_, _]) 0 rfl rfl isAgg29 sizeOf29 rfl rfl rfl ha hH) ?_)))))
   refine j_callQ (φ := fun v => ∃ b, v = .bool b) call16 rfl rfl (fun w hH hf => zzFits3_c w _ _ (RType.keep (hf.keepAll (.inr rfl)) _ _ hR')) ?_
   rintro _ ⟨b15, rfl⟩
   refine j_val rfl (fun _ _ h => r_not rfl h) (j_nil (ej_then (hK11 _ _ _ (CJ.s [(8, _), (9, _), (10, _), (16, _)] ⟨rfl, rfl, rfl, rfl, trivial⟩ ?_))))
   refine cj_if rfl (fun _ => ?_) (fun _ => ?_)
   ·refine cj_seqF fun K12 hK12 => cj_reg (jA rfl rfl (j_nil (ej_then (hK12 _ _ _ (CJ.s [(2, _)] ⟨rfl, trivial⟩ (cj_ret (ej_blk_ret (ej_then_ret (ej_then_ret (ej_blk_ret (ej_then_ret (?_))))))))))))
    exact ej_ret1 results10 rfl fun w' hH hf => ⟨⟨_, rfl, by first | (intro h; exact absurd h (by decide)) | (intro _; omega)⟩, hf⟩
   ·refine cj_skip (ej_blk (ej_then (hK9 _ _ _ (CJ.s [(8, _), (9, _), (10, _)] ⟨rfl, rfl, rfl, trivial⟩ (cj_reg (j_val rfl (fun _ _ h => r_inc (by omega) rfl rfl h) (jM rfl rfl (j_nil (ej_then ?_)))))))))
    exact fun w hH hf => hKL (k + 1) _ w hlt' hf .nil (by omega) ⟨rfl, rfl, rfl, trivial⟩
  ·refine cj_exit (ej_then_exit (ej_then_exit (ej_blk_hit (ej_then (hK5 _ _ _ (CJ.s [] trivial (cj_seqF fun K13 hK13 => cj_reg (jA rfl rfl (j_nil (ej_then (hK13 _ _ _ (CJ.s [(2, _)] ⟨rfl, trivial⟩ (cj_ret (?_))))))))))))))
   exact ej_ret1 results10 rfl fun w' hH hf => ⟨⟨_, rfl, by first | (intro h; exact absurd h (by decide)) | (intro _; omega)⟩, hf⟩
theorem zzFits8_c (w : World) (v : Value) (xs : List ByteArray) (h : Lay RStr 1 w v xs) : Calls Tryz.prog 15 #[v] w (Ret fun v w' => (∃ b, v = .bool b ∧ (b = true → xs.length ≤ 2147483647)) ∧ Fr 0 [] w w') := by
 obtain ⟨p, c, rfl, hl, hx⟩ := h.open
 refine startJ (args := [_]) [(0, _)] 0 [] [] func15 rfl ntmps15 rfl rfl .nil ?_
 refine cj_seqF fun K1 hK1 => cj_reg (jA rfl rfl (j_nil (ej_then (hK1 _ _ _ (CJ.s [(0, _)] ⟨rfl, trivial⟩ (cj_seqF fun K2 hK2 => cj_seqF fun K3 hK3 => cj_reg (jM rfl rfl (j_val rfl (fun _ _ h => r_len runUnderlying27 rfl h) (j_val rfl (fun _ _ h => r_gtr rfl rfl h) (j_nil (ej_then (hK3 _ _ _ ?_))))))))))))
 refine CJ.s [(0, _), (7, _)] ⟨rfl, rfl, trivial⟩ ?_
 refine cj_dec rfl (fun hbig => ?_) (fun hbig => ?_)
 ·refine cj_seqF fun K4 hK4 => cj_reg (jA rfl rfl (j_nil (ej_then (hK4 _ _ _ (CJ.s [(2, _)] ⟨rfl, trivial⟩ (cj_ret (ej_then_ret (?_))))))))
  exact ej_ret1 results15 rfl fun w' hH hf => ⟨⟨_, rfl, by first | (intro h; exact absurd h (by decide)) | (intro _; omega)⟩, hf⟩
 ·refine cj_skip (ej_then (hK2 _ _ _ (CJ.s [(0, _)] ⟨rfl, trivial⟩ (cj_seqF fun K5 hK5 => cj_seqF fun K6 hK6 => cj_reg (jM rfl rfl (j_val rfl (fun _ _ h => r_len runUnderlying27 rfl h) (jM rfl rfl (j_nil (ej_then (hK6 _ _ _ (CJ.s [(8, _), (9, _), (10, _)] ⟨rfl, rfl, rfl, trivial⟩ (cj_block ?_))))))))))))
  -- LOOP 0 live [8, 9, 10]
  refine cj_loop (σ := Nat) (fun k => [(8, .slice p xs.length c), (9, .int .i64 (xs.length : Nat)), (10, .int .i64 (k : Nat))]) (fun _ => []) (fun k _ => k ≤ xs.length) (fun k => xs.length - k) 0 ⟨rfl, rfl, rfl, trivial⟩ (fun w hH hf => ⟨.nil, Nat.zero_le _⟩) ?_
  intro k w1 hk hf1 hH1 KL hKL
  refine C.begin _ [] hf1 .nil ?_
  refine cj_seqF fun K7 hK7 => cj_reg (j_val rfl (fun _ _ h => r_lss rfl rfl h) (j_nil (ej_then (hK7 _ _ _ (CJ.s [(8, _), (9, _), (10, _), (11, _)] ⟨rfl, rfl, rfl, rfl, trivial⟩ (cj_seqF fun K8 hK8 => ?_))))))
  refine cj_dec rfl (fun hlt => ?_) (fun hlt => ?_)
  ·have hlt' : k < xs.length := by omega
   obtain ⟨b, o, cs, rfl, hcs, hR, hcell⟩ := hx k xs[k] (List.getElem?_eq_getElem hlt')
   unfold RStr at hR
   subst hR
   refine cj_skip (ej_then (hK8 _ _ _ (CJ.s [(8, _), (9, _), (10, _)] ⟨rfl, rfl, rfl, trivial⟩ (cj_seqF fun K9 hK9 => cj_block (cj_seqF fun K10 hK10 => cj_reg (j_val rfl (fun _ _ h => r_idx runUnderlying27 sizeOf9 rfl rfl (by omega) h) (j_valw rfl (fun a w ha hH hf => r_load isAgg9 rfl (hcell w (hf.keepAll (.inr rfl)) 0 _ rfl) ha) (jA rfl rfl (j_nil (ej_then (hK10 _ _ _ (CJ.s [(4, _), (8, _), (9, _), (10, _)] ⟨rfl, rfl, rfl, rfl, trivial⟩ (cj_seqF fun K11 hK11 => cj_reg ?_)))))))))))))
   refine jM rfl rfl (j_val rfl (fun _ _ h => r_slen runUnderlying9 rfl h) (j_val rfl (fun _ _ h => r_gtr rfl rfl h) (j_nil (ej_then (hK11 _ _ _ (CJ.s [(8, _), (9, _), (10, _), (16, _)] ⟨rfl, rfl, rfl, rfl, trivial⟩ ?_))))))
   refine cj_dec rfl (fun _ => ?_) (fun _ => ?_)
   ·refine cj_seqF fun K12 hK12 => cj_reg (jA rfl rfl (j_nil (ej_then (hK12 _ _ _ (CJ.s [(2, _)] ⟨rfl, trivial⟩ (cj_ret (ej_blk_ret (ej_then_ret (ej_then_ret (ej_blk_ret (ej_then_ret (?_))))))))))))
    exact ej_ret1 results15 rfl fun w' hH hf => ⟨⟨_, rfl, by first | (intro h; exact absurd h (by decide)) | (intro _; omega)⟩, hf⟩
   ·refine cj_skip (ej_blk (ej_then (hK9 _ _ _ (CJ.s [(8, _), (9, _), (10, _)] ⟨rfl, rfl, rfl, trivial⟩ (cj_reg (j_val rfl (fun _ _ h => r_inc (by omega) rfl rfl h) (jM rfl rfl (j_nil (ej_then ?_)))))))))
    exact fun w hH hf => hKL (k + 1) _ w hlt' hf .nil (by omega) ⟨rfl, rfl, rfl, trivial⟩
  ·refine cj_exit (ej_then_exit (ej_then_exit (ej_blk_hit (ej_then (hK5 _ _ _ (CJ.s [] trivial (cj_seqF fun K13 hK13 => cj_reg (jA rfl rfl (j_nil (ej_then (hK13 _ _ _ (CJ.s [(2, _)] ⟨rfl, trivial⟩ (cj_ret (?_))))))))))))))
   exact ej_ret1 results15 rfl fun w' hH hf => ⟨⟨_, rfl, by first | (intro h; exact absurd h (by decide)) | (intro _; omega)⟩, hf⟩
theorem zzFits7_c (w : World) (cs : List Value) (x : PTexts) (h : RTexts w cs x) : Calls Tryz.prog 74 #[.agg cs.toArray] w (Ret fun v w' => (∃ b, v = .bool b) ∧ Fr 0 [] w w') := by
 obtain ⟨la, rfl, hla⟩ := h
 refine startJ (args := [_]) [(0, _)] 0 [] [] func74 rfl ntmps74 rfl rfl .nil ?_
 refine cj_seqF fun K1 hK1 => cj_reg ?_
 refine j_boxA (vs := [_, _]) rfl rfl fun b1 => ?_
 refine jA rfl rfl (j_nil (ej_then (hK1 _ _ _ (CJ.s [(1, _)] ⟨rfl, trivial⟩ (cj_seqF fun K2 hK2 => cj_seqF fun K3 hK3 => cj_reg (j_val rfl (fun _ _ h => r_fl (q := 0) (ft := 9) runUnderlying96 rfl sizeOf9 rfl h) (j_valw rfl (fun a w ha hH hf => r_ldH 0 rfl rfl isAgg9 rfl rfl ha hH) (j_val rfl (fun _ _ h => r_slen runUnderlying9 rfl h) (j_val rfl (fun _ _ h => r_gtr rfl rfl h) (j_nil (ej_then (hK3 _ _ _ (CJ.s [(1, _), (6, _)] ⟨rfl, rfl, trivial⟩ ?_)))))))))))))
 refine cj_dec rfl (fun _ => ?_) (fun _ => ?_)
 ·refine cj_seqF fun K4 hK4 => cj_reg (jA rfl rfl (j_nil (ej_then (hK4 _ _ _ (CJ.s [(2, _)] ⟨rfl, trivial⟩ (cj_ret (ej_then_ret (?_))))))))
  exact ej_ret1 results74 rfl fun w' hH hf => ⟨⟨_, rfl⟩, hf⟩
 ·refine cj_skip (ej_then (hK2 _ _ _ (CJ.s [(1, _)] ⟨rfl, trivial⟩ (cj_seqF fun K5 hK5 => cj_seqF fun K6 hK6 => cj_reg (j_val rfl (fun _ _ h => r_fl (q := 1) (ft := 27) runUnderlying96 rfl sizeOf27 rfl h) (j_valw rfl (fun a w ha hH hf => r_ldH 0 rfl rfl isAgg27 rfl rfl ha hH) ?_))))))
  refine j_callQ (φ := fun v => ∃ b, v = .bool b ∧ (b = true → x.list.length ≤ 2147483647)) call15 rfl rfl (fun w hH hf => zzFits8_c w _ _ (hla.keep (RStr.keep (hf.keepAll (.inr rfl))) (hf.keepAll (.inr rfl)))) ?_
  rintro _ ⟨b9, rfl, hb9⟩
  refine j_val rfl (fun _ _ h => r_not rfl h) (j_nil (ej_then (hK6 _ _ _ (CJ.s [(10, _)] ⟨rfl, trivial⟩ ?_))))
  refine cj_if rfl (fun _ => ?_) (fun _ => ?_)
  ·refine cj_seqF fun K7 hK7 => cj_reg (jA rfl rfl (j_nil (ej_then (hK7 _ _ _ (CJ.s [(2, _)] ⟨rfl, trivial⟩ (cj_ret (ej_then_ret (?_))))))))
   exact ej_ret1 results74 rfl fun w' hH hf => ⟨⟨_, rfl⟩, hf⟩
  ·refine cj_skip (ej_then (hK5 _ _ _ (CJ.s [] trivial (cj_seqF fun K8 hK8 => cj_reg (jA rfl rfl (j_nil (ej_then (hK8 _ _ _ (CJ.s [(2, _)] ⟨rfl, trivial⟩ (cj_ret (?_)))))))))))
   exact ej_ret1 results74 rfl fun w' hH hf => ⟨⟨_, rfl⟩, hf⟩
theorem zzFits6_c (w : World) (v : Value) (xs : List PTexts) (h : Lay RTexts 2 w v xs) : Calls Tryz.prog 64 #[v] w (Ret fun v w' => (∃ b, v = .bool b ∧ (b = true → xs.length ≤ 2147483647)) ∧ Fr 0 [] w w') := by
 obtain ⟨p, c, rfl, hl, hx⟩ := h.open
 refine startJ (args := [_]) [(0, _)] 0 [] [] func64 rfl ntmps64 rfl rfl .nil ?_
 refine cj_seqF fun K1 hK1 => cj_reg (jA rfl rfl (j_nil (ej_then (hK1 _ _ _ (CJ.s [(0, _)] ⟨rfl, trivial⟩ (cj_seqF fun K2 hK2 => cj_seqF fun K3 hK3 => cj_reg (jM rfl rfl (j_val rfl (fun _ _ h => r_len runUnderlying47 rfl h) (j_val rfl (fun _ _ h => r_gtr rfl rfl h) (j_nil (ej_then (hK3 _ _ _ ?_))))))))))))
 refine CJ.s [(0, _), (7, _)] ⟨rfl, rfl, trivial⟩ ?_
 refine cj_dec rfl (fun hbig => ?_) (fun hbig => ?_)
 ·refine cj_seqF fun K4 hK4 => cj_reg (jA rfl rfl (j_nil (ej_then (hK4 _ _ _ (CJ.s [(2, _)] ⟨rfl, trivial⟩ (cj_ret (ej_then_ret (?_))))))))
  exact ej_ret1 results64 rfl fun w' hH hf => ⟨⟨_, rfl, by first | (intro h; exact absurd h (by decide)) | (intro _; omega)⟩, hf⟩
 ·refine cj_skip (ej_then (hK2 _ _ _ (CJ.s [(0, _)] ⟨rfl, trivial⟩ (cj_seqF fun K5 hK5 => cj_seqF fun K6 hK6 => cj_reg (jM rfl rfl (j_val rfl (fun _ _ h => r_len runUnderlying47 rfl h) (jM rfl rfl (j_nil (ej_then (hK6 _ _ _ (CJ.s [(8, _), (9, _), (10, _)] ⟨rfl, rfl, rfl, trivial⟩ (cj_block ?_))))))))))))
  -- LOOP 0 live [8, 9, 10]
  refine cj_loop (σ := Nat) (fun k => [(8, .slice p xs.length c), (9, .int .i64 (xs.length : Nat)), (10, .int .i64 (k : Nat))]) (fun _ => []) (fun k _ => k ≤ xs.length) (fun k => xs.length - k) 0 ⟨rfl, rfl, rfl, trivial⟩ (fun w hH hf => ⟨.nil, Nat.zero_le _⟩) ?_
  intro k w1 hk hf1 hH1 KL hKL
  refine C.begin _ [] hf1 .nil ?_
  refine cj_seqF fun K7 hK7 => cj_reg (j_val rfl (fun _ _ h => r_lss rfl rfl h) (j_nil (ej_then (hK7 _ _ _ (CJ.s [(8, _), (9, _), (10, _), (11, _)] ⟨rfl, rfl, rfl, rfl, trivial⟩ (cj_seqF fun K8 hK8 => ?_))))))
  refine cj_dec rfl (fun hlt => ?_) (fun hlt => ?_)
  ·have hlt' : k < xs.length := by omega
   obtain ⟨b, o, cs, rfl, hcs, hR, hcell⟩ := hx k xs[k] (List.getElem?_eq_getElem hlt')
   have hR' := hR
   obtain ⟨la, rfl, hla⟩ := hR
   obtain ⟨p1, c1, rfl, hl1, -⟩ := hla.open
   refine cj_skip (ej_then (hK8 _ _ _ (CJ.s [(8, _), (9, _), (10, _)] ⟨rfl, rfl, rfl, trivial⟩ (cj_seqF fun K9 hK9 => cj_block (cj_seqF fun K10 hK10 => cj_reg (j_val rfl (fun _ _ h => r_idx runUnderlying47 sizeOf96 rfl rfl (by omega) h) (j_valw rfl (fun a w ha hH hf => r_loadA isAgg96 sizeOf96 rfl rfl (hcell w (hf.keepAll (.inr rfl))) ha) ?_)))))))
   refine j_allocA (zs := [(.string ⟨#[]⟩), (.slice none 0 0)]) zeroValue96 rfl fun b4 => ?_
   refine j_storeN (cs' := [_, _]) (H' := [_]) 0 rfl rfl rfl rfl sizeOf96 rfl rfl rfl rfl rfl rfl rfl ?_
   refine j_nil (ej_then (hK10 _ _ _ (CJ.s [(4, _), (8, _), (9, _), (10, _)] ⟨rfl, rfl, rfl, rfl, trivial⟩ (cj_seqF fun K11 hK11 => cj_reg (j_valw rfl (fun a w ha hH hf => r_ldA (vs := [_, _]) 0 rfl rfl isAgg96 sizeOf96 rfl rfl rfl ha hH) ?_)))))
   refine j_callQ (φ := fun v => ∃ b, v = .bool b) call74 rfl rfl (fun w hH hf => zzFits7_c w _ _ (RTexts.keep (hf.keepAll (.inr rfl)) _ _ hR')) ?_
   rintro _ ⟨b15, rfl⟩
   refine j_val rfl (fun _ _ h => r_not rfl h) (j_nil (ej_then (hK11 _ _ _ (CJ.s [(8, _), (9, _), (10, _), (16, _)] ⟨rfl, rfl, rfl, rfl, trivial⟩ ?_))))
   refine cj_if rfl (fun _ => ?_) (fun _ => ?_)
   ·refine cj_seqF fun K12 hK12 => cj_reg (jA rfl rfl (j_nil (ej_then (hK12 _ _ _ (CJ.s [(2, _)] ⟨rfl, trivial⟩ (cj_ret (ej_blk_ret (ej_then_ret (ej_then_ret (ej_blk_ret (ej_then_ret (?_))))))))))))
    exact ej_ret1 results64 rfl fun w' hH hf => ⟨⟨_, rfl, by first | (intro h; exact absurd h (by decide)) | (intro _; omega)⟩, hf⟩
   ·refine cj_skip (ej_blk (ej_then (hK9 _ _ _ (CJ.s [(8, _), (9, _), (10, _)] ⟨rfl, rfl, rfl, trivial⟩ (cj_reg (j_val rfl (fun _ _ h => r_inc (by omega) rfl rfl h) (jM rfl rfl (j_nil (ej_then ?_)))))))))
    exact fun w hH hf => hKL (k + 1) _ w hlt' hf .nil (by omega) ⟨rfl, rfl, rfl, trivial⟩
  ·refine cj_exit (ej_then_exit (ej_then_exit (ej_blk_hit (ej_then (hK5 _ _ _ (CJ.s [] trivial (cj_seqF fun K13 hK13 => cj_reg (jA rfl rfl (j_nil (ej_then (hK13 _ _ _ (CJ.s [(2, _)] ⟨rfl, trivial⟩ (cj_ret (?_))))))))))))))
   exact ej_ret1 results64 rfl fun w' hH hf => ⟨⟨_, rfl, by first | (intro h; exact absurd h (by decide)) | (intro _; omega)⟩, hf⟩
theorem zzFits10_c (w : World) (cs : List Value) (x : PNums) (h : RNums w cs x) : Calls Tryz.prog 75 #[.agg cs.toArray] w (Ret fun v w' => (∃ b, v = .bool b) ∧ Fr 0 [] w w') := by
 obtain ⟨la, rfl, hla⟩ := h
 obtain ⟨p1, c1, rfl, hl1, -⟩ := hla.open
 refine startJ (args := [_]) [(0, _)] 0 [] [] func75 rfl ntmps75 rfl rfl .nil ?_
 refine cj_seqF fun K1 hK1 => cj_reg ?_
 refine j_boxA (vs := [_, _]) rfl rfl fun b1 => ?_
 refine jA rfl rfl (j_nil (ej_then (hK1 _ _ _ (CJ.s [(1, _)] ⟨rfl, trivial⟩ (cj_seqF fun K2 hK2 => cj_seqF fun K3 hK3 => cj_reg (j_val rfl (fun _ _ h => r_fl (q := 0) (ft := 9) runUnderlying99 rfl sizeOf9 rfl h) (j_valw rfl (fun a w ha hH hf => r_ldH 0 rfl rfl isAgg9 rfl rfl ha hH) (j_val rfl (fun _ _ h => r_slen runUnderlying9 rfl h) (j_val rfl (fun _ _ h => r_gtr rfl rfl h) (j_nil (ej_then (hK3 _ _ _ (CJ.s [(1, _), (6, _)] ⟨rfl, rfl, trivial⟩ ?_)))))))))))))
 refine cj_dec rfl (fun _ => ?_) (fun _ => ?_)
 ·refine cj_seqF fun K4 hK4 => cj_reg (jA rfl rfl (j_nil (ej_then (hK4 _ _ _ (CJ.s [(2, _)] ⟨rfl, trivial⟩ (cj_ret (ej_then_ret (?_))))))))
  exact ej_ret1 results75 rfl fun w' hH hf => ⟨⟨_, rfl⟩, hf⟩
 ·refine cj_skip (ej_then (hK2 _ _ _ (CJ.s [(1, _)] ⟨rfl, trivial⟩ (cj_seqF fun K5 hK5 => cj_seqF fun K6 hK6 => cj_reg (j_val rfl (fun _ _ h => r_fl (q := 1) (ft := 46) runUnderlying99 rfl sizeOf46 rfl h) (j_valw rfl (fun a w ha hH hf => r_ldH 0 rfl rfl isAgg46 rfl rfl ha hH) (j_val rfl (fun _ _ h => r_len runUnderlying46 rfl h) (j_val rfl (fun _ _ h => r_gtr rfl rfl h) (j_nil (ej_then (hK6 _ _ _ (CJ.s [(10, _)] ⟨rfl, trivial⟩ ?_))))))))))))
  refine cj_dec rfl (fun _ => ?_) (fun _ => ?_)
  ·refine cj_seqF fun K7 hK7 => cj_reg (jA rfl rfl (j_nil (ej_then (hK7 _ _ _ (CJ.s [(2, _)] ⟨rfl, trivial⟩ (cj_ret (ej_then_ret (?_))))))))
   exact ej_ret1 results75 rfl fun w' hH hf => ⟨⟨_, rfl⟩, hf⟩
  ·refine cj_skip (ej_then (hK5 _ _ _ (CJ.s [] trivial (cj_seqF fun K8 hK8 => cj_reg (jA rfl rfl (j_nil (ej_then (hK8 _ _ _ (CJ.s [(2, _)] ⟨rfl, trivial⟩ (cj_ret (?_)))))))))))
   exact ej_ret1 results75 rfl fun w' hH hf => ⟨⟨_, rfl⟩, hf⟩
theorem zzFits9_c (w : World) (v : Value) (xs : List PNums) (h : Lay RNums 2 w v xs) : Calls Tryz.prog 65 #[v] w (Ret fun v w' => (∃ b, v = .bool b ∧ (b = true → xs.length ≤ 2147483647)) ∧ Fr 0 [] w w') := by
 obtain ⟨p, c, rfl, hl, hx⟩ := h.open
 refine startJ (args := [_]) [(0, _)] 0 [] [] func65 rfl ntmps65 rfl rfl .nil ?_
 refine cj_seqF fun K1 hK1 => cj_reg (jA rfl rfl (j_nil (ej_then (hK1 _ _ _ (CJ.s [(0, _)] ⟨rfl, trivial⟩ (cj_seqF fun K2 hK2 => cj_seqF fun K3 hK3 => cj_reg (jM rfl rfl (j_val rfl (fun _ _ h => r_len runUnderlying48 rfl h) (j_val rfl (fun _ _ h => r_gtr rfl rfl h) (j_nil (ej_then (hK3 _ _ _ ?_))))))))))))
 refine CJ.s [(0, _), (7, _)] ⟨rfl, rfl, trivial⟩ ?_
 refine cj_dec rfl (fun hbig => ?_) (fun hbig => ?_)
 ·refine cj_seqF fun K4 hK4 => cj_reg (jA rfl rfl (j_nil (ej_then (hK4 _ _ _ (CJ.s [(2, _)] ⟨rfl, trivial⟩ (cj_ret (ej_then_ret (?_))))))))
  exact ej_ret1 results65 rfl fun w' hH hf => ⟨⟨_, rfl, by first | (intro h; exact absurd h (by decide)) | (intro _; omega)⟩, hf⟩
 ·refine cj_skip (ej_then (hK2 _ _ _ (CJ.s [(0, _)] ⟨rfl, trivial⟩ (cj_seqF fun K5 hK5 => cj_seqF fun K6 hK6 => cj_reg (jM rfl rfl (j_val rfl (fun _ _ h => r_len runUnderlying48 rfl h) (jM rfl rfl (j_nil (ej_then (hK6 _ _ _ (CJ.s [(8, _), (9, _), (10, _)] ⟨rfl, rfl, rfl, trivial⟩ (cj_block ?_))))))))))))
  -- LOOP 0 live [8, 9, 10]
  refine cj_loop (σ := Nat) (fun k => [(8, .slice p xs.length c), (9, .int .i64 (xs.length : Nat)), (10, .int .i64 (k : Nat))]) (fun _ => []) (fun k _ => k ≤ xs.length) (fun k => xs.length - k) 0 ⟨rfl, rfl, rfl, trivial⟩ (fun w hH hf => ⟨.nil, Nat.zero_le _⟩) ?_
  intro k w1 hk hf1 hH1 KL hKL
  refine C.begin _ [] hf1 .nil ?_
  refine cj_seqF fun K7 hK7 => cj_reg (j_val rfl (fun _ _ h => r_lss rfl rfl h) (j_nil (ej_then (hK7 _ _ _ (CJ.s [(8, _), (9, _), (10, _), (11, _)] ⟨rfl, rfl, rfl, rfl, trivial⟩ (cj_seqF fun K8 hK8 => ?_))))))
  refine cj_dec rfl (fun hlt => ?_) (fun hlt => ?_)
  ·have hlt' : k < xs.length := by omega
   obtain ⟨b, o, cs, rfl, hcs, hR, hcell⟩ := hx k xs[k] (List.getElem?_eq_getElem hlt')
   have hR' := hR
   obtain ⟨la, rfl, hla⟩ := hR
   obtain ⟨p1, c1, rfl, hl1, -⟩ := hla.open
   refine cj_skip (ej_then (hK8 _ _ _ (CJ.s [(8, _), (9, _), (10, _)] ⟨rfl, rfl, rfl, trivial⟩ (cj_seqF fun K9 hK9 => cj_block (cj_seqF fun K10 hK10 => cj_reg (j_val rfl (fun _ _ h => r_idx runUnderlying48 sizeOf99 rfl rfl (by omega) h) (j_valw rfl (fun a w ha hH hf => r_loadA isAgg99 sizeOf99 rfl rfl (hcell w (hf.keepAll (.inr rfl))) ha) ?_)))))))
   refine j_allocA (zs := [(.string ⟨#[]⟩), (.slice none 0 0)]) zeroValue99 rfl fun b4 => ?_
   refine j_storeN (cs' := [_, _]) (H' := [_]) 0 rfl rfl rfl rfl sizeOf99 rfl rfl rfl rfl rfl rfl rfl ?_
   refine j_nil (ej_then (hK10 _ _ _ (CJ.s [(4, _), (8, _), (9, _), (10, _)] ⟨rfl, rfl, rfl, rfl, trivial⟩ (cj_seqF fun K11 hK11 => cj_reg (j_valw rfl (fun a w ha hH hf => r_ldA (vs := [_, _]) 0 rfl rfl isAgg99 sizeOf99 rfl rfl rfl ha hH) ?_)))))
   refine j_callQ (φ := fun v => ∃ b, v = .bool b) call75 rfl rfl (fun w hH hf => zzFits10_c w _ _ (RNums.keep (hf.keepAll (.inr rfl)) _ _ hR')) ?_
   rintro _ ⟨b15, rfl⟩
   refine j_val rfl (fun _ _ h => r_not rfl h) (j_nil (ej_then (hK11 _ _ _ (CJ.s [(8, _), (9, _), (10, _), (16, _)] ⟨rfl, rfl, rfl, rfl, trivial⟩ ?_))))
   refine cj_if rfl (fun _ => ?_) (fun _ => ?_)
   ·refine cj_seqF fun K12 hK12 => cj_reg (jA rfl rfl (j_nil (ej_then (hK12 _ _ _ (CJ.s [(2, _)] ⟨rfl, trivial⟩ (cj_ret (ej_blk_ret (ej_then_ret (ej_then_ret (ej_blk_ret (ej_then_ret (?_))))))))))))
    exact ej_ret1 results65 rfl fun w' hH hf => ⟨⟨_, rfl, by first | (intro h; exact absurd h (by decide)) | (intro _; omega)⟩, hf⟩
   ·refine cj_skip (ej_blk (ej_then (hK9 _ _ _ (CJ.s [(8, _), (9, _), (10, _)] ⟨rfl, rfl, rfl, trivial⟩ (cj_reg (j_val rfl (fun _ _ h => r_inc (by omega) rfl rfl h) (jM rfl rfl (j_nil (ej_then ?_)))))))))
    exact fun w hH hf => hKL (k + 1) _ w hlt' hf .nil (by omega) ⟨rfl, rfl, rfl, trivial⟩
  ·refine cj_exit (ej_then_exit (ej_then_exit (ej_blk_hit (ej_then (hK5 _ _ _ (CJ.s [] trivial (cj_seqF fun K13 hK13 => cj_reg (jA rfl rfl (j_nil (ej_then (hK13 _ _ _ (CJ.s [(2, _)] ⟨rfl, trivial⟩ (cj_ret (?_))))))))))))))
   exact ej_ret1 results65 rfl fun w' hH hf => ⟨⟨_, rfl, by first | (intro h; exact absurd h (by decide)) | (intro _; omega)⟩, hf⟩
theorem zzFits5_c (w : World) (cs : List Value) (x : PSample) (h : RSample w cs x) : Calls Tryz.prog 37 #[.agg cs.toArray] w (Ret fun v w' => (∃ b, v = .bool b) ∧ Fr 0 [] w w') := by
 obtain ⟨la, lb, lt, lu, rfl, hla, hlb, hlt, hlu⟩ := h
 obtain ⟨p1, c1, rfl, hl1, -⟩ := hla.open
 obtain ⟨p2, c2, rfl, hl2, -⟩ := hlb.open
 refine startJ (args := [_]) [(0, _)] 0 [] [] func37 rfl ntmps37 rfl rfl .nil ?_
 refine cj_seqF fun K1 hK1 => cj_reg ?_
 refine j_boxA (vs := [_, _, _, _]) rfl rfl fun b1 => ?_
 refine jA rfl rfl (j_nil (ej_then (hK1 _ _ _ (CJ.s [(1, _)] ⟨rfl, trivial⟩ (cj_seqF fun K2 hK2 => cj_seqF fun K3 hK3 => cj_reg (j_val rfl (fun _ _ h => r_fl (q := 0) (ft := 45) runUnderlying50 rfl sizeOf45 rfl h) (j_valw rfl (fun a w ha hH hf => r_ldH 0 rfl rfl isAgg45 rfl rfl ha hH) (j_val rfl (fun _ _ h => r_len runUnderlying45 rfl h) (j_val rfl (fun _ _ h => r_gtr rfl rfl h) (j_nil (ej_then (hK3 _ _ _ (CJ.s [(1, _), (6, _)] ⟨rfl, rfl, trivial⟩ ?_)))))))))))))
 refine cj_dec rfl (fun _ => ?_) (fun _ => ?_)
 ·refine cj_seqF fun K4 hK4 => cj_reg (jA rfl rfl (j_nil (ej_then (hK4 _ _ _ (CJ.s [(2, _)] ⟨rfl, trivial⟩ (cj_ret (ej_then_ret (?_))))))))
  exact ej_ret1 results37 rfl fun w' hH hf => ⟨⟨_, rfl⟩, hf⟩
 ·refine cj_skip (ej_then (hK2 _ _ _ (CJ.s [(1, _)] ⟨rfl, trivial⟩ (cj_seqF fun K5 hK5 => cj_seqF fun K6 hK6 => cj_reg (j_val rfl (fun _ _ h => r_fl (q := 1) (ft := 46) runUnderlying50 rfl sizeOf46 rfl h) (j_valw rfl (fun a w ha hH hf => r_ldH 0 rfl rfl isAgg46 rfl rfl ha hH) (j_val rfl (fun _ _ h => r_len runUnderlying46 rfl h) (j_val rfl (fun _ _ h => r_gtr rfl rfl h) (j_nil (ej_then (hK6 _ _ _ (CJ.s [(1, _), (10, _)] ⟨rfl, rfl, trivial⟩ ?_))))))))))))
  refine cj_dec rfl (fun _ => ?_) (fun _ => ?_)
  ·refine cj_seqF fun K7 hK7 => cj_reg (jA rfl rfl (j_nil (ej_then (hK7 _ _ _ (CJ.s [(2, _)] ⟨rfl, trivial⟩ (cj_ret (ej_then_ret (?_))))))))
   exact ej_ret1 results37 rfl fun w' hH hf => ⟨⟨_, rfl⟩, hf⟩
  ·refine cj_skip (ej_then (hK5 _ _ _ (CJ.s [(1, _)] ⟨rfl, trivial⟩ (cj_seqF fun K8 hK8 => cj_seqF fun K9 hK9 => cj_reg (j_val rfl (fun _ _ h => r_fl (q := 2) (ft := 47) runUnderlying50 rfl sizeOf47 rfl h) (j_valw rfl (fun a w ha hH hf => r_ldH 0 rfl rfl isAgg47 rfl rfl ha hH) ?_))))))
   refine j_callQ (φ := fun v => ∃ b, v = .bool b ∧ (b = true → x.texts.length ≤ 2147483647)) call64 rfl rfl (fun w hH hf => zzFits6_c w _ _ (hlt.keep (RTexts.keep (hf.keepAll (.inr rfl))) (hf.keepAll (.inr rfl)))) ?_
   rintro _ ⟨b13, rfl, hb13⟩
   refine j_val rfl (fun _ _ h => r_not rfl h) (j_nil (ej_then (hK9 _ _ _ (CJ.s [(1, _), (14, _)] ⟨rfl, rfl, trivial⟩ ?_))))
   refine cj_if rfl (fun _ => ?_) (fun _ => ?_)
   ·refine cj_seqF fun K10 hK10 => cj_reg (jA rfl rfl (j_nil (ej_then (hK10 _ _ _ (CJ.s [(2, _)] ⟨rfl, trivial⟩ (cj_ret (ej_then_ret (?_))))))))
    exact ej_ret1 results37 rfl fun w' hH hf => ⟨⟨_, rfl⟩, hf⟩
   ·refine cj_skip (ej_then (hK8 _ _ _ (CJ.s [(1, _)] ⟨rfl, trivial⟩ (cj_seqF fun K11 hK11 => cj_seqF fun K12 hK12 => cj_reg (j_val rfl (fun _ _ h => r_fl (q := 3) (ft := 48) runUnderlying50 rfl sizeOf48 rfl h) (j_valw rfl (fun a w ha hH hf => r_ldH 0 rfl rfl isAgg48 rfl rfl ha hH) ?_))))))
    refine j_callQ (φ := fun v => ∃ b, v = .bool b ∧ (b = true → x.nums.length ≤ 2147483647)) call65 rfl rfl (fun w hH hf => zzFits9_c w _ _ (hlu.keep (RNums.keep (hf.keepAll (.inr rfl))) (hf.keepAll (.inr rfl)))) ?_
    rintro _ ⟨b17, rfl, hb17⟩
    refine j_val rfl (fun _ _ h => r_not rfl h) (j_nil (ej_then (hK12 _ _ _ (CJ.s [(18, _)] ⟨rfl, trivial⟩ ?_))))
    refine cj_if rfl (fun _ => ?_) (fun _ => ?_)
    ·refine cj_seqF fun K13 hK13 => cj_reg (jA rfl rfl (j_nil (ej_then (hK13 _ _ _ (CJ.s [(2, _)] ⟨rfl, trivial⟩ (cj_ret (ej_then_ret (?_))))))))
     exact ej_ret1 results37 rfl fun w' hH hf => ⟨⟨_, rfl⟩, hf⟩
    ·refine cj_skip (ej_then (hK11 _ _ _ (CJ.s [] trivial (cj_seqF fun K14 hK14 => cj_reg (jA rfl rfl (j_nil (ej_then (hK14 _ _ _ (CJ.s [(2, _)] ⟨rfl, trivial⟩ (cj_ret (?_)))))))))))
     exact ej_ret1 results37 rfl fun w' hH hf => ⟨⟨_, rfl⟩, hf⟩
theorem zzFits4_c (w : World) (v : Value) (xs : List PSample) (h : Lay RSample 4 w v xs) : Calls Tryz.prog 11 #[v] w (Ret fun v w' => (∃ b, v = .bool b ∧ (b = true → xs.length ≤ 2147483647)) ∧ Fr 0 [] w w') := by
 obtain ⟨p, c, rfl, hl, hx⟩ := h.open
 refine startJ (args := [_]) [(0, _)] 0 [] [] func11 rfl ntmps11 rfl rfl .nil ?_
 refine cj_seqF fun K1 hK1 => cj_reg (jA rfl rfl (j_nil (ej_then (hK1 _ _ _ (CJ.s [(0, _)] ⟨rfl, trivial⟩ (cj_seqF fun K2 hK2 => cj_seqF fun K3 hK3 => cj_reg (jM rfl rfl (j_val rfl (fun _ _ h => r_len runUnderlying23 rfl h) (j_val rfl (fun _ _ h => r_gtr rfl rfl h) (j_nil (ej_then (hK3 _ _ _ ?_))))))))))))
 refine CJ.s [(0, _), (7, _)] ⟨rfl, rfl, trivial⟩ ?_
 refine cj_dec rfl (fun hbig => ?_) (fun hbig => ?_)
 ·refine cj_seqF fun K4 hK4 => cj_reg (jA rfl rfl (j_nil (ej_then (hK4 _ _ _ (CJ.s [(2, _)] ⟨rfl, trivial⟩ (cj_ret (ej_then_ret (?_))))))))
  exact ej_ret1 results11 rfl fun w' hH hf => ⟨⟨_, rfl, by first | (intro h; exact absurd h (by decide)) | (intro _; omega)⟩, hf⟩
 ·refine cj_skip (ej_then (hK2 _ _ _ (CJ.s [(0, _)] ⟨rfl, trivial⟩ (cj_seqF fun K5 hK5 => cj_seqF fun K6 hK6 => cj_reg (jM rfl rfl (j_val rfl (fun _ _ h => r_len runUnderlying23 rfl h) (jM rfl rfl (j_nil (ej_then (hK6 _ _ _ (CJ.s [(8, _), (9, _), (10, _)] ⟨rfl, rfl, rfl, trivial⟩ (cj_block ?_))))))))))))
  -- LOOP 0 live [8, 9, 10]
  refine cj_loop (σ := Nat) (fun k => [(8, .slice p xs.length c), (9, .int .i64 (xs.length : Nat)), (10, .int .i64 (k : Nat))]) (fun _ => []) (fun k _ => k ≤ xs.length) (fun k => xs.length - k) 0 ⟨rfl, rfl, rfl, trivial⟩ (fun w hH hf => ⟨.nil, Nat.zero_le _⟩) ?_
  intro k w1 hk hf1 hH1 KL hKL
  refine C.begin _ [] hf1 .nil ?_
  refine cj_seqF fun K7 hK7 => cj_reg (j_val rfl (fun _ _ h => r_lss rfl rfl h) (j_nil (ej_then (hK7 _ _ _ (CJ.s [(8, _), (9, _), (10, _), (11, _)] ⟨rfl, rfl, rfl, rfl, trivial⟩ (cj_seqF fun K8 hK8 => ?_))))))
  refine cj_dec rfl (fun hlt => ?_) (fun hlt => ?_)
  ·have hlt' : k < xs.length := by omega
   obtain ⟨b, o, cs, rfl, hcs, hR, hcell⟩ := hx k xs[k] (List.getElem?_eq_getElem hlt')
   have hR' := hR
   obtain ⟨la, lb, lt, lu, rfl, hla, hlb, hlt2, hlu⟩ := hR
   obtain ⟨p1, c1, rfl, hl1, -⟩ := hla.open
   obtain ⟨p2, c2, rfl, hl2, -⟩ := hlb.open
   obtain ⟨p3, c3, rfl, hl3, -⟩ := hlt2.open
   obtain ⟨p4, c4, rfl, hl4, -⟩ := hlu.open
   refine cj_skip (ej_then (hK8 _ _ _ (CJ.s [(8, _), (9, _), (10, _)] ⟨rfl, rfl, rfl, trivial⟩ (cj_seqF fun K9 hK9 => cj_block (cj_seqF fun K10 hK10 => cj_reg (j_val rfl (fun _ _ h => r_idx runUnderlying23 sizeOf50 rfl rfl (by omega) h) (j_valw rfl (fun a w ha hH hf => r_loadA isAgg50 sizeOf50 rfl rfl (hcell w (hf.keepAll (.inr rfl))) ha) ?_)))))))
   refine j_allocA (zs := [(.slice none 0 0), (.slice none 0 0), (.slice none 0 0), (.slice none 0 0)]) zeroValue50 rfl fun b4 => ?_
   refine j_storeN (cs' := [_, _, _, _]) (H' := [_]) 0 rfl rfl rfl rfl sizeOf50 rfl rfl rfl rfl rfl rfl rfl ?_
   refine j_nil (ej_then (hK10 _ _ _ (CJ.s [(4, _), (8, _), (9, _), (10, _)] ⟨rfl, rfl, rfl, rfl, trivial⟩ (cj_seqF fun K11 hK11 => cj_reg (j_valw rfl (fun a w ha hH hf => r_ldA (vs := [_, _, _, _]) 0 rfl rfl isAgg50 sizeOf50 rfl rfl rfl ha hH) ?_)))))
   refine j_callQ (φ := fun v => ∃ b, v = .bool b) call37 rfl rfl (fun w hH hf => zzFits5_c w _ _ (RSample.keep (hf.keepAll (.inr rfl)) _ _ hR')) ?_
   rintro _ ⟨b15, rfl⟩
   refine j_val rfl (fun _ _ h => r_not rfl h) (j_nil (ej_then (hK11 _ _ _ (CJ.s [(8, _), (9, _), (10, _), (16, _)] ⟨rfl, rfl, rfl, rfl, trivial⟩ ?_))))
   refine cj_if rfl (fun _ => ?_) (fun _ => ?_)
   ·refine cj_seqF fun K12 hK12 => cj_reg (jA rfl rfl (j_nil (ej_then (hK12 _ _ _ (CJ.s [(2, _)] ⟨rfl, trivial⟩ (cj_ret (ej_blk_ret (ej_then_ret (ej_then_ret (ej_blk_ret (ej_then_ret (?_))))))))))))
    exact ej_ret1 results11 rfl fun w' hH hf => ⟨⟨_, rfl, by first | (intro h; exact absurd h (by decide)) | (intro _; omega)⟩, hf⟩
   ·refine cj_skip (ej_blk (ej_then (hK9 _ _ _ (CJ.s [(8, _), (9, _), (10, _)] ⟨rfl, rfl, rfl, trivial⟩ (cj_reg (j_val rfl (fun _ _ h => r_inc (by omega) rfl rfl h) (jM rfl rfl (j_nil (ej_then ?_)))))))))
    exact fun w hH hf => hKL (k + 1) _ w hlt' hf .nil (by omega) ⟨rfl, rfl, rfl, trivial⟩
  ·refine cj_exit (ej_then_exit (ej_then_exit (ej_blk_hit (ej_then (hK5 _ _ _ (CJ.s [] trivial (cj_seqF fun K13 hK13 => cj_reg (jA rfl rfl (j_nil (ej_then (hK13 _ _ _ (CJ.s [(2, _)] ⟨rfl, trivial⟩ (cj_ret (?_))))))))))))))
   exact ej_ret1 results11 rfl fun w' hH hf => ⟨⟨_, rfl, by first | (intro h; exact absurd h (by decide)) | (intro _; omega)⟩, hf⟩
theorem zzFits12_c (w : World) (cs : List Value) (x : PMapping) (h : RMapping w cs x) : Calls Tryz.prog 38 #[.agg cs.toArray] w (Ret fun v w' => (∃ b, v = .bool b) ∧ Fr 0 [] w w') := by
 obtain ⟨rfl, -⟩ := h
 refine startJ (args := [_]) [(0, _)] 0 [] [] func38 rfl ntmps38 rfl rfl .nil ?_
 refine cj_seqF fun K1 hK1 => cj_reg ?_
 refine j_boxA (vs := [_, _, _, _, _, _, _, _, _, _]) rfl rfl fun b1 => ?_
 refine jA rfl rfl (j_nil (ej_then (hK1 _ _ _ (CJ.s [(1, _)] ⟨rfl, trivial⟩ (cj_seqF fun K2 hK2 => cj_seqF fun K3 hK3 => cj_reg (j_val rfl (fun _ _ h => r_fl (q := 4) (ft := 9) runUnderlying70 rfl sizeOf9 rfl h) (j_valw rfl (fun a w ha hH hf => r_ldH 0 rfl rfl isAgg9 rfl rfl ha hH) (j_val rfl (fun _ _ h => r_slen runUnderlying9 rfl h) (j_val rfl (fun _ _ h => r_gtr rfl rfl h) (j_nil (ej_then (hK3 _ _ _ (CJ.s [(1, _), (6, _)] ⟨rfl, rfl, trivial⟩ ?_)))))))))))))
 refine cj_dec rfl (fun _ => ?_) (fun _ => ?_)
 ·refine cj_seqF fun K4 hK4 => cj_reg (jA rfl rfl (j_nil (ej_then (hK4 _ _ _ (CJ.s [(2, _)] ⟨rfl, trivial⟩ (cj_ret (ej_then_ret (?_))))))))
  exact ej_ret1 results38 rfl fun w' hH hf => ⟨⟨_, rfl⟩, hf⟩
 ·refine cj_skip (ej_then (hK2 _ _ _ (CJ.s [(1, _)] ⟨rfl, trivial⟩ (cj_seqF fun K5 hK5 => cj_seqF fun K6 hK6 => cj_reg (j_val rfl (fun _ _ h => r_fl (q := 5) (ft := 9) runUnderlying70 rfl sizeOf9 rfl h) (j_valw rfl (fun a w ha hH hf => r_ldH 0 rfl rfl isAgg9 rfl rfl ha hH) (j_val rfl (fun _ _ h => r_slen runUnderlying9 rfl h) (j_val rfl (fun _ _ h => r_gtr rfl rfl h) (j_nil (ej_then (hK6 _ _ _ (CJ.s [(10, _)] ⟨rfl, trivial⟩ ?_))))))))))))
  refine cj_dec rfl (fun _ => ?_) (fun _ => ?_)
  ·refine cj_seqF fun K7 hK7 => cj_reg (jA rfl rfl (j_nil (ej_then (hK7 _ _ _ (CJ.s [(2, _)] ⟨rfl, trivial⟩ (cj_ret (ej_then_ret (?_))))))))
   exact ej_ret1 results38 rfl fun w' hH hf => ⟨⟨_, rfl⟩, hf⟩
  ·refine cj_skip (ej_then (hK5 _ _ _ (CJ.s [] trivial (cj_seqF fun K8 hK8 => cj_reg (jA rfl rfl (j_nil (ej_then (hK8 _ _ _ (CJ.s [(2, _)] ⟨rfl, trivial⟩ (cj_ret (?_)))))))))))
   exact ej_ret1 results38 rfl fun w' hH hf => ⟨⟨_, rfl⟩, hf⟩
theorem zzFits11_c (w : World) (v : Value) (xs : List PMapping) (h : Lay RMapping 10 w v xs) : Calls Tryz.prog 12 #[v] w (Ret fun v w' => (∃ b, v = .bool b ∧ (b = true → xs.length ≤ 2147483647)) ∧ Fr 0 [] w w') := by
 obtain ⟨p, c, rfl, hl, hx⟩ := h.open
 refine startJ (args := [_]) [(0, _)] 0 [] [] func12 rfl ntmps12 rfl rfl .nil ?_
 refine cj_seqF fun K1 hK1 => cj_reg (jA rfl rfl (j_nil (ej_then (hK1 _ _ _ (CJ.s [(0, _)] ⟨rfl, trivial⟩ (cj_seqF fun K2 hK2 => cj_seqF fun K3 hK3 => cj_reg (jM rfl rfl (j_val rfl (fun _ _ h => r_len runUnderlying24 rfl h) (j_val rfl (fun _ _ h => r_gtr rfl rfl h) (j_nil (ej_then (hK3 _ _ _ ?_))))))))))))
 refine CJ.s [(0, _), (7, _)] ⟨rfl, rfl, trivial⟩ ?_
 refine cj_dec rfl (fun hbig => ?_) (fun hbig => ?_)
 ·refine cj_seqF fun K4 hK4 => cj_reg (jA rfl rfl (j_nil (ej_then (hK4 _ _ _ (CJ.s [(2, _)] ⟨rfl, trivial⟩ (cj_ret (ej_then_ret (?_))))))))
  exact ej_ret1 results12 rfl fun w' hH hf => ⟨⟨_, rfl, by first | (intro h; exact absurd h (by decide)) | (intro _; omega)⟩, hf⟩
 ·refine cj_skip (ej_then (hK2 _ _ _ (CJ.s [(0, _)] ⟨rfl, trivial⟩ (cj_seqF fun K5 hK5 => cj_seqF fun K6 hK6 => cj_reg (jM rfl rfl (j_val rfl (fun _ _ h => r_len runUnderlying24 rfl h) (jM rfl rfl (j_nil (ej_then (hK6 _ _ _ (CJ.s [(8, _), (9, _), (10, _)] ⟨rfl, rfl, rfl, trivial⟩ (cj_block ?_))))))))))))
  -- LOOP 0 live [8, 9, 10]
  refine cj_loop (σ := Nat) (fun k => [(8, .slice p xs.length c), (9, .int .i64 (xs.length : Nat)), (10, .int .i64 (k : Nat))]) (fun _ => []) (fun k _ => k ≤ xs.length) (fun k => xs.length - k) 0 ⟨rfl, rfl, rfl, trivial⟩ (fun w hH hf => ⟨.nil, Nat.zero_le _⟩) ?_
  intro k w1 hk hf1 hH1 KL hKL
  refine C.begin _ [] hf1 .nil ?_
  refine cj_seqF fun K7 hK7 => cj_reg (j_val rfl (fun _ _ h => r_lss rfl rfl h) (j_nil (ej_then (hK7 _ _ _ (CJ.s [(8, _), (9, _), (10, _), (11, _)] ⟨rfl, rfl, rfl, rfl, trivial⟩ (cj_seqF fun K8 hK8 => ?_))))))
  refine cj_dec rfl (fun hlt => ?_) (fun hlt => ?_)
  ·have hlt' : k < xs.length := by omega
   obtain ⟨b, o, cs, rfl, hcs, hR, hcell⟩ := hx k xs[k] (List.getElem?_eq_getElem hlt')
   have hR' := hR
   obtain ⟨rfl, -⟩ := hR
   refine cj_skip (ej_then (hK8 _ _ _ (CJ.s [(8, _), (9, _), (10, _)] ⟨rfl, rfl, rfl, trivial⟩ (cj_seqF fun K9 hK9 => cj_block (cj_seqF fun K10 hK10 => cj_reg (j_val rfl (fun _ _ h => r_idx runUnderlying24 sizeOf70 rfl rfl (by omega) h) (j_valw rfl (fun a w ha hH hf => r_loadA isAgg70 sizeOf70 rfl rfl (hcell w (hf.keepAll (.inr rfl))) ha) ?_)))))))
   refine j_allocA (zs := [(.int .u64 0), (.int .u64 0), (.int .u64 0), (.int .u64 0), (.string ⟨#[]⟩), (.string ⟨#[]⟩), (.bool false), (.bool false), (.bool false), (.bool false)]) zeroValue70 rfl fun b4 => ?_
   refine j_storeN (cs' := [_, _, _, _, _, _, _, _, _, _]) (H' := [_]) 0 rfl rfl rfl rfl sizeOf70 rfl rfl rfl rfl rfl rfl rfl ?_
   refine j_nil (ej_then (hK10 _ _ _ (CJ.s [(4, _), (8, _), (9, _), (10, _)] ⟨rfl, rfl, rfl, rfl, trivial⟩ (cj_seqF fun K11 hK11 => cj_reg (j_valw rfl (fun a w ha hH hf => r_ldA (vs := [_, _, _, _, _, _, _, _, _, _]) 0 rfl rfl isAgg70 sizeOf70 rfl rfl rfl ha hH) ?_)))))
   refine j_callQ (φ := fun v => ∃ b, v = .bool b) call38 rfl rfl (fun w hH hf => zzFits12_c w _ _ (RMapping.keep (hf.keepAll (.inr rfl)) _ _ hR')) ?_
   rintro _ ⟨b15, rfl⟩
   refine j_val rfl (fun _ _ h => r_not rfl h) (j_nil (ej_then (hK11 _ _ _ (CJ.s [(8, _), (9, _), (10, _), (16, _)] ⟨rfl, rfl, rfl, rfl, trivial⟩ ?_))))
   refine cj_if rfl (fun _ => ?_) (fun _ => ?_)
   ·refine cj_seqF fun K12 hK12 => cj_reg (jA rfl rfl (j_nil (ej_then (hK12 _ _ _ (CJ.s [(2, _)] ⟨rfl, trivial⟩ (cj_ret (ej_blk_ret (ej_then_ret (ej_then_ret (ej_blk_ret (ej_then_ret (?_))))))))))))
    exact ej_ret1 results12 rfl fun w' hH hf => ⟨⟨_, rfl, by first | (intro h; exact absurd h (by decide)) | (intro _; omega)⟩, hf⟩
   ·refine cj_skip (ej_blk (ej_then (hK9 _ _ _ (CJ.s [(8, _), (9, _), (10, _)] ⟨rfl, rfl, rfl, trivial⟩ (cj_reg (j_val rfl (fun _ _ h => r_inc (by omega) rfl rfl h) (jM rfl rfl (j_nil (ej_then ?_)))))))))
    exact fun w hH hf => hKL (k + 1) _ w hlt' hf .nil (by omega) ⟨rfl, rfl, rfl, trivial⟩
  ·refine cj_exit (ej_then_exit (ej_then_exit (ej_blk_hit (ej_then (hK5 _ _ _ (CJ.s [] trivial (cj_seqF fun K13 hK13 => cj_reg (jA rfl rfl (j_nil (ej_then (hK13 _ _ _ (CJ.s [(2, _)] ⟨rfl, trivial⟩ (cj_ret (?_))))))))))))))
   exact ej_ret1 results12 rfl fun w' hH hf => ⟨⟨_, rfl, by first | (intro h; exact absurd h (by decide)) | (intro _; omega)⟩, hf⟩
theorem zzFits14_c (w : World) (cs : List Value) (x : PLoc) (h : RLoc w cs x) : Calls Tryz.prog 39 #[.agg cs.toArray] w (Ret fun v w' => (∃ b, v = .bool b) ∧ Fr 0 [] w w') := by
 obtain ⟨la, rfl, -, -, -, hla⟩ := h
 obtain ⟨p1, c1, rfl, hl1, -⟩ := hla.open
 refine startJ (args := [_]) [(0, _)] 0 [] [] func39 rfl ntmps39 rfl rfl .nil ?_
 refine cj_seqF fun K1 hK1 => cj_reg ?_
 refine j_boxA (vs := [_, _, _, _]) rfl rfl fun b1 => ?_
 refine jA rfl rfl (j_nil (ej_then (hK1 _ _ _ (CJ.s [(1, _)] ⟨rfl, trivial⟩ (cj_seqF fun K2 hK2 => cj_seqF fun K3 hK3 => cj_reg (j_val rfl (fun _ _ h => r_fl (q := 3) (ft := 74) runUnderlying76 rfl sizeOf74 rfl h) (j_valw rfl (fun a w ha hH hf => r_ldH 0 rfl rfl isAgg74 rfl rfl ha hH) (j_val rfl (fun _ _ h => r_len runUnderlying74 rfl h) (j_val rfl (fun _ _ h => r_gtr rfl rfl h) (j_nil (ej_then (hK3 _ _ _ (CJ.s [(6, _)] ⟨rfl, trivial⟩ ?_)))))))))))))
 refine cj_dec rfl (fun _ => ?_) (fun _ => ?_)
 ·refine cj_seqF fun K4 hK4 => cj_reg (jA rfl rfl (j_nil (ej_then (hK4 _ _ _ (CJ.s [(2, _)] ⟨rfl, trivial⟩ (cj_ret (ej_then_ret (?_))))))))
  exact ej_ret1 results39 rfl fun w' hH hf => ⟨⟨_, rfl⟩, hf⟩
 ·refine cj_skip (ej_then (hK2 _ _ _ (CJ.s [] trivial (cj_seqF fun K5 hK5 => cj_reg (jA rfl rfl (j_nil (ej_then (hK5 _ _ _ (CJ.s [(2, _)] ⟨rfl, trivial⟩ (cj_ret (?_)))))))))))
  exact ej_ret1 results39 rfl fun w' hH hf => ⟨⟨_, rfl⟩, hf⟩
theorem zzFits13_c (w : World) (v : Value) (xs : List PLoc) (h : Lay RLoc 4 w v xs) : Calls Tryz.prog 13 #[v] w (Ret fun v w' => (∃ b, v = .bool b ∧ (b = true → xs.length ≤ 2147483647)) ∧ Fr 0 [] w w') := by
 obtain ⟨p, c, rfl, hl, hx⟩ := h.open
 refine startJ (args := [_]) [(0, _)] 0 [] [] func13 rfl ntmps13 rfl rfl .nil ?_
 refine cj_seqF fun K1 hK1 => cj_reg (jA rfl rfl (j_nil (ej_then (hK1 _ _ _ (CJ.s [(0, _)] ⟨rfl, trivial⟩ (cj_seqF fun K2 hK2 => cj_seqF fun K3 hK3 => cj_reg (jM rfl rfl (j_val rfl (fun _ _ h => r_len runUnderlying25 rfl h) (j_val rfl (fun _ _ h => r_gtr rfl rfl h) (j_nil (ej_then (hK3 _ _ _ ?_))))))))))))
 refine CJ.s [(0, _), (7, _)] ⟨rfl, rfl, trivial⟩ ?_
 refine cj_dec rfl (fun hbig => ?_) (fun hbig => ?_)
 ·refine cj_seqF fun K4 hK4 => cj_reg (jA rfl rfl (j_nil (ej_then (hK4 _ _ _ (CJ.s [(2, _)] ⟨rfl, trivial⟩ (cj_ret (ej_then_ret (?_))))))))
  exact ej_ret1 results13 rfl fun w' hH hf => ⟨⟨_, rfl, by first | (intro h; exact absurd h (by decide)) | (intro _; omega)⟩, hf⟩
 ·refine cj_skip (ej_then (hK2 _ _ _ (CJ.s [(0, _)] ⟨rfl, trivial⟩ (cj_seqF fun K5 hK5 => cj_seqF fun K6 hK6 => cj_reg (jM rfl rfl (j_val rfl (fun _ _ h => r_len runUnderlying25 rfl h) (jM rfl rfl (j_nil (ej_then (hK6 _ _ _ (CJ.s [(8, _), (9, _), (10, _)] ⟨rfl, rfl, rfl, trivial⟩ (cj_block ?_))))))))))))
  -- LOOP 0 live [8, 9, 10]
  refine cj_loop (σ := Nat) (fun k => [(8, .slice p xs.length c), (9, .int .i64 (xs.length : Nat)), (10, .int .i64 (k : Nat))]) (fun _ => []) (fun k _ => k ≤ xs.length) (fun k => xs.length - k) 0 ⟨rfl, rfl, rfl, trivial⟩ (fun w hH hf => ⟨.nil, Nat.zero_le _⟩) ?_
  intro k w1 hk hf1 hH1 KL hKL
  refine C.begin _ [] hf1 .nil ?_
  refine cj_seqF fun K7 hK7 => cj_reg (j_val rfl (fun _ _ h => r_lss rfl rfl h) (j_nil (ej_then (hK7 _ _ _ (CJ.s [(8, _), (9, _), (10, _), (11, _)] ⟨rfl, rfl, rfl, rfl, trivial⟩ (cj_seqF fun K8 hK8 => ?_))))))
  refine cj_dec rfl (fun hlt => ?_) (fun hlt => ?_)
  ·have hlt' : k < xs.length := by omega
   obtain ⟨b, o, cs, rfl, hcs, hR, hcell⟩ := hx k xs[k] (List.getElem?_eq_getElem hlt')
   have hR' := hR
   obtain ⟨la, rfl, -, -, -, hla⟩ := hR
   obtain ⟨p1, c1, rfl, hl1, -⟩ := hla.open
   refine cj_skip (ej_then (hK8 _ _ _ (CJ.s [(8, _), (9, _), (10, _)] ⟨rfl, rfl, rfl, trivial⟩ (cj_seqF fun K9 hK9 => cj_block (cj_seqF fun K10 hK10 => cj_reg (j_val rfl (fun _ _ h => r_idx runUnderlying25 sizeOf76 rfl rfl (by omega) h) (j_valw rfl (fun a w ha hH hf => r_loadA isAgg76 sizeOf76 rfl rfl (hcell w (hf.keepAll (.inr rfl))) ha) ?_)))))))
   refine j_allocA (zs := [(.int .u64 0), (.int .i64 0), (.int .u64 0), (.slice none 0 0)]) zeroValue76 rfl fun b4 => ?_
   refine j_storeN (cs' := [_, _, _, _]) (H' := [_]) 0 rfl rfl rfl rfl sizeOf76 rfl rfl rfl rfl rfl rfl rfl ?_
   refine j_nil (ej_then (hK10 _ _ _ (CJ.s [(4, _), (8, _), (9, _), (10, _)] ⟨rfl, rfl, rfl, rfl, trivial⟩ (cj_seqF fun K11 hK11 => cj_reg (j_valw rfl (fun a w ha hH hf => r_ldA (vs := [_, _, _, _]) 0 rfl rfl isAgg76 sizeOf76 rfl rfl rfl ha hH) ?_)))))
   refine j_callQ (φ := fun v => ∃ b, v = .bool b) call39 rfl rfl (fun w hH hf => zzFits14_c w _ _ (RLoc.keep (hf.keepAll (.inr rfl)) _ _ hR')) ?_
   rintro _ ⟨b15, rfl⟩
   refine j_val rfl (fun _ _ h => r_not rfl h) (j_nil (ej_then (hK11 _ _ _ (CJ.s [(8, _), (9, _), (10, _), (16, _)] ⟨rfl, rfl, rfl, rfl, trivial⟩ ?_))))
   refine cj_if rfl (fun _ => ?_) (fun _ => ?_)
   ·refine cj_seqF fun K12 hK12 => cj_reg (jA rfl rfl (j_nil (ej_then (hK12 _ _ _ (CJ.s [(2, _)] ⟨rfl, trivial⟩ (cj_ret (ej_blk_ret (ej_then_ret (ej_then_ret (ej_blk_ret (ej_then_ret (?_))))))))))))
    exact ej_ret1 results13 rfl fun w' hH hf => ⟨⟨_, rfl, by first | (intro h; exact absurd h (by decide)) | (intro _; omega)⟩, hf⟩
   ·refine cj_skip (ej_blk (ej_then (hK9 _ _ _ (CJ.s [(8, _), (9, _), (10, _)] ⟨rfl, rfl, rfl, trivial⟩ (cj_reg (j_val rfl (fun _ _ h => r_inc (by omega) rfl rfl h) (jM rfl rfl (j_nil (ej_then ?_)))))))))
    exact fun w hH hf => hKL (k + 1) _ w hlt' hf .nil (by omega) ⟨rfl, rfl, rfl, trivial⟩
  ·refine cj_exit (ej_then_exit (ej_then_exit (ej_blk_hit (ej_then (hK5 _ _ _ (CJ.s [] trivial (cj_seqF fun K13 hK13 => cj_reg (jA rfl rfl (j_nil (ej_then (hK13 _ _ _ (CJ.s [(2, _)] ⟨rfl, trivial⟩ (cj_ret (?_))))))))))))))
   exact ej_ret1 results13 rfl fun w' hH hf => ⟨⟨_, rfl, by first | (intro h; exact absurd h (by decide)) | (intro _; omega)⟩, hf⟩
theorem zzFits16_c (w : World) (cs : List Value) (x : PFunc) (h : RFunc w cs x) : Calls Tryz.prog 40 #[.agg cs.toArray] w (Ret fun v w' => (∃ b, v = .bool b) ∧ Fr 0 [] w w') := by
 obtain ⟨rfl, -⟩ := h
 refine startJ (args := [_]) [(0, _)] 0 [] [] func40 rfl ntmps40 rfl rfl .nil ?_
 refine cj_seqF fun K1 hK1 => cj_reg ?_
 refine j_boxA (vs := [_, _, _, _, _]) rfl rfl fun b1 => ?_
 refine jA rfl rfl (j_nil (ej_then (hK1 _ _ _ (CJ.s [(1, _)] ⟨rfl, trivial⟩ (cj_seqF fun K2 hK2 => cj_seqF fun K3 hK3 => cj_reg (j_val rfl (fun _ _ h => r_fl (q := 1) (ft := 9) runUnderlying72 rfl sizeOf9 rfl h) (j_valw rfl (fun a w ha hH hf => r_ldH 0 rfl rfl isAgg9 rfl rfl ha hH) (j_val rfl (fun _ _ h => r_slen runUnderlying9 rfl h) (j_val rfl (fun _ _ h => r_gtr rfl rfl h) (j_nil (ej_then (hK3 _ _ _ (CJ.s [(1, _), (6, _)] ⟨rfl, rfl, trivial⟩ ?_)))))))))))))
 refine cj_dec rfl (fun _ => ?_) (fun _ => ?_)
 ·refine cj_seqF fun K4 hK4 => cj_reg (jA rfl rfl (j_nil (ej_then (hK4 _ _ _ (CJ.s [(2, _)] ⟨rfl, trivial⟩ (cj_ret (ej_then_ret (?_))))))))
  exact ej_ret1 results40 rfl fun w' hH hf => ⟨⟨_, rfl⟩, hf⟩
 ·refine cj_skip (ej_then (hK2 _ _ _ (CJ.s [(1, _)] ⟨rfl, trivial⟩ (cj_seqF fun K5 hK5 => cj_seqF fun K6 hK6 => cj_reg (j_val rfl (fun _ _ h => r_fl (q := 2) (ft := 9) runUnderlying72 rfl sizeOf9 rfl h) (j_valw rfl (fun a w ha hH hf => r_ldH 0 rfl rfl isAgg9 rfl rfl ha hH) (j_val rfl (fun _ _ h => r_slen runUnderlying9 rfl h) (j_val rfl (fun _ _ h => r_gtr rfl rfl h) (j_nil (ej_then (hK6 _ _ _ (CJ.s [(1, _), (10, _)] ⟨rfl, rfl, trivial⟩ ?_))))))))))))
  refine cj_dec rfl (fun _ => ?_) (fun _ => ?_)
  ·refine cj_seqF fun K7 hK7 => cj_reg (jA rfl rfl (j_nil (ej_then (hK7 _ _ _ (CJ.s [(2, _)] ⟨rfl, trivial⟩ (cj_ret (ej_then_ret (?_))))))))
   exact ej_ret1 results40 rfl fun w' hH hf => ⟨⟨_, rfl⟩, hf⟩
  ·refine cj_skip (ej_then (hK5 _ _ _ (CJ.s [(1, _)] ⟨rfl, trivial⟩ (cj_seqF fun K8 hK8 => cj_seqF fun K9 hK9 => cj_reg (j_val rfl (fun _ _ h => r_fl (q := 3) (ft := 9) runUnderlying72 rfl sizeOf9 rfl h) (j_valw rfl (fun a w ha hH hf => r_ldH 0 rfl rfl isAgg9 rfl rfl ha hH) (j_val rfl (fun _ _ h => r_slen runUnderlying9 rfl h) (j_val rfl (fun _ _ h => r_gtr rfl rfl h) (j_nil (ej_then (hK9 _ _ _ (CJ.s [(14, _)] ⟨rfl, trivial⟩ ?_))))))))))))
   refine cj_dec rfl (fun _ => ?_) (fun _ => ?_)
   ·refine cj_seqF fun K10 hK10 => cj_reg (jA rfl rfl (j_nil (ej_then (hK10 _ _ _ (CJ.s [(2, _)] ⟨rfl, trivial⟩ (cj_ret (ej_then_ret (?_))))))))
    exact ej_ret1 results40 rfl fun w' hH hf => ⟨⟨_, rfl⟩, hf⟩
   ·refine cj_skip (ej_then (hK8 _ _ _ (CJ.s [] trivial (cj_seqF fun K11 hK11 => cj_reg (jA rfl rfl (j_nil (ej_then (hK11 _ _ _ (CJ.s [(2, _)] ⟨rfl, trivial⟩ (cj_ret (?_)))))))))))
    exact ej_ret1 results40 rfl fun w' hH hf => ⟨⟨_, rfl⟩, hf⟩
theorem zzFits15_c (w : World) (v : Value) (xs : List PFunc) (h : Lay RFunc 5 w v xs) : Calls Tryz.prog 14 #[v] w (Ret fun v w' => (∃ b, v = .bool b ∧ (b = true → xs.length ≤ 2147483647)) ∧ Fr 0 [] w w') := by
 obtain ⟨p, c, rfl, hl, hx⟩ := h.open
 refine startJ (args := [_]) [(0, _)] 0 [] [] func14 rfl ntmps14 rfl rfl .nil ?_
 refine cj_seqF fun K1 hK1 => cj_reg (jA rfl rfl (j_nil (ej_then (hK1 _ _ _ (CJ.s [(0, _)] ⟨rfl, trivial⟩ (cj_seqF fun K2 hK2 => cj_seqF fun K3 hK3 => cj_reg (jM rfl rfl (j_val rfl (fun _ _ h => r_len runUnderlying26 rfl h) (j_val rfl (fun _ _ h => r_gtr rfl rfl h) (j_nil (ej_then (hK3 _ _ _ ?_))))))))))))
 refine CJ.s [(0, _), (7, _)] ⟨rfl, rfl, trivial⟩ ?_
 refine cj_dec rfl (fun hbig => ?_) (fun hbig => ?_)
 ·refine cj_seqF fun K4 hK4 => cj_reg (jA rfl rfl (j_nil (ej_then (hK4 _ _ _ (CJ.s [(2, _)] ⟨rfl, trivial⟩ (cj_ret (ej_then_ret (?_))))))))
  exact ej_ret1 results14 rfl fun w' hH hf => ⟨⟨_, rfl, by first | (intro h; exact absurd h (by decide)) | (intro _; omega)⟩, hf⟩
 ·refine cj_skip (ej_then (hK2 _ _ _ (CJ.s [(0, _)] ⟨rfl, trivial⟩ (cj_seqF fun K5 hK5 => cj_seqF fun K6 hK6 => cj_reg (jM rfl rfl (j_val rfl (fun _ _ h => r_len runUnderlying26 rfl h) (jM rfl rfl (j_nil (ej_then (hK6 _ _ _ (CJ.s [(8, _), (9, _), (10, _)] ⟨rfl, rfl, rfl, trivial⟩ (cj_block ?_))))))))))))
  -- LOOP 0 live [8, 9, 10]
  refine cj_loop (σ := Nat) (fun k => [(8, .slice p xs.length c), (9, .int .i64 (xs.length : Nat)), (10, .int .i64 (k : Nat))]) (fun _ => []) (fun k _ => k ≤ xs.length) (fun k => xs.length - k) 0 ⟨rfl, rfl, rfl, trivial⟩ (fun w hH hf => ⟨.nil, Nat.zero_le _⟩) ?_
  intro k w1 hk hf1 hH1 KL hKL
  refine C.begin _ [] hf1 .nil ?_
  refine cj_seqF fun K7 hK7 => cj_reg (j_val rfl (fun _ _ h => r_lss rfl rfl h) (j_nil (ej_then (hK7 _ _ _ (CJ.s [(8, _), (9, _), (10, _), (11, _)] ⟨rfl, rfl, rfl, rfl, trivial⟩ (cj_seqF fun K8 hK8 => ?_))))))
  refine cj_dec rfl (fun hlt => ?_) (fun hlt => ?_)
  ·have hlt' : k < xs.length := by omega
   obtain ⟨b, o, cs, rfl, hcs, hR, hcell⟩ := hx k xs[k] (List.getElem?_eq_getElem hlt')
   have hR' := hR
   obtain ⟨rfl, -⟩ := hR
   refine cj_skip (ej_then (hK8 _ _ _ (CJ.s [(8, _), (9, _), (10, _)] ⟨rfl, rfl, rfl, trivial⟩ (cj_seqF fun K9 hK9 => cj_block (cj_seqF fun K10 hK10 => cj_reg (j_val rfl (fun _ _ h => r_idx runUnderlying26 sizeOf72 rfl rfl (by omega) h) (j_valw rfl (fun a w ha hH hf => r_loadA isAgg72 sizeOf72 rfl rfl (hcell w (hf.keepAll (.inr rfl))) ha) ?_)))))))
   refine j_allocA (zs := [(.int .u64 0), (.string ⟨#[]⟩), (.string ⟨#[]⟩), (.string ⟨#[]⟩), (.int .i64 0)]) zeroValue72 rfl fun b4 => ?_
   refine j_storeN (cs' := [_, _, _, _, _]) (H' := [_]) 0 rfl rfl rfl rfl sizeOf72 rfl rfl rfl rfl rfl rfl rfl ?_
   refine j_nil (ej_then (hK10 _ _ _ (CJ.s [(4, _), (8, _), (9, _), (10, _)] ⟨rfl, rfl, rfl, rfl, trivial⟩ (cj_seqF fun K11 hK11 => cj_reg (j_valw rfl (fun a w ha hH hf => r_ldA (vs := [_, _, _, _, _]) 0 rfl rfl isAgg72 sizeOf72 rfl rfl rfl ha hH) ?_)))))
   refine j_callQ (φ := fun v => ∃ b, v = .bool b) call40 rfl rfl (fun w hH hf => zzFits16_c w _ _ (RFunc.keep (hf.keepAll (.inr rfl)) _ _ hR')) ?_
   rintro _ ⟨b15, rfl⟩
   refine j_val rfl (fun _ _ h => r_not rfl h) (j_nil (ej_then (hK11 _ _ _ (CJ.s [(8, _), (9, _), (10, _), (16, _)] ⟨rfl, rfl, rfl, rfl, trivial⟩ ?_))))
   refine cj_if rfl (fun _ => ?_) (fun _ => ?_)
   ·refine cj_seqF fun K12 hK12 => cj_reg (jA rfl rfl (j_nil (ej_then (hK12 _ _ _ (CJ.s [(2, _)] ⟨rfl, trivial⟩ (cj_ret (ej_blk_ret (ej_then_ret (ej_then_ret (ej_blk_ret (ej_then_ret (?_))))))))))))
    exact ej_ret1 results14 rfl fun w' hH hf => ⟨⟨_, rfl, by first | (intro h; exact absurd h (by decide)) | (intro _; omega)⟩, hf⟩
   ·refine cj_skip (ej_blk (ej_then (hK9 _ _ _ (CJ.s [(8, _), (9, _), (10, _)] ⟨rfl, rfl, rfl, trivial⟩ (cj_reg (j_val rfl (fun _ _ h => r_inc (by omega) rfl rfl h) (jM rfl rfl (j_nil (ej_then ?_)))))))))
    exact fun w hH hf => hKL (k + 1) _ w hlt' hf .nil (by omega) ⟨rfl, rfl, rfl, trivial⟩
  ·refine cj_exit (ej_then_exit (ej_then_exit (ej_blk_hit (ej_then (hK5 _ _ _ (CJ.s [] trivial (cj_seqF fun K13 hK13 => cj_reg (jA rfl rfl (j_nil (ej_then (hK13 _ _ _ (CJ.s [(2, _)] ⟨rfl, trivial⟩ (cj_ret (?_))))))))))))))
   exact ej_ret1 results14 rfl fun w' hH hf => ⟨⟨_, rfl, by first | (intro h; exact absurd h (by decide)) | (intro _; omega)⟩, hf⟩
theorem zzFits1_c (w : World) (cs : List Value) (x : PProf) (h : RProf w cs x) : Calls Tryz.prog 4 #[.agg cs.toArray] w (Ret fun v w' => (∃ b, v = .bool b ∧ (b = true → x.mappings.length ≤ 2147483647 ∧ x.locs.length ≤ 2147483647 ∧ x.funcs.length ≤ 2147483647)) ∧ Fr 0 [] w w') := by
 obtain ⟨la, ls, lm, ll, lf, lcm, rfl, ha, hs, hm, hll, hfu, hcm, -⟩ := h
 refine startJ (args := [_]) [(0, _)] 0 [] [] func4 rfl ntmps4 rfl rfl .nil ?_
 refine cj_seqF fun K1 hK1 => cj_reg ?_
 refine j_boxA (vs := [_, _, _, _, _, _, _, _, _, _, _, _, _, _]) rfl rfl fun b1 => ?_
 refine jA rfl rfl (j_nil (ej_then (hK1 _ _ _ (CJ.s [(1, _)] ⟨rfl, trivial⟩ (cj_seqF fun K2 hK2 => cj_seqF fun K3 hK3 => cj_reg (j_val rfl (fun _ _ h => r_fl (q := 0) (ft := 22) runUnderlying31 rfl sizeOf22 rfl h) (j_valw rfl (fun a w ha hH hf => r_ldH 0 rfl rfl isAgg22 rfl rfl ha hH) ?_)))))))
 refine j_callQ (φ := fun v => ∃ b, v = .bool b ∧ (b = true → x.types.length ≤ 2147483647)) call10 rfl rfl (fun w hH hf => zzFits2_c w _ _ (ha.keep (RType.keep (hf.keepAll (.inr rfl))) (hf.keepAll (.inr rfl)))) ?_
 rintro _ ⟨b5, rfl, hb5⟩
 refine j_val rfl (fun _ _ h => r_not rfl h) (j_nil (ej_then (hK3 _ _ _ (CJ.s [(1, _), (6, _)] ⟨rfl, rfl, trivial⟩ ?_))))
 refine cj_if rfl (fun _ => ?_) (fun _ => ?_)
 ·refine cj_seqF fun K4 hK4 => cj_reg (jA rfl rfl (j_nil (ej_then (hK4 _ _ _ (CJ.s [(2, _)] ⟨rfl, trivial⟩ (cj_ret (ej_then_ret (?_))))))))
  exact ej_ret1 results4 rfl fun w' hH hf => ⟨⟨_, rfl, by first | (intro h; exact absurd h (by decide)) | (intro _; simp at h18 h22 h26; exact ⟨hb17 h18, hb21 h22, hb25 h26⟩)⟩, hf⟩
 ·refine cj_skip (ej_then (hK2 _ _ _ (CJ.s [(1, _)] ⟨rfl, trivial⟩ (cj_seqF fun K5 hK5 => cj_seqF fun K6 hK6 => cj_reg (j_val rfl (fun _ _ h => r_fl (q := 1) (ft := 9) runUnderlying31 rfl sizeOf9 rfl h) (j_valw rfl (fun a w ha hH hf => r_ldH 0 rfl rfl isAgg9 rfl rfl ha hH) (j_val rfl (fun _ _ h => r_slen runUnderlying9 rfl h) (j_val rfl (fun _ _ h => r_gtr rfl rfl h) (j_nil (ej_then (hK6 _ _ _ (CJ.s [(1, _), (10, _)] ⟨rfl, rfl, trivial⟩ ?_))))))))))))
  refine cj_dec rfl (fun _ => ?_) (fun _ => ?_)
  ·refine cj_seqF fun K7 hK7 => cj_reg (jA rfl rfl (j_nil (ej_then (hK7 _ _ _ (CJ.s [(2, _)] ⟨rfl, trivial⟩ (cj_ret (ej_then_ret (?_))))))))
   exact ej_ret1 results4 rfl fun w' hH hf => ⟨⟨_, rfl, by first | (intro h; exact absurd h (by decide)) | (intro _; simp at h18 h22 h26; exact ⟨hb17 h18, hb21 h22, hb25 h26⟩)⟩, hf⟩
  ·refine cj_skip (ej_then (hK5 _ _ _ (CJ.s [(1, _)] ⟨rfl, trivial⟩ (cj_seqF fun K8 hK8 => cj_seqF fun K9 hK9 => cj_reg (j_val rfl (fun _ _ h => r_fl (q := 2) (ft := 23) runUnderlying31 rfl sizeOf23 rfl h) (j_valw rfl (fun a w ha hH hf => r_ldH 0 rfl rfl isAgg23 rfl rfl ha hH) ?_))))))
   refine j_callQ (φ := fun v => ∃ b, v = .bool b ∧ (b = true → x.samples.length ≤ 2147483647)) call11 rfl rfl (fun w hH hf => zzFits4_c w _ _ (hs.keep (RSample.keep (hf.keepAll (.inr rfl))) (hf.keepAll (.inr rfl)))) ?_
   rintro _ ⟨b13, rfl, hb13⟩
   refine j_val rfl (fun _ _ h => r_not rfl h) (j_nil (ej_then (hK9 _ _ _ (CJ.s [(1, _), (14, _)] ⟨rfl, rfl, trivial⟩ ?_))))
   refine cj_if rfl (fun _ => ?_) (fun _ => ?_)
   ·refine cj_seqF fun K10 hK10 => cj_reg (jA rfl rfl (j_nil (ej_then (hK10 _ _ _ (CJ.s [(2, _)] ⟨rfl, trivial⟩ (cj_ret (ej_then_ret (?_))))))))
    exact ej_ret1 results4 rfl fun w' hH hf => ⟨⟨_, rfl, by first | (intro h; exact absurd h (by decide)) | (intro _; simp at h18 h22 h26; exact ⟨hb17 h18, hb21 h22, hb25 h26⟩)⟩, hf⟩
   ·refine cj_skip (ej_then (hK8 _ _ _ (CJ.s [(1, _)] ⟨rfl, trivial⟩ (cj_seqF fun K11 hK11 => cj_seqF fun K12 hK12 => cj_reg (j_val rfl (fun _ _ h => r_fl (q := 3) (ft := 24) runUnderlying31 rfl sizeOf24 rfl h) (j_valw rfl (fun a w ha hH hf => r_ldH 0 rfl rfl isAgg24 rfl rfl ha hH) ?_))))))
    refine j_callQ (φ := fun v => ∃ b, v = .bool b ∧ (b = true → x.mappings.length ≤ 2147483647)) call12 rfl rfl (fun w hH hf => zzFits11_c w _ _ (hm.keep (RMapping.keep (hf.keepAll (.inr rfl))) (hf.keepAll (.inr rfl)))) ?_
    rintro _ ⟨b17, rfl, hb17⟩
    refine j_val rfl (fun _ _ h => r_not rfl h) (j_nil (ej_then (hK12 _ _ _ (CJ.s [(1, _), (18, _)] ⟨rfl, rfl, trivial⟩ ?_))))
    refine cj_if rfl (fun h18 => ?_) (fun h18 => ?_)
    ·refine cj_seqF fun K13 hK13 => cj_reg (jA rfl rfl (j_nil (ej_then (hK13 _ _ _ (CJ.s [(2, _)] ⟨rfl, trivial⟩ (cj_ret (ej_then_ret (?_))))))))
     exact ej_ret1 results4 rfl fun w' hH hf => ⟨⟨_, rfl, by first | (intro h; exact absurd h (by decide)) | (intro _; simp at h18 h22 h26; exact ⟨hb17 h18, hb21 h22, hb25 h26⟩)⟩, hf⟩
    ·refine cj_skip (ej_then (hK11 _ _ _ (CJ.s [(1, _)] ⟨rfl, trivial⟩ (cj_seqF fun K14 hK14 => cj_seqF fun K15 hK15 => cj_reg (j_val rfl (fun _ _ h => r_fl (q := 4) (ft := 25) runUnderlying31 rfl sizeOf25 rfl h) (j_valw rfl (fun a w ha hH hf => r_ldH 0 rfl rfl isAgg25 rfl rfl ha hH) ?_))))))
     refine j_callQ (φ := fun v => ∃ b, v = .bool b ∧ (b = true → x.locs.length ≤ 2147483647)) call13 rfl rfl (fun w hH hf => zzFits13_c w _ _ (hll.keep (RLoc.keep (hf.keepAll (.inr rfl))) (hf.keepAll (.inr rfl)))) ?_
     rintro _ ⟨b21, rfl, hb21⟩
     refine j_val rfl (fun _ _ h => r_not rfl h) (j_nil (ej_then (hK15 _ _ _ (CJ.s [(1, _), (22, _)] ⟨rfl, rfl, trivial⟩ ?_))))
     refine cj_if rfl (fun h22 => ?_) (fun h22 => ?_)
     ·refine cj_seqF fun K16 hK16 => cj_reg (jA rfl rfl (j_nil (ej_then (hK16 _ _ _ (CJ.s [(2, _)] ⟨rfl, trivial⟩ (cj_ret (ej_then_ret (?_))))))))
      exact ej_ret1 results4 rfl fun w' hH hf => ⟨⟨_, rfl, by first | (intro h; exact absurd h (by decide)) | (intro _; simp at h18 h22 h26; exact ⟨hb17 h18, hb21 h22, hb25 h26⟩)⟩, hf⟩
     ·refine cj_skip (ej_then (hK14 _ _ _ (CJ.s [(1, _)] ⟨rfl, trivial⟩ (cj_seqF fun K17 hK17 => cj_seqF fun K18 hK18 => cj_reg (j_val rfl (fun _ _ h => r_fl (q := 5) (ft := 26) runUnderlying31 rfl sizeOf26 rfl h) (j_valw rfl (fun a w ha hH hf => r_ldH 0 rfl rfl isAgg26 rfl rfl ha hH) ?_))))))
      refine j_callQ (φ := fun v => ∃ b, v = .bool b ∧ (b = true → x.funcs.length ≤ 2147483647)) call14 rfl rfl (fun w hH hf => zzFits15_c w _ _ (hfu.keep (RFunc.keep (hf.keepAll (.inr rfl))) (hf.keepAll (.inr rfl)))) ?_
      rintro _ ⟨b25, rfl, hb25⟩
      refine j_val rfl (fun _ _ h => r_not rfl h) (j_nil (ej_then (hK18 _ _ _ (CJ.s [(1, _), (26, _)] ⟨rfl, rfl, trivial⟩ ?_))))
      refine cj_if rfl (fun h26 => ?_) (fun h26 => ?_)
      ·refine cj_seqF fun K19 hK19 => cj_reg (jA rfl rfl (j_nil (ej_then (hK19 _ _ _ (CJ.s [(2, _)] ⟨rfl, trivial⟩ (cj_ret (ej_then_ret (?_))))))))
       exact ej_ret1 results4 rfl fun w' hH hf => ⟨⟨_, rfl, by first | (intro h; exact absurd h (by decide)) | (intro _; simp at h18 h22 h26; exact ⟨hb17 h18, hb21 h22, hb25 h26⟩)⟩, hf⟩
      ·refine cj_skip (ej_then (hK17 _ _ _ (CJ.s [(1, _)] ⟨rfl, trivial⟩ (cj_seqF fun K20 hK20 => cj_seqF fun K21 hK21 => cj_reg (j_val rfl (fun _ _ h => r_fl (q := 6) (ft := 27) runUnderlying31 rfl sizeOf27 rfl h) (j_valw rfl (fun a w ha hH hf => r_ldH 0 rfl rfl isAgg27 rfl rfl ha hH) ?_))))))
       refine j_callQ (φ := fun v => ∃ b, v = .bool b ∧ (b = true → x.comments.length ≤ 2147483647)) call15 rfl rfl (fun w hH hf => zzFits8_c w _ _ (hcm.keep (RStr.keep (hf.keepAll (.inr rfl))) (hf.keepAll (.inr rfl)))) ?_
       rintro _ ⟨b29, rfl, hb29⟩
       refine j_val rfl (fun _ _ h => r_not rfl h) (j_nil (ej_then (hK21 _ _ _ (CJ.s [(1, _), (30, _)] ⟨rfl, rfl, trivial⟩ ?_))))
       refine cj_if rfl (fun _ => ?_) (fun _ => ?_)
       ·refine cj_seqF fun K22 hK22 => cj_reg (jA rfl rfl (j_nil (ej_then (hK22 _ _ _ (CJ.s [(2, _)] ⟨rfl, trivial⟩ (cj_ret (ej_then_ret (?_))))))))
        exact ej_ret1 results4 rfl fun w' hH hf => ⟨⟨_, rfl, by first | (intro h; exact absurd h (by decide)) | (intro _; simp at h18 h22 h26; exact ⟨hb17 h18, hb21 h22, hb25 h26⟩)⟩, hf⟩
       ·refine cj_skip (ej_then (hK20 _ _ _ (CJ.s [(1, _)] ⟨rfl, trivial⟩ (cj_seqF fun K23 hK23 => cj_seqF fun K24 hK24 => cj_reg (j_val rfl (fun _ _ h => r_fl (q := 7) (ft := 9) runUnderlying31 rfl sizeOf9 rfl h) (j_valw rfl (fun a w ha hH hf => r_ldH 0 rfl rfl isAgg9 rfl rfl ha hH) (j_val rfl (fun _ _ h => r_slen runUnderlying9 rfl h) (j_val rfl (fun _ _ h => r_gtr rfl rfl h) (j_nil (ej_then (hK24 _ _ _ (CJ.s [(1, _), (34, _)] ⟨rfl, rfl, trivial⟩ ?_))))))))))))
        refine cj_dec rfl (fun _ => ?_) (fun _ => ?_)
        ·refine cj_seqF fun K25 hK25 => cj_reg (jA rfl rfl (j_nil (ej_then (hK25 _ _ _ (CJ.s [(2, _)] ⟨rfl, trivial⟩ (cj_ret (ej_then_ret (?_))))))))
         exact ej_ret1 results4 rfl fun w' hH hf => ⟨⟨_, rfl, by first | (intro h; exact absurd h (by decide)) | (intro _; simp at h18 h22 h26; exact ⟨hb17 h18, hb21 h22, hb25 h26⟩)⟩, hf⟩
        ·refine cj_skip (ej_then (hK23 _ _ _ (CJ.s [(1, _)] ⟨rfl, trivial⟩ (cj_seqF fun K26 hK26 => cj_seqF fun K27 hK27 => cj_reg (j_val rfl (fun _ _ h => r_fl (q := 8) (ft := 9) runUnderlying31 rfl sizeOf9 rfl h) (j_valw rfl (fun a w ha hH hf => r_ldH 0 rfl rfl isAgg9 rfl rfl ha hH) (j_val rfl (fun _ _ h => r_slen runUnderlying9 rfl h) (j_val rfl (fun _ _ h => r_gtr rfl rfl h) (j_nil (ej_then (hK27 _ _ _ (CJ.s [(1, _), (38, _)] ⟨rfl, rfl, trivial⟩ ?_))))))))))))
         refine cj_dec rfl (fun _ => ?_) (fun _ => ?_)
         ·refine cj_seqF fun K28 hK28 => cj_reg (jA rfl rfl (j_nil (ej_then (hK28 _ _ _ (CJ.s [(2, _)] ⟨rfl, trivial⟩ (cj_ret (ej_then_ret (?_))))))))
          exact ej_ret1 results4 rfl fun w' hH hf => ⟨⟨_, rfl, by first | (intro h; exact absurd h (by decide)) | (intro _; simp at h18 h22 h26; exact ⟨hb17 h18, hb21 h22, hb25 h26⟩)⟩, hf⟩
         ·refine cj_skip (ej_then (hK26 _ _ _ (CJ.s [(1, _)] ⟨rfl, trivial⟩ (cj_seqF fun K29 hK29 => cj_seqF fun K30 hK30 => cj_reg (j_val rfl (fun _ _ h => r_fl (q := 12) (ft := 29) runUnderlying31 rfl sizeOf29 rfl h) (j_valw rfl (fun a w ha hH hf => r_ldA (vs := [_, _]) 0 rfl rfl isAgg29 sizeOf29 rfl rfl rfl ha hH) ?_))))))
          refine j_callQ (φ := fun v => ∃ b, v = .bool b) call16 rfl rfl (fun w hH hf => zzFits3_c w _ x.per rfl) ?_
          rintro _ ⟨b41, rfl⟩
          refine j_val rfl (fun _ _ h => r_not rfl h) (j_nil (ej_then (hK30 _ _ _ (CJ.s [(42, _)] ⟨rfl, trivial⟩ ?_))))
          refine cj_if rfl (fun _ => ?_) (fun _ => ?_)
          ·refine cj_seqF fun K31 hK31 => cj_reg (jA rfl rfl (j_nil (ej_then (hK31 _ _ _ (CJ.s [(2, _)] ⟨rfl, trivial⟩ (cj_ret (ej_then_ret (?_))))))))
           exact ej_ret1 results4 rfl fun w' hH hf => ⟨⟨_, rfl, by first | (intro h; exact absurd h (by decide)) | (intro _; simp at h18 h22 h26; exact ⟨hb17 h18, hb21 h22, hb25 h26⟩)⟩, hf⟩
          ·refine cj_skip (ej_then (hK29 _ _ _ (CJ.s [] trivial (cj_seqF fun K32 hK32 => cj_reg (jA rfl rfl (j_nil (ej_then (hK32 _ _ _ (CJ.s [(2, _)] ⟨rfl, trivial⟩ (cj_ret (?_)))))))))))
           exact ej_ret1 results4 rfl fun w' hH hf => ⟨⟨_, rfl, by first | (intro h; exact absurd h (by decide)) | (intro _; simp at h18 h22 h26; exact ⟨hb17 h18, hb21 h22, hb25 h26⟩)⟩, hf⟩
end Go.Proofs.YtifnhinopjgfaaaGreat
