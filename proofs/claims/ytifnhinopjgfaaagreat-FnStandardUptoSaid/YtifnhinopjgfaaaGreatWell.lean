/-
  What is known of a profile where spec.Well returns true; spec.Well writes nothing that was there. Conditions: the arguments are plain data in memory.
-/
import Derived.Test.YtifnhinopjgfaaaGreatTy
import Derived.Test.YtifnhinopjgfaaaGreatPl
import Derived.KernelRfl
namespace Go.Proofs.YtifnhinopjgfaaaGreat
open Go Go.Fw Go.Proofs Go.Proofs.Tryz
theorem take_succ_mem {α : Type} {xs : List α} {k : Nat} (hk : k < xs.length) {x : α} : x ∈ xs.take (k + 1) ↔ x ∈ xs.take k ∨ x = xs[k] := by
 rw [← List.take_append_getElem hk, List.mem_append, List.mem_singleton]

theorem indexStr_c (w : World) (v : Value) (xs : List ByteArray) (x : ByteArray) (h : Lay RStr 1 w v xs) : Calls Tryz.prog 66 #[v, .string x] w (Ret fun v w' => (∃ i : Int, v = .int .i64 i ∧ (i < 0 → x ∉ xs)) ∧ Fr 0 [] w w') := by
 obtain ⟨p, c, rfl, hl, hx⟩ := h.open
 refine startJ (args := [_, _]) [(0, _), (1, _)] 0 [] [] func66 rfl ntmps66 rfl rfl .nil ?_
 refine cj_seqF fun K1 hK1 => cj_reg (jA rfl rfl (j_nil (ej_then (hK1 _ _ _ (CJ.s [(0, _), (1, _)] ⟨rfl, rfl, trivial⟩ (cj_seqF fun K2 hK2 => cj_seqF fun K3 hK3 => cj_reg (jM rfl rfl (j_val rfl (fun _ _ h => r_len runUnderlying27 rfl h) (jM rfl rfl (j_nil (ej_then (hK3 _ _ _ ?_))))))))))))
 refine CJ.s [(0, _), (1, _), (7, _), (8, _)] ⟨rfl, rfl, rfl, rfl, trivial⟩ (cj_block ?_)
 -- LOOP 0 live [0, 1, 7, 8]
 refine cj_loop (σ := Nat) (fun k => [(0, .slice p xs.length c), (1, .string x), (7, .int .i64 (xs.length : Nat)), (8, .int .i64 (k : Nat))]) (fun _ => []) (fun k _ => k ≤ xs.length ∧ x ∉ xs.take k) (fun k => xs.length - k) 0 ⟨rfl, rfl, rfl, rfl, trivial⟩ (fun w hH hf => ⟨.nil, Nat.zero_le _, by simp⟩) ?_
 rintro k w1 ⟨hk, hk'⟩ hf1 hH1 KL hKL
 refine C.begin _ [] hf1 .nil ?_
 refine cj_seqF fun K4 hK4 => cj_reg (j_val rfl (fun _ _ h => r_lss rfl rfl h) (j_nil (ej_then (hK4 _ _ _ (CJ.s [(0, _), (1, _), (7, _), (8, _), (9, _)] ⟨rfl, rfl, rfl, rfl, rfl, trivial⟩ (cj_seqF fun K5 hK5 => ?_))))))
 refine cj_dec rfl (fun hlt => ?_) (fun hlt => ?_)
 ·have hlt' : k < xs.length := by omega
  obtain ⟨b, o, cs, rfl, hcs, hR, hcell⟩ := hx k xs[k] (List.getElem?_eq_getElem hlt')
  unfold RStr at hR
  subst hR
  refine cj_skip (ej_then (hK5 _ _ _ (CJ.s [(0, _), (1, _), (7, _), (8, _)] ⟨rfl, rfl, rfl, rfl, trivial⟩ (cj_seqF fun K6 hK6 => cj_block (cj_seqF fun K7 hK7 => cj_reg (jM rfl rfl (jA rfl rfl (j_nil (ej_then (hK7 _ _ _ (CJ.s [(0, _), (1, _), (5, _), (7, _), (8, _)] ⟨rfl, rfl, rfl, rfl, rfl, trivial⟩ (cj_seqF fun K8 hK8 => cj_reg (jM rfl rfl ?_)))))))))))))
  refine jM rfl rfl (jM rfl rfl (j_val rfl (fun _ _ h => r_idx runUnderlying27 sizeOf9 rfl rfl (by omega) h) (j_valw rfl (fun a w ha hH hf => r_load isAgg9 rfl (hcell w (hf.keepAll (.inr rfl)) 0 _ rfl) ha) (j_val rfl (fun _ _ h => r_seql rfl rfl h) (j_nil (ej_then (hK8 _ _ _ (CJ.s [(0, _), (1, _), (5, _), (7, _), (8, _), (16, _)] ⟨rfl, rfl, rfl, rfl, rfl, rfl, trivial⟩ ?_))))))))
  refine cj_dec rfl (fun heq => ?_) (fun heq => ?_)
  ·refine cj_seqF fun K9 hK9 => cj_reg (jM rfl rfl (jA rfl rfl (j_nil (ej_then (hK9 _ _ _ (CJ.s [(4, _)] ⟨rfl, trivial⟩ (cj_ret (ej_blk_ret (ej_then_ret (ej_then_ret (ej_blk_ret (ej_then_ret (?_)))))))))))))
   first | exact ej_ret1 results66 rfl fun w' hH hf => ⟨⟨_, rfl, fun h => absurd h (by omega)⟩, hf⟩ | exact ej_ret1 results66 rfl fun w' hH hf => ⟨⟨_, rfl, fun _ hm => hk' (by rw [List.take_of_length_le (by omega)]; exact hm)⟩, hf⟩
  ·refine cj_skip (ej_blk (ej_then (hK6 _ _ _ (CJ.s [(0, _), (1, _), (7, _), (8, _)] ⟨rfl, rfl, rfl, rfl, trivial⟩ (cj_reg (j_val rfl (fun _ _ h => r_inc (by omega) rfl rfl h) (jM rfl rfl (j_nil (ej_then ?_)))))))))
   exact fun w hH hf => hKL (k + 1) _ w ⟨hlt', by rw [take_succ_mem hlt']; rintro (h | h) <;> simp_all⟩ hf .nil (by omega) ⟨rfl, rfl, rfl, rfl, trivial⟩
 ·refine cj_exit (ej_then_exit (ej_then_exit (ej_blk_hit (ej_then (hK2 _ _ _ (CJ.s [] trivial (cj_seqF fun K10 hK10 => cj_reg (jA rfl rfl (j_nil (ej_then (hK10 _ _ _ (CJ.s [(4, _)] ⟨rfl, trivial⟩ (cj_ret (?_))))))))))))))
  first | exact ej_ret1 results66 rfl fun w' hH hf => ⟨⟨_, rfl, fun h => absurd h (by omega)⟩, hf⟩ | exact ej_ret1 results66 rfl fun w' hH hf => ⟨⟨_, rfl, fun _ hm => hk' (by rw [List.take_of_length_le (by omega)]; exact hm)⟩, hf⟩
theorem containsStr_c (w : World) (v : Value) (xs : List ByteArray) (x : ByteArray) (h : Lay RStr 1 w v xs) : Calls Tryz.prog 41 #[v, .string x] w (Ret fun v w' => (∃ b, v = .bool b ∧ (b = false → x ∉ xs)) ∧ Fr 0 [] w w') := by
 refine startJ (args := [_, _]) [(0, _), (1, _)] 0 [] [] func41 rfl ntmps41 rfl rfl .nil ?_
 refine cj_seqF fun K1 hK1 => cj_reg (jA rfl rfl (j_nil (ej_then (hK1 _ _ _ (CJ.s [(0, _), (1, _)] ⟨rfl, rfl, trivial⟩ (cj_seqF fun K2 hK2 => cj_reg (jM rfl rfl (jM rfl rfl ?_))))))))
 refine j_callQ (φ := fun v => ∃ i : Int, v = .int .i64 i ∧ (i < 0 → x ∉ xs)) call66 rfl rfl (fun w hH hf => indexStr_c w _ _ _ (h.keep (RStr.keep (hf.keepAll (.inr rfl))) (hf.keepAll (.inr rfl)))) ?_
 rintro _ ⟨i7, rfl, hi7⟩
 refine j_val rfl (fun _ _ h => r_geq rfl rfl h) (jA rfl rfl (j_nil (ej_then (hK2 _ _ _ (CJ.s [(4, _)] ⟨rfl, trivial⟩ (cj_ret (?_)))))))
 exact ej_ret1 results41 rfl fun w' hH hf => ⟨⟨_, rfl, fun h => hi7 (by simpa using h)⟩, hf⟩
theorem indexU64_c (w : World) (v : Value) (xs : List Int) (x : Int) (h : Lay (RInt .u64) 1 w v xs) : Calls Tryz.prog 45 #[v, .int .u64 x] w (Ret fun v w' => (∃ i : Int, v = .int .i64 i ∧ (i < 0 → x ∉ xs)) ∧ Fr 0 [] w w') := by
 obtain ⟨p, c, rfl, hl, hx⟩ := h.open
 refine startJ (args := [_, _]) [(0, _), (1, _)] 0 [] [] func45 rfl ntmps45 rfl rfl .nil ?_
 refine cj_seqF fun K1 hK1 => cj_reg (jA rfl rfl (j_nil (ej_then (hK1 _ _ _ (CJ.s [(0, _), (1, _)] ⟨rfl, rfl, trivial⟩ (cj_seqF fun K2 hK2 => cj_seqF fun K3 hK3 => cj_reg (jM rfl rfl (j_val rfl (fun _ _ h => r_len runUnderlying67 rfl h) (jM rfl rfl (j_nil (ej_then (hK3 _ _ _ ?_))))))))))))
 refine CJ.s [(0, _), (1, _), (7, _), (8, _)] ⟨rfl, rfl, rfl, rfl, trivial⟩ (cj_block ?_)
 -- LOOP 0 live [0, 1, 7, 8]
 refine cj_loop (σ := Nat) (fun k => [(0, .slice p xs.length c), (1, .int .u64 x), (7, .int .i64 (xs.length : Nat)), (8, .int .i64 (k : Nat))]) (fun _ => []) (fun k _ => k ≤ xs.length ∧ x ∉ xs.take k) (fun k => xs.length - k) 0 ⟨rfl, rfl, rfl, rfl, trivial⟩ (fun w hH hf => ⟨.nil, Nat.zero_le _, by simp⟩) ?_
 rintro k w1 ⟨hk, hk'⟩ hf1 hH1 KL hKL
 refine C.begin _ [] hf1 .nil ?_
 refine cj_seqF fun K4 hK4 => cj_reg (j_val rfl (fun _ _ h => r_lss rfl rfl h) (j_nil (ej_then (hK4 _ _ _ (CJ.s [(0, _), (1, _), (7, _), (8, _), (9, _)] ⟨rfl, rfl, rfl, rfl, rfl, trivial⟩ (cj_seqF fun K5 hK5 => ?_))))))
 refine cj_dec rfl (fun hlt => ?_) (fun hlt => ?_)
 ·have hlt' : k < xs.length := by omega
  obtain ⟨b, o, cs, rfl, hcs, hR, hcell⟩ := hx k xs[k] (List.getElem?_eq_getElem hlt')
  obtain ⟨rfl, -⟩ := hR
  refine cj_skip (ej_then (hK5 _ _ _ (CJ.s [(0, _), (1, _), (7, _), (8, _)] ⟨rfl, rfl, rfl, rfl, trivial⟩ (cj_seqF fun K6 hK6 => cj_block (cj_seqF fun K7 hK7 => cj_reg (jM rfl rfl (jA rfl rfl (j_nil (ej_then (hK7 _ _ _ (CJ.s [(0, _), (1, _), (5, _), (7, _), (8, _)] ⟨rfl, rfl, rfl, rfl, rfl, trivial⟩ (cj_seqF fun K8 hK8 => cj_reg (jM rfl rfl ?_)))))))))))))
  refine jM rfl rfl (jM rfl rfl (j_val rfl (fun _ _ h => r_idx runUnderlying67 sizeOf59 rfl rfl (by omega) h) (j_valw rfl (fun a w ha hH hf => r_load isAgg59 rfl (hcell w (hf.keepAll (.inr rfl)) 0 _ rfl) ha) (j_val rfl (fun _ _ h => r_eql rfl rfl h) (j_nil (ej_then (hK8 _ _ _ (CJ.s [(0, _), (1, _), (5, _), (7, _), (8, _), (16, _)] ⟨rfl, rfl, rfl, rfl, rfl, rfl, trivial⟩ ?_))))))))
  refine cj_dec rfl (fun heq => ?_) (fun heq => ?_)
  ·refine cj_seqF fun K9 hK9 => cj_reg (jM rfl rfl (jA rfl rfl (j_nil (ej_then (hK9 _ _ _ (CJ.s [(4, _)] ⟨rfl, trivial⟩ (cj_ret (ej_blk_ret (ej_then_ret (ej_then_ret (ej_blk_ret (ej_then_ret (?_)))))))))))))
   first | exact ej_ret1 results45 rfl fun w' hH hf => ⟨⟨_, rfl, fun h => absurd h (by omega)⟩, hf⟩ | exact ej_ret1 results45 rfl fun w' hH hf => ⟨⟨_, rfl, fun _ hm => hk' (by rw [List.take_of_length_le (by omega)]; exact hm)⟩, hf⟩
  ·refine cj_skip (ej_blk (ej_then (hK6 _ _ _ (CJ.s [(0, _), (1, _), (7, _), (8, _)] ⟨rfl, rfl, rfl, rfl, trivial⟩ (cj_reg (j_val rfl (fun _ _ h => r_inc (by omega) rfl rfl h) (jM rfl rfl (j_nil (ej_then ?_)))))))))
   exact fun w hH hf => hKL (k + 1) _ w ⟨hlt', by rw [take_succ_mem hlt']; rintro (h | h) <;> simp_all⟩ hf .nil (by omega) ⟨rfl, rfl, rfl, rfl, trivial⟩
 ·refine cj_exit (ej_then_exit (ej_then_exit (ej_blk_hit (ej_then (hK2 _ _ _ (CJ.s [] trivial (cj_seqF fun K10 hK10 => cj_reg (jA rfl rfl (j_nil (ej_then (hK10 _ _ _ (CJ.s [(4, _)] ⟨rfl, trivial⟩ (cj_ret (?_))))))))))))))
  first | exact ej_ret1 results45 rfl fun w' hH hf => ⟨⟨_, rfl, fun h => absurd h (by omega)⟩, hf⟩ | exact ej_ret1 results45 rfl fun w' hH hf => ⟨⟨_, rfl, fun _ hm => hk' (by rw [List.take_of_length_le (by omega)]; exact hm)⟩, hf⟩
theorem containsU64_c (w : World) (v : Value) (xs : List Int) (x : Int) (h : Lay (RInt .u64) 1 w v xs) : Calls Tryz.prog 67 #[v, .int .u64 x] w (Ret fun v w' => (∃ b, v = .bool b ∧ (b = false → x ∉ xs)) ∧ Fr 0 [] w w') := by
 refine startJ (args := [_, _]) [(0, _), (1, _)] 0 [] [] func67 rfl ntmps67 rfl rfl .nil ?_
 refine cj_seqF fun K1 hK1 => cj_reg (jA rfl rfl (j_nil (ej_then (hK1 _ _ _ (CJ.s [(0, _), (1, _)] ⟨rfl, rfl, trivial⟩ (cj_seqF fun K2 hK2 => cj_reg (jM rfl rfl (jM rfl rfl ?_))))))))
 refine j_callQ (φ := fun v => ∃ i : Int, v = .int .i64 i ∧ (i < 0 → x ∉ xs)) call45 rfl rfl (fun w hH hf => indexU64_c w _ _ _ (h.keep (RInt.keep (hf.keepAll (.inr rfl))) (hf.keepAll (.inr rfl)))) ?_
 rintro _ ⟨i7, rfl, hi7⟩
 refine j_val rfl (fun _ _ h => r_geq rfl rfl h) (jA rfl rfl (j_nil (ej_then (hK2 _ _ _ (CJ.s [(4, _)] ⟨rfl, trivial⟩ (cj_ret (?_)))))))
 exact ej_ret1 results67 rfl fun w' hH hf => ⟨⟨_, rfl, fun h => hi7 (by simpa using h)⟩, hf⟩
theorem nodup_take_succ {α : Type} {xs : List α} {k : Nat} (hk : k < xs.length) (h : (xs.take k).Nodup) (hn : xs[k] ∉ xs.take k) : (xs.take (k + 1)).Nodup := by
 rw [← List.take_append_getElem hk, List.nodup_append]
 exact ⟨h, by simp, by simp; rintro a ha rfl; exact hn ha⟩
theorem ids_c (w : World) (v : Value) (xs : List Int) (h : Lay (RInt .u64) 1 w v xs) : Calls Tryz.prog 42 #[v] w (Ret fun v w' => (∃ b, v = .bool b ∧ (b = true → 0 ∉ xs ∧ xs.Nodup ∧ xs.length ≤ 60)) ∧ Fr 0 [] w w') := by
 obtain ⟨p, c, rfl, hl, hx⟩ := h.open
 have hcap := h.cap
 refine startJ (args := [_]) [(0, _)] 0 [] [] func42 rfl ntmps42 rfl rfl .nil ?_
 refine cj_seqF fun K1 hK1 => cj_reg (jA rfl rfl (j_nil (ej_then (hK1 _ _ _ (CJ.s [(0, _)] ⟨rfl, trivial⟩ (cj_seqF fun K2 hK2 => cj_seqF fun K3 hK3 => cj_reg (jM rfl rfl (j_val rfl (fun _ _ h => r_len runUnderlying67 rfl h) (jM rfl rfl (j_nil (ej_then (hK3 _ _ _ ?_))))))))))))
 refine CJ.s [(0, _), (5, _), (6, _), (7, _)] ⟨rfl, rfl, rfl, rfl, trivial⟩ (cj_block ?_)
 -- LOOP 0 live [0, 5, 6, 7]
 refine cj_loop (σ := Nat) (fun k => [(0, .slice p xs.length c), (5, .slice p xs.length c), (6, .int .i64 (xs.length : Nat)), (7, .int .i64 (k : Nat))]) (fun _ => []) (fun k _ => k ≤ xs.length ∧ 0 ∉ xs.take k ∧ (xs.take k).Nodup) (fun k => xs.length - k) 0 ⟨rfl, rfl, rfl, rfl, trivial⟩ (fun w hH hf => ⟨.nil, Nat.zero_le _, by simp, by simp⟩) ?_
 rintro k w1 ⟨hk, hz, hd⟩ hf1 hH1 KL hKL
 refine C.begin _ [] hf1 .nil ?_
 refine cj_seqF fun K4 hK4 => cj_reg (j_val rfl (fun _ _ h => r_lss rfl rfl h) (j_nil (ej_then (hK4 _ _ _ (CJ.s [(0, _), (5, _), (6, _), (7, _), (8, _)] ⟨rfl, rfl, rfl, rfl, rfl, trivial⟩ (cj_seqF fun K5 hK5 => ?_))))))
 refine cj_dec rfl (fun hlt => ?_) (fun hlt => ?_)
 ·have hlt' : k < xs.length := by omega
  obtain ⟨b, o, cs, rfl, hcs, hR, hcell⟩ := hx k xs[k] (List.getElem?_eq_getElem hlt')
  obtain ⟨rfl, -⟩ := hR
  refine cj_skip (ej_then (hK5 _ _ _ (CJ.s [(0, _), (5, _), (6, _), (7, _)] ⟨rfl, rfl, rfl, rfl, trivial⟩ (cj_seqF fun K6 hK6 => cj_block (cj_seqF fun K7 hK7 => cj_reg (jM rfl rfl (j_val rfl (fun _ _ h => r_idx runUnderlying67 sizeOf59 rfl rfl (by omega) h) (j_valw rfl (fun a w ha hH hf => r_load isAgg59 rfl (hcell w (hf.keepAll (.inr rfl)) 0 _ rfl) ha) (jA rfl rfl (jA rfl rfl (j_nil (ej_then (hK7 _ _ _ (CJ.s [(0, _), (3, _), (4, _), (5, _), (6, _), (7, _)] ⟨rfl, rfl, rfl, rfl, rfl, rfl, trivial⟩ ?_))))))))))))))
  refine cj_seqF fun K8 hK8 => cj_reg (jM rfl rfl (j_val rfl (fun _ _ h => r_eql rfl rfl h) (jM rfl rfl ?_)))
  refine j_split (t := 14) rfl (fun hg14 => ?_) (fun hg14 => ?_)
  ·refine j_gf rfl rfl rfl rfl (j_gf rfl rfl rfl rfl (j_gf rfl rfl rfl rfl (j_gf rfl rfl rfl rfl (j_gf rfl rfl rfl rfl (j_val rfl (fun _ _ h => r_pick_t rfl rfl h) (j_nil (ej_then (hK8 _ _ _ (CJ.s [(0, _), (5, _), (6, _), (7, _), (20, _)] ⟨rfl, rfl, rfl, rfl, rfl, trivial⟩ ?_)))))))))
   refine cj_if_t rfl ?_
   refine cj_seqF fun K9 hK9 => cj_reg (jA rfl rfl (j_nil (ej_then (hK9 _ _ _ (CJ.s [(2, _)] ⟨rfl, trivial⟩ (cj_ret (ej_blk_ret (ej_then_ret (ej_then_ret (ej_blk_ret (ej_then_ret (?_))))))))))))
   first | exact ej_ret1 results42 rfl fun w' hH hf => ⟨⟨_, rfl, fun h => absurd h (by decide)⟩, hf⟩ | exact ej_ret1 results42 rfl fun w' hH hf => ⟨⟨_, rfl, fun h => by
    rw [List.take_of_length_le (by omega)] at hz hd
    simp at h
    exact ⟨hz, hd, by omega⟩⟩, hf⟩
  ·refine j_gt rfl rfl (jM rfl rfl (j_gt rfl rfl (jM rfl rfl (j_gt rfl rfl (j_val rfl (fun _ _ h => r_slhi runUnderlying67 sizeOf59 rfl rfl (by omega) h) (j_gt rfl rfl (jM rfl rfl (j_gt rfl rfl ?_))))))))
   refine j_callQ (φ := fun v => ∃ b, v = .bool b ∧ (b = false → xs[k] ∉ xs.take k)) call67 rfl rfl (fun w hH hf => containsU64_c w _ _ _ ((h.take k hk).keep (RInt.keep (hf.keepAll (.inr rfl))) (hf.keepAll (.inr rfl)))) ?_
   rintro _ ⟨b19, rfl, hb19⟩
   refine j_val rfl (fun _ _ h => r_pick_f rfl rfl h) (j_nil (ej_then (hK8 _ _ _ (CJ.s [(0, _), (5, _), (6, _), (7, _), (20, _)] ⟨rfl, rfl, rfl, rfl, rfl, trivial⟩ ?_))))
   refine cj_if rfl (fun h20 => ?_) (fun h20 => ?_)
   ·refine cj_seqF fun K10 hK10 => cj_reg (jA rfl rfl (j_nil (ej_then (hK10 _ _ _ (CJ.s [(2, _)] ⟨rfl, trivial⟩ (cj_ret (ej_blk_ret (ej_then_ret (ej_then_ret (ej_blk_ret (ej_then_ret (?_))))))))))))
    first | exact ej_ret1 results42 rfl fun w' hH hf => ⟨⟨_, rfl, fun h => absurd h (by decide)⟩, hf⟩ | exact ej_ret1 results42 rfl fun w' hH hf => ⟨⟨_, rfl, fun h => by
     rw [List.take_of_length_le (by omega)] at hz hd
     simp at h
     exact ⟨hz, hd, by omega⟩⟩, hf⟩
   ·refine cj_skip (ej_blk (ej_then (hK6 _ _ _ (CJ.s [(0, _), (5, _), (6, _), (7, _)] ⟨rfl, rfl, rfl, rfl, trivial⟩ (cj_reg (j_val rfl (fun _ _ h => r_inc (by omega) rfl rfl h) (jM rfl rfl (j_nil (ej_then ?_)))))))))
    have hne : xs[k] ≠ 0 := by simpa using hg14
    exact fun w hH hf => hKL (k + 1) _ w ⟨hlt', fun h => ((take_succ_mem hlt').1 h).elim hz (fun h => hne h.symm), nodup_take_succ hlt' hd (hb19 h20)⟩ hf .nil (by omega) ⟨rfl, rfl, rfl, rfl, trivial⟩
 ·refine cj_exit (ej_then_exit (ej_then_exit (ej_blk_hit (ej_then (hK2 _ _ _ (CJ.s [(0, _)] ⟨rfl, trivial⟩ (cj_seqF fun K11 hK11 => cj_reg (jM rfl rfl (j_val rfl (fun _ _ h => r_len runUnderlying67 rfl h) (j_val rfl (fun _ _ h => r_leq rfl rfl h) (jA rfl rfl (j_nil (ej_then (hK11 _ _ _ (CJ.s [(2, _)] ⟨rfl, trivial⟩ (cj_ret (?_)))))))))))))))))
  first | exact ej_ret1 results42 rfl fun w' hH hf => ⟨⟨_, rfl, fun h => absurd h (by decide)⟩, hf⟩ | exact ej_ret1 results42 rfl fun w' hH hf => ⟨⟨_, rfl, fun h => by
   rw [List.take_of_length_le (by omega)] at hz hd
   simp at h
   exact ⟨hz, hd, by omega⟩⟩, hf⟩

/-- the labels of a sample, well formed -/
structure LabP (x : PSample) : Prop where
 tlen : x.texts.length ≤ 60
 nlen : x.nums.length ≤ 60
 tasc : ∀ (i : Nat) (t u : PTexts), x.texts[i]? = some t → x.texts[i + 1]? = some u → ltB t.key u.key = true
 nasc : ∀ (i : Nat) (t u : PNums), x.nums[i]? = some t → x.nums[i + 1]? = some u → ltB t.key u.key = true
 tl : ∀ t ∈ x.texts, t.list ≠ [] ∧ t.list.length ≤ 60 ∧ ⟨#[]⟩ ∉ t.list
 nl : ∀ t ∈ x.nums, t.list ≠ [] ∧ t.list.length ≤ 60
theorem ne_nil_of {α : Type} {l : List α} (h : decide ((l.length : Int) = 0) = false) : l ≠ [] := by
 rintro rfl; simp at h
theorem le60_of {l : Nat} (h : decide ((60 : Int) < (l : Int)) = false) : l ≤ 60 := by simp at h; omega
theorem asc_step {α : Type} {xs : List α} {lt : α → α → Bool} {k : Nat} (hk : k < xs.length) (h : ∀ (i : Nat) (t u : α), i + 1 < k → xs[i]? = some t → xs[i + 1]? = some u → lt t u = true) (hn : ∀ (h0 : 0 < k), lt (xs[k - 1]'(by omega)) xs[k] = true) :
  ∀ (i : Nat) (t u : α), i + 1 < k + 1 → xs[i]? = some t → xs[i + 1]? = some u → lt t u = true := by
 intro i t u hi ht hu
 by_cases hik : i + 1 < k
 ·exact h i t u hik ht hu
 ·have : i + 1 = k := by omega
  subst this
  have := hn (by omega)
  rw [List.getElem?_eq_getElem (by omega)] at ht
  rw [List.getElem?_eq_getElem hk] at hu
  simp at ht hu
  rw [← ht, ← hu]
  simpa using this
theorem all_step {α : Type} {xs : List α} {φ : α → Prop} {k : Nat} (hk : k < xs.length) (h : ∀ t ∈ xs.take k, φ t) (hn : φ xs[k]) : ∀ t ∈ xs.take (k + 1), φ t := by
 intro t ht
 rcases (take_succ_mem hk).1 ht with h1 | rfl
 ·exact h t h1
 ·exact hn
theorem labeled_c (w : World) (cs : List Value) (x : PSample) (h : RSample w cs x) : Calls Tryz.prog 17 #[.agg cs.toArray] w (Ret fun v w' => (∃ b, v = .bool b ∧ (b = true → LabP x)) ∧ Fr 0 [] w w') := by
 obtain ⟨la, lb, lt, lu, rfl, hla, hlb, hlt, hlu⟩ := h
 obtain ⟨p3, c3, rfl, hl3, hx3⟩ := hlt.open
 obtain ⟨p4, c4, rfl, hl4, hx4⟩ := hlu.open
 refine startJ (args := [_]) [(0, _)] 0 [] [] func17 rfl ntmps17 rfl rfl .nil ?_
 refine cj_seqF fun K1 hK1 => cj_reg ?_
 refine j_boxA (vs := [_, _, _, _]) rfl rfl fun b1 => ?_
 refine jA rfl rfl (j_nil (ej_then (hK1 _ _ _ (CJ.s [(1, _)] ⟨rfl, trivial⟩ (cj_seqF fun K2 hK2 => cj_seqF fun K3 hK3 => cj_reg (j_val rfl (fun _ _ h => r_fl (q := 2) (ft := 47) runUnderlying50 rfl sizeOf47 rfl h) (j_valw rfl (fun a w ha hH hf => r_ldH 0 rfl rfl isAgg47 rfl rfl ha hH) (j_val rfl (fun _ _ h => r_len runUnderlying47 rfl h) (jM rfl rfl (j_nil (ej_then (hK3 _ _ _ (CJ.s [(1, _), (8, _), (9, _), (10, _)] ⟨rfl, rfl, rfl, rfl, trivial⟩ ?_)))))))))))))
 refine cj_block ?_
 -- LOOP 0 live [1, 8, 9, 10]
 refine cj_loop (σ := Nat) (fun k => [(1, .pointer (some ⟨b1, 0, none⟩)), (8, .slice p3 x.texts.length c3), (9, .int .i64 (x.texts.length : Nat)), (10, .int .i64 (k : Nat))]) (fun _ => [⟨b1, 50, [la, lb, .slice p3 x.texts.length c3, .slice p4 x.nums.length c4], true, true, none⟩])
  (fun k _ => k ≤ x.texts.length ∧ (∀ (i : Nat) (t u : PTexts), i + 1 < k → x.texts[i]? = some t → x.texts[i + 1]? = some u → ltB t.key u.key = true) ∧ ∀ t ∈ x.texts.take k, t.list ≠ [] ∧ t.list.length ≤ 60 ∧ ⟨#[]⟩ ∉ t.list)
  (fun k => x.texts.length - k) 0 ⟨rfl, rfl, rfl, rfl, trivial⟩ (fun w hH hf => ⟨hH, Nat.zero_le _, by intro i t u h; omega, by simp⟩) ?_
 rintro k w1 ⟨hk, hT1, hT2⟩ hf1 hH1 KL hKL
 refine C.begin _ _ hf1 hH1 ?_
 refine cj_seqF fun K4 hK4 => cj_reg (j_val rfl (fun _ _ h => r_lss rfl rfl h) (j_nil (ej_then (hK4 _ _ _ (CJ.s [(1, _), (8, _), (9, _), (10, _), (11, _)] ⟨rfl, rfl, rfl, rfl, rfl, trivial⟩ (cj_seqF fun K5 hK5 => ?_))))))
 refine cj_dec rfl (fun hlt11 => ?_) (fun hlt11 => ?_)
 ·have hk' : k < x.texts.length := by omega
  obtain ⟨b, o, cs, rfl, hcs, ⟨l1, rfl, hl1⟩, hcell⟩ := hx3 k x.texts[k] (List.getElem?_eq_getElem hk')
  obtain ⟨p1, c1, rfl, hs1, -⟩ := hl1.open
  refine cj_skip (ej_then (hK5 _ _ _ (CJ.s [(1, _), (8, _), (9, _), (10, _)] ⟨rfl, rfl, rfl, rfl, trivial⟩ (cj_seqF fun K6 hK6 => cj_block (cj_seqF fun K7 hK7 => cj_reg (jM rfl rfl (j_val rfl (fun _ _ h => r_idx runUnderlying47 sizeOf96 rfl rfl (by omega) h) (j_valw rfl (fun a w ha hH hf => r_loadA isAgg96 sizeOf96 rfl rfl (hcell w (hf.keepAll (.inr rfl))) ha) ?_))))))))
  refine j_allocA (zs := [(.string ⟨#[]⟩), (.slice none 0 0)]) zeroValue96 rfl fun b4 => ?_
  refine jA rfl rfl ?_
  refine j_storeN (cs' := [_, _]) (H' := [_, _]) 0 rfl rfl rfl rfl sizeOf96 rfl rfl rfl rfl rfl rfl rfl ?_
  refine j_nil (ej_then (hK7 _ _ _ (CJ.s [(1, _), (3, _), (4, _), (8, _), (9, _), (10, _)] ⟨rfl, rfl, rfl, rfl, rfl, rfl, trivial⟩ (cj_seqF fun K8 hK8 => ?_))))
  refine cj_drawI 31 [(0, true), (1, true), (2, true), (3, true), (4, true), (5, true), (6, true), (7, true), (8, true), (9, true), (10, true), (11, true), (12, true), (13, true), (14, true), (15, true), (16, true), (17, true), (18, true), (19, true), (20, true), (21, true), (22, true), (23, true), (24, true), (25, true), (26, true), (27, true), (28, true), (29, false), (30, true)] [0, 1] rfl (by kernel_rfl) (by kernel_rfl) ?_
  refine dj_val rfl rfl (sub_of [0, 1] rfl) (fun _ _ h => r_move rfl h) (dj_val rfl rfl (sub_of [0, 1] rfl) (fun _ _ h => r_gtr rfl rfl h) (dj_val rfl rfl (sub_of [0, 1] rfl) (fun _ _ h => r_move rfl h) ?_))
  refine dj_split (t := 17) rfl (fun hg17 => ?_) (fun hg17 => ?_)
  ·have h0k : 0 < k := by simpa using hg17
   obtain ⟨b', o', cs', hp, -, ⟨l', rfl, -⟩, hcell'⟩ := hx3 (k - 1) (x.texts[k - 1]'(by omega)) (List.getElem?_eq_getElem (by omega))
   injection hp with hp; injection hp with hp1 hp2; subst hp1; subst hp2
   refine dj_gt rfl rfl rfl rfl (sub_of [0, 1] rfl) (fun a w ha hS => r_fl (q := 2) (ft := 47) runUnderlying50 rfl sizeOf47 rfl ha) ?_
   refine dj_gt rfl rfl rfl rfl (sub_of [0, 1] rfl) (fun a w ha hS => r_ldS 1 rfl rfl isAgg47 rfl rfl ha hS) ?_
   refine dj_gt rfl rfl rfl rfl (sub_of [0, 1] rfl) (fun a w ha hS => r_move rfl ha) ?_
   refine dj_gt rfl rfl rfl rfl (sub_of [0, 1] rfl) (fun a w ha hS => r_dec h0k (by omega) rfl rfl ha) ?_
   refine dj_gt rfl rfl rfl rfl (sub_of [0, 1] rfl) (fun a w ha hS => r_idx runUnderlying47 sizeOf96 rfl rfl (by omega) ha) ?_
   refine dj_gt rfl rfl rfl rfl (sub_of [0, 1] rfl) (fun a w ha hS => r_fl (q := 0) (ft := 9) runUnderlying96 rfl sizeOf9 rfl ha) ?_
   refine dj_gt rfl rfl rfl rfl (sub_of [0, 1] rfl) (fun a w ha hS => r_load isAgg9 rfl (hcell' w (hS.2.keepAll (.inr rfl)) 0 _ rfl) ha) ?_
   refine dj_gt rfl rfl rfl rfl (sub_of [0, 1] rfl) (fun a w ha hS => r_fl (q := 0) (ft := 9) runUnderlying96 rfl sizeOf9 rfl ha) ?_
   refine dj_gt rfl rfl rfl rfl (sub_of [0, 1] rfl) (fun a w ha hS => r_ldS 0 rfl rfl isAgg9 rfl rfl ha hS) ?_
   refine dj_gt rfl rfl rfl rfl (sub_of [0, 1] rfl) (fun a w ha hS => r_sgeq rfl rfl ha) ?_
   refine dj_val rfl rfl (sub_of [0, 1] rfl) (fun _ _ h => r_pick_t rfl rfl h) (dj_val rfl rfl (sub_of [0, 1] rfl) (fun _ _ h => r_move rfl h) ?_)
   refine dj_split (t := 29) rfl (fun hg29 => ?_) (fun hg29 => ?_)
   ·refine dj_gf rfl rfl rfl rfl rfl (sub_of [0, 1] rfl) (dj_gf rfl rfl rfl rfl rfl (sub_of [0, 1] rfl) (dj_gf rfl rfl rfl rfl rfl (sub_of [0, 1] rfl) (dj_gf rfl rfl rfl rfl rfl (sub_of [0, 1] rfl) (dj_val rfl rfl (sub_of [0, 1] rfl) (fun _ _ h => r_pick_t rfl rfl h) (dj_val rfl rfl (sub_of [0, 1] rfl) (fun _ _ h => r_move rfl h) (dj_gf rfl rfl rfl rfl rfl (sub_of [0, 1] rfl) (dj_gf rfl rfl rfl rfl rfl (sub_of [0, 1] rfl) (dj_gf rfl rfl rfl rfl rfl (sub_of [0, 1] rfl) (dj_gf rfl rfl rfl rfl rfl (sub_of [0, 1] rfl) (dj_val rfl rfl (sub_of [0, 1] rfl) (fun _ _ h => r_pick_t rfl rfl h) (dj_val rfl rfl (sub_of [0, 1] rfl) (fun _ _ h => r_move rfl h) (dj_gf rfl rfl rfl rfl rfl (sub_of [0, 1] rfl) (dj_gf rfl rfl rfl rfl rfl (sub_of [0, 1] rfl) ?_)))))))))))))
    refine dj_eff rfl fun K2 hK2 => j_gf rfl rfl rfl rfl (j_nil (ej_then (hK2 _ _ (.inr (sub_of [0, 1] rfl)) ?_))); clear hK2 K2
    refine dj_val rfl rfl (sub_of [0, 1] rfl) (fun _ _ h => r_pick_t rfl rfl h) (dj_end (ej_then (hK8 _ _ _ (CJ.s [(1, _), (8, _), (9, _), (10, _), (45, _)] ⟨rfl, rfl, rfl, rfl, rfl, trivial⟩ ?_))))
    refine cj_if_t rfl ?_
    refine cj_seqF fun K9 hK9 => cj_reg (jA rfl rfl (j_nil (ej_then (hK9 _ _ _ (CJ.s [(2, _)] ⟨rfl, trivial⟩ (cj_ret (ej_blk_ret (ej_then_ret (ej_then_ret (ej_blk_ret (ej_then_ret (?_))))))))))))
    first | exact ej_ret1 results17 rfl fun w' hH hf => ⟨⟨_, rfl, fun h => absurd h (by decide)⟩, hf⟩ | exact ej_ret1 results17 rfl fun w' hH hf => ⟨⟨_, rfl, fun h => by
     rw [List.take_of_length_le (by omega)] at hT2 hN2
     simp at h hg86
     exact ⟨by omega, by omega, fun i t u ht hu => hT1 i t u (by have := (List.getElem?_eq_some_iff.1 hu).1; omega) ht hu, fun i t u ht hu => hN1 i t u (by have := (List.getElem?_eq_some_iff.1 hu).1; omega) ht hu, hT2, hN2⟩⟩, hf⟩
   ·refine dj_gt rfl rfl rfl rfl (sub_of [0, 1] rfl) (fun a w ha hS => r_fl (q := 1) (ft := 27) runUnderlying96 rfl sizeOf27 rfl ha) ?_
    refine dj_gt rfl rfl rfl rfl (sub_of [0, 1] rfl) (fun a w ha hS => r_ldS 0 rfl rfl isAgg27 rfl rfl ha hS) ?_
    refine dj_gt rfl rfl rfl rfl (sub_of [0, 1] rfl) (fun a w ha hS => r_len runUnderlying27 rfl ha) ?_
    refine dj_gt rfl rfl rfl rfl (sub_of [0, 1] rfl) (fun a w ha hS => r_eql rfl rfl ha) ?_
    refine dj_val rfl rfl (sub_of [0, 1] rfl) (fun _ _ h => r_pick_f rfl rfl h) (dj_val rfl rfl (sub_of [0, 1] rfl) (fun _ _ h => r_move rfl h) ?_)
    refine dj_split (t := 35) rfl (fun hg35 => ?_) (fun hg35 => ?_)
    ·refine dj_gf rfl rfl rfl rfl rfl (sub_of [0, 1] rfl) (dj_gf rfl rfl rfl rfl rfl (sub_of [0, 1] rfl) (dj_gf rfl rfl rfl rfl rfl (sub_of [0, 1] rfl) (dj_gf rfl rfl rfl rfl rfl (sub_of [0, 1] rfl) (dj_val rfl rfl (sub_of [0, 1] rfl) (fun _ _ h => r_pick_t rfl rfl h) (dj_val rfl rfl (sub_of [0, 1] rfl) (fun _ _ h => r_move rfl h) (dj_gf rfl rfl rfl rfl rfl (sub_of [0, 1] rfl) (dj_gf rfl rfl rfl rfl rfl (sub_of [0, 1] rfl) (dj_eff rfl fun K2 hK2 => j_gf rfl rfl rfl rfl (j_nil (ej_then (hK2 _ _ (.inr (sub_of [0, 1] rfl)) ?_))))))))))); clear hK2 K2
     refine dj_val rfl rfl (sub_of [0, 1] rfl) (fun _ _ h => r_pick_t rfl rfl h) (dj_end (ej_then (hK8 _ _ _ (CJ.s [(1, _), (8, _), (9, _), (10, _), (45, _)] ⟨rfl, rfl, rfl, rfl, rfl, trivial⟩ ?_))))
     refine cj_if_t rfl ?_
     refine cj_seqF fun K10 hK10 => cj_reg (jA rfl rfl (j_nil (ej_then (hK10 _ _ _ (CJ.s [(2, _)] ⟨rfl, trivial⟩ (cj_ret (ej_blk_ret (ej_then_ret (ej_then_ret (ej_blk_ret (ej_then_ret (?_))))))))))))
     first | exact ej_ret1 results17 rfl fun w' hH hf => ⟨⟨_, rfl, fun h => absurd h (by decide)⟩, hf⟩ | exact ej_ret1 results17 rfl fun w' hH hf => ⟨⟨_, rfl, fun h => by
      rw [List.take_of_length_le (by omega)] at hT2 hN2
      simp at h hg86
      exact ⟨by omega, by omega, fun i t u ht hu => hT1 i t u (by have := (List.getElem?_eq_some_iff.1 hu).1; omega) ht hu, fun i t u ht hu => hN1 i t u (by have := (List.getElem?_eq_some_iff.1 hu).1; omega) ht hu, hT2, hN2⟩⟩, hf⟩
    ·refine dj_gt rfl rfl rfl rfl (sub_of [0, 1] rfl) (fun a w ha hS => r_fl (q := 1) (ft := 27) runUnderlying96 rfl sizeOf27 rfl ha) ?_
     refine dj_gt rfl rfl rfl rfl (sub_of [0, 1] rfl) (fun a w ha hS => r_ldS 0 rfl rfl isAgg27 rfl rfl ha hS) ?_
     refine dj_gt rfl rfl rfl rfl (sub_of [0, 1] rfl) (fun a w ha hS => r_len runUnderlying27 rfl ha) ?_
     refine dj_gt rfl rfl rfl rfl (sub_of [0, 1] rfl) (fun a w ha hS => r_gtr rfl rfl ha) ?_
     refine dj_val rfl rfl (sub_of [0, 1] rfl) (fun _ _ h => r_pick_f rfl rfl h) (dj_val rfl rfl (sub_of [0, 1] rfl) (fun _ _ h => r_move rfl h) ?_)
     refine dj_split (t := 41) rfl (fun hg41 => ?_) (fun hg41 => ?_)
     ·refine dj_gf rfl rfl rfl rfl rfl (sub_of [0, 1] rfl) (dj_gf rfl rfl rfl rfl rfl (sub_of [0, 1] rfl) (dj_eff rfl fun K2 hK2 => j_gf rfl rfl rfl rfl (j_nil (ej_then (hK2 _ _ (.inr (sub_of [0, 1] rfl)) ?_))))); clear hK2 K2
      refine dj_val rfl rfl (sub_of [0, 1] rfl) (fun _ _ h => r_pick_t rfl rfl h) (dj_end (ej_then (hK8 _ _ _ (CJ.s [(1, _), (8, _), (9, _), (10, _), (45, _)] ⟨rfl, rfl, rfl, rfl, rfl, trivial⟩ ?_))))
      refine cj_if_t rfl ?_
      refine cj_seqF fun K11 hK11 => cj_reg (jA rfl rfl (j_nil (ej_then (hK11 _ _ _ (CJ.s [(2, _)] ⟨rfl, trivial⟩ (cj_ret (ej_blk_ret (ej_then_ret (ej_then_ret (ej_blk_ret (ej_then_ret (?_))))))))))))
      first | exact ej_ret1 results17 rfl fun w' hH hf => ⟨⟨_, rfl, fun h => absurd h (by decide)⟩, hf⟩ | exact ej_ret1 results17 rfl fun w' hH hf => ⟨⟨_, rfl, fun h => by
       rw [List.take_of_length_le (by omega)] at hT2 hN2
       simp at h hg86
       exact ⟨by omega, by omega, fun i t u ht hu => hT1 i t u (by have := (List.getElem?_eq_some_iff.1 hu).1; omega) ht hu, fun i t u ht hu => hN1 i t u (by have := (List.getElem?_eq_some_iff.1 hu).1; omega) ht hu, hT2, hN2⟩⟩, hf⟩
     ·refine dj_gt rfl rfl rfl rfl (sub_of [0, 1] rfl) (fun a w ha hS => r_fl (q := 1) (ft := 27) runUnderlying96 rfl sizeOf27 rfl ha) ?_
      refine dj_gt rfl rfl rfl rfl (sub_of [0, 1] rfl) (fun a w ha hS => r_ldS 0 rfl rfl isAgg27 rfl rfl ha hS) ?_
      refine dj_eff rfl fun K2 hK2 => j_gt rfl rfl ?_
      refine j_callQ (φ := fun v => ∃ b, v = .bool b ∧ (b = false → ⟨#[]⟩ ∉ x.texts[k].list)) call41 rfl rfl (fun w hH hf => containsStr_c w _ _ _ (hl1.keep (RStr.keep (hf.keepAll (.inr rfl))) (hf.keepAll (.inr rfl)))) ?_
      rintro _ ⟨b44, rfl, hb44⟩
      refine j_nil (ej_then (hK2 _ _ (.inr (sub_of [0, 1] rfl)) ?_)); clear hK2 K2
      refine dj_val rfl rfl (sub_of [0, 1] rfl) (fun _ _ h => r_pick_f rfl rfl h) (dj_end (ej_then (hK8 _ _ _ (CJ.s [(1, _), (8, _), (9, _), (10, _), (45, _)] ⟨rfl, rfl, rfl, rfl, rfl, trivial⟩ ?_))))
      refine cj_if rfl (fun h45 => ?_) (fun h45 => ?_)
      ·refine cj_seqF fun K12 hK12 => cj_reg (jA rfl rfl (j_nil (ej_then (hK12 _ _ _ (CJ.s [(2, _)] ⟨rfl, trivial⟩ (cj_ret (ej_blk_ret (ej_then_ret (ej_then_ret (ej_blk_ret (ej_then_ret (?_))))))))))))
       first | exact ej_ret1 results17 rfl fun w' hH hf => ⟨⟨_, rfl, fun h => absurd h (by decide)⟩, hf⟩ | exact ej_ret1 results17 rfl fun w' hH hf => ⟨⟨_, rfl, fun h => by
        rw [List.take_of_length_le (by omega)] at hT2 hN2
        simp at h hg86
        exact ⟨by omega, by omega, fun i t u ht hu => hT1 i t u (by have := (List.getElem?_eq_some_iff.1 hu).1; omega) ht hu, fun i t u ht hu => hN1 i t u (by have := (List.getElem?_eq_some_iff.1 hu).1; omega) ht hu, hT2, hN2⟩⟩, hf⟩
      ·refine cj_skip (ej_blk (ej_then (hK6 _ _ _ (CJ.s [(1, _), (8, _), (9, _), (10, _)] ⟨rfl, rfl, rfl, rfl, trivial⟩ (cj_reg (j_val rfl (fun _ _ h => r_inc (by omega) rfl rfl h) (jM rfl rfl (j_nil (ej_then ?_)))))))))
       refine fun w hH hf => hKL (k + 1) _ w ⟨hk', asc_step (lt := fun t u => ltB t.key u.key) hk' hT1 (fun h0 => ?_), all_step hk' hT2 ⟨ne_nil_of hg35, le60_of hg41, hb44 h45⟩⟩ hf hH.2.2.2 (by omega) ⟨rfl, rfl, rfl, rfl, trivial⟩
       first | (simp at hg17; omega) | simpa using hg29
  ·refine dj_gf rfl rfl rfl rfl rfl (sub_of [0, 1] rfl) (dj_gf rfl rfl rfl rfl rfl (sub_of [0, 1] rfl) (dj_gf rfl rfl rfl rfl rfl (sub_of [0, 1] rfl) (dj_gf rfl rfl rfl rfl rfl (sub_of [0, 1] rfl) (dj_gf rfl rfl rfl rfl rfl (sub_of [0, 1] rfl) (dj_gf rfl rfl rfl rfl rfl (sub_of [0, 1] rfl) (dj_gf rfl rfl rfl rfl rfl (sub_of [0, 1] rfl) (dj_gf rfl rfl rfl rfl rfl (sub_of [0, 1] rfl) (dj_gf rfl rfl rfl rfl rfl (sub_of [0, 1] rfl) (dj_gf rfl rfl rfl rfl rfl (sub_of [0, 1] rfl) (dj_val rfl rfl (sub_of [0, 1] rfl) (fun _ _ h => r_pick_f rfl rfl h) (dj_val rfl rfl (sub_of [0, 1] rfl) (fun _ _ h => r_move rfl h) ?_)))))))))))
   refine dj_gt rfl rfl rfl rfl (sub_of [0, 1] rfl) (fun a w ha hS => r_fl (q := 1) (ft := 27) runUnderlying96 rfl sizeOf27 rfl ha) ?_
   refine dj_gt rfl rfl rfl rfl (sub_of [0, 1] rfl) (fun a w ha hS => r_ldS 0 rfl rfl isAgg27 rfl rfl ha hS) ?_
   refine dj_gt rfl rfl rfl rfl (sub_of [0, 1] rfl) (fun a w ha hS => r_len runUnderlying27 rfl ha) ?_
   refine dj_gt rfl rfl rfl rfl (sub_of [0, 1] rfl) (fun a w ha hS => r_eql rfl rfl ha) ?_
   refine dj_val rfl rfl (sub_of [0, 1] rfl) (fun _ _ h => r_pick_f rfl rfl h) (dj_val rfl rfl (sub_of [0, 1] rfl) (fun _ _ h => r_move rfl h) ?_)
   refine dj_split (t := 35) rfl (fun hg35 => ?_) (fun hg35 => ?_)
   ·refine dj_gf rfl rfl rfl rfl rfl (sub_of [0, 1] rfl) (dj_gf rfl rfl rfl rfl rfl (sub_of [0, 1] rfl) (dj_gf rfl rfl rfl rfl rfl (sub_of [0, 1] rfl) (dj_gf rfl rfl rfl rfl rfl (sub_of [0, 1] rfl) (dj_val rfl rfl (sub_of [0, 1] rfl) (fun _ _ h => r_pick_t rfl rfl h) (dj_val rfl rfl (sub_of [0, 1] rfl) (fun _ _ h => r_move rfl h) (dj_gf rfl rfl rfl rfl rfl (sub_of [0, 1] rfl) (dj_gf rfl rfl rfl rfl rfl (sub_of [0, 1] rfl) (dj_eff rfl fun K2 hK2 => j_gf rfl rfl rfl rfl (j_nil (ej_then (hK2 _ _ (.inr (sub_of [0, 1] rfl)) ?_))))))))))); clear hK2 K2
    refine dj_val rfl rfl (sub_of [0, 1] rfl) (fun _ _ h => r_pick_t rfl rfl h) (dj_end (ej_then (hK8 _ _ _ (CJ.s [(1, _), (8, _), (9, _), (10, _), (45, _)] ⟨rfl, rfl, rfl, rfl, rfl, trivial⟩ ?_))))
    refine cj_if_t rfl ?_
    refine cj_seqF fun K13 hK13 => cj_reg (jA rfl rfl (j_nil (ej_then (hK13 _ _ _ (CJ.s [(2, _)] ⟨rfl, trivial⟩ (cj_ret (ej_blk_ret (ej_then_ret (ej_then_ret (ej_blk_ret (ej_then_ret (?_))))))))))))
    first | exact ej_ret1 results17 rfl fun w' hH hf => ⟨⟨_, rfl, fun h => absurd h (by decide)⟩, hf⟩ | exact ej_ret1 results17 rfl fun w' hH hf => ⟨⟨_, rfl, fun h => by
     rw [List.take_of_length_le (by omega)] at hT2 hN2
     simp at h hg86
     exact ⟨by omega, by omega, fun i t u ht hu => hT1 i t u (by have := (List.getElem?_eq_some_iff.1 hu).1; omega) ht hu, fun i t u ht hu => hN1 i t u (by have := (List.getElem?_eq_some_iff.1 hu).1; omega) ht hu, hT2, hN2⟩⟩, hf⟩
   ·refine dj_gt rfl rfl rfl rfl (sub_of [0, 1] rfl) (fun a w ha hS => r_fl (q := 1) (ft := 27) runUnderlying96 rfl sizeOf27 rfl ha) ?_
    refine dj_gt rfl rfl rfl rfl (sub_of [0, 1] rfl) (fun a w ha hS => r_ldS 0 rfl rfl isAgg27 rfl rfl ha hS) ?_
    refine dj_gt rfl rfl rfl rfl (sub_of [0, 1] rfl) (fun a w ha hS => r_len runUnderlying27 rfl ha) ?_
    refine dj_gt rfl rfl rfl rfl (sub_of [0, 1] rfl) (fun a w ha hS => r_gtr rfl rfl ha) ?_
    refine dj_val rfl rfl (sub_of [0, 1] rfl) (fun _ _ h => r_pick_f rfl rfl h) (dj_val rfl rfl (sub_of [0, 1] rfl) (fun _ _ h => r_move rfl h) ?_)
    refine dj_split (t := 41) rfl (fun hg41 => ?_) (fun hg41 => ?_)
    ·refine dj_gf rfl rfl rfl rfl rfl (sub_of [0, 1] rfl) (dj_gf rfl rfl rfl rfl rfl (sub_of [0, 1] rfl) (dj_eff rfl fun K2 hK2 => j_gf rfl rfl rfl rfl (j_nil (ej_then (hK2 _ _ (.inr (sub_of [0, 1] rfl)) ?_))))); clear hK2 K2
     refine dj_val rfl rfl (sub_of [0, 1] rfl) (fun _ _ h => r_pick_t rfl rfl h) (dj_end (ej_then (hK8 _ _ _ (CJ.s [(1, _), (8, _), (9, _), (10, _), (45, _)] ⟨rfl, rfl, rfl, rfl, rfl, trivial⟩ ?_))))
     refine cj_if_t rfl ?_
     refine cj_seqF fun K14 hK14 => cj_reg (jA rfl rfl (j_nil (ej_then (hK14 _ _ _ (CJ.s [(2, _)] ⟨rfl, trivial⟩ (cj_ret (ej_blk_ret (ej_then_ret (ej_then_ret (ej_blk_ret (ej_then_ret (?_))))))))))))
     first | exact ej_ret1 results17 rfl fun w' hH hf => ⟨⟨_, rfl, fun h => absurd h (by decide)⟩, hf⟩ | exact ej_ret1 results17 rfl fun w' hH hf => ⟨⟨_, rfl, fun h => by
      rw [List.take_of_length_le (by omega)] at hT2 hN2
      simp at h hg86
      exact ⟨by omega, by omega, fun i t u ht hu => hT1 i t u (by have := (List.getElem?_eq_some_iff.1 hu).1; omega) ht hu, fun i t u ht hu => hN1 i t u (by have := (List.getElem?_eq_some_iff.1 hu).1; omega) ht hu, hT2, hN2⟩⟩, hf⟩
    ·refine dj_gt rfl rfl rfl rfl (sub_of [0, 1] rfl) (fun a w ha hS => r_fl (q := 1) (ft := 27) runUnderlying96 rfl sizeOf27 rfl ha) ?_
     refine dj_gt rfl rfl rfl rfl (sub_of [0, 1] rfl) (fun a w ha hS => r_ldS 0 rfl rfl isAgg27 rfl rfl ha hS) ?_
     refine dj_eff rfl fun K2 hK2 => j_gt rfl rfl ?_
     refine j_callQ (φ := fun v => ∃ b, v = .bool b ∧ (b = false → ⟨#[]⟩ ∉ x.texts[k].list)) call41 rfl rfl (fun w hH hf => containsStr_c w _ _ _ (hl1.keep (RStr.keep (hf.keepAll (.inr rfl))) (hf.keepAll (.inr rfl)))) ?_
     rintro _ ⟨b44, rfl, hb44⟩
     refine j_nil (ej_then (hK2 _ _ (.inr (sub_of [0, 1] rfl)) ?_)); clear hK2 K2
     refine dj_val rfl rfl (sub_of [0, 1] rfl) (fun _ _ h => r_pick_f rfl rfl h) (dj_end (ej_then (hK8 _ _ _ (CJ.s [(1, _), (8, _), (9, _), (10, _), (45, _)] ⟨rfl, rfl, rfl, rfl, rfl, trivial⟩ ?_))))
     refine cj_if rfl (fun h45 => ?_) (fun h45 => ?_)
     ·refine cj_seqF fun K15 hK15 => cj_reg (jA rfl rfl (j_nil (ej_then (hK15 _ _ _ (CJ.s [(2, _)] ⟨rfl, trivial⟩ (cj_ret (ej_blk_ret (ej_then_ret (ej_then_ret (ej_blk_ret (ej_then_ret (?_))))))))))))
      first | exact ej_ret1 results17 rfl fun w' hH hf => ⟨⟨_, rfl, fun h => absurd h (by decide)⟩, hf⟩ | exact ej_ret1 results17 rfl fun w' hH hf => ⟨⟨_, rfl, fun h => by
       rw [List.take_of_length_le (by omega)] at hT2 hN2
       simp at h hg86
       exact ⟨by omega, by omega, fun i t u ht hu => hT1 i t u (by have := (List.getElem?_eq_some_iff.1 hu).1; omega) ht hu, fun i t u ht hu => hN1 i t u (by have := (List.getElem?_eq_some_iff.1 hu).1; omega) ht hu, hT2, hN2⟩⟩, hf⟩
     ·refine cj_skip (ej_blk (ej_then (hK6 _ _ _ (CJ.s [(1, _), (8, _), (9, _), (10, _)] ⟨rfl, rfl, rfl, rfl, trivial⟩ (cj_reg (j_val rfl (fun _ _ h => r_inc (by omega) rfl rfl h) (jM rfl rfl (j_nil (ej_then ?_)))))))))
      refine fun w hH hf => hKL (k + 1) _ w ⟨hk', asc_step (lt := fun t u => ltB t.key u.key) hk' hT1 (fun h0 => ?_), all_step hk' hT2 ⟨ne_nil_of hg35, le60_of hg41, hb44 h45⟩⟩ hf hH.2.2.2 (by omega) ⟨rfl, rfl, rfl, rfl, trivial⟩
      first | (simp at hg17; omega) | simpa using hg29
 ·refine cj_exit (ej_then_exit (ej_then_exit (ej_blk_hit (ej_then (hK2 _ _ _ (CJ.s [(1, _)] ⟨rfl, trivial⟩ (cj_seqF fun K16 hK16 => cj_seqF fun K17 hK17 => cj_reg (j_val rfl (fun _ _ h => r_fl (q := 3) (ft := 48) runUnderlying50 rfl sizeOf48 rfl h) (j_valw rfl (fun a w ha hH hf => r_ldH 0 rfl rfl isAgg48 rfl rfl ha hH) (j_val rfl (fun _ _ h => r_len runUnderlying48 rfl h) (jM rfl rfl (j_nil (ej_then (hK17 _ _ _ (CJ.s [(1, _), (48, _), (49, _), (50, _)] ⟨rfl, rfl, rfl, rfl, trivial⟩ (cj_block ?_))))))))))))))))
  -- LOOP 1 live [1, 48, 49, 50]
  refine cj_loop (σ := Nat) (fun k => [(1, .pointer (some ⟨b1, 0, none⟩)), (48, .slice p4 x.nums.length c4), (49, .int .i64 (x.nums.length : Nat)), (50, .int .i64 (k : Nat))]) (fun _ => [⟨b1, 50, [la, lb, .slice p3 x.texts.length c3, .slice p4 x.nums.length c4], true, true, none⟩])
   (fun k _ => k ≤ x.nums.length ∧ (∀ (i : Nat) (t u : PNums), i + 1 < k → x.nums[i]? = some t → x.nums[i + 1]? = some u → ltB t.key u.key = true) ∧ ∀ t ∈ x.nums.take k, t.list ≠ [] ∧ t.list.length ≤ 60)
   (fun k => x.nums.length - k) 0 ⟨rfl, rfl, rfl, rfl, trivial⟩ (fun w hH hf => ⟨hH, Nat.zero_le _, by intro i t u h; omega, by simp⟩) ?_
  rintro m w2 ⟨hm, hN1, hN2⟩ hf2 hH2 KL hKL
  refine C.begin _ _ hf2 hH2 ?_
  refine cj_seqF fun K18 hK18 => cj_reg (j_val rfl (fun _ _ h => r_lss rfl rfl h) (j_nil (ej_then (hK18 _ _ _ (CJ.s [(1, _), (48, _), (49, _), (50, _), (51, _)] ⟨rfl, rfl, rfl, rfl, rfl, trivial⟩ (cj_seqF fun K19 hK19 => ?_))))))
  refine cj_dec rfl (fun hlt51 => ?_) (fun hlt51 => ?_)
  ·have hm' : m < x.nums.length := by omega
   obtain ⟨b, o, cs, rfl, hcs, ⟨l1, rfl, hl1⟩, hcell⟩ := hx4 m x.nums[m] (List.getElem?_eq_getElem hm')
   obtain ⟨p1, c1, rfl, hs1, -⟩ := hl1.open
   refine cj_skip (ej_then (hK19 _ _ _ (CJ.s [(1, _), (48, _), (49, _), (50, _)] ⟨rfl, rfl, rfl, rfl, trivial⟩ (cj_seqF fun K20 hK20 => cj_block (cj_seqF fun K21 hK21 => cj_reg (jM rfl rfl (j_val rfl (fun _ _ h => r_idx runUnderlying48 sizeOf99 rfl rfl (by omega) h) (j_valw rfl (fun a w ha hH hf => r_loadA isAgg99 sizeOf99 rfl rfl (hcell w (hf.keepAll (.inr rfl))) ha) ?_))))))))
   refine j_allocA (zs := [(.string ⟨#[]⟩), (.slice none 0 0)]) zeroValue99 rfl fun b6 => ?_
   refine jA rfl rfl ?_
   refine j_storeN (cs' := [_, _]) (H' := [_, _]) 0 rfl rfl rfl rfl sizeOf99 rfl rfl rfl rfl rfl rfl rfl ?_
   refine j_nil (ej_then (hK21 _ _ _ (CJ.s [(1, _), (5, _), (6, _), (48, _), (49, _), (50, _)] ⟨rfl, rfl, rfl, rfl, rfl, rfl, trivial⟩ (cj_seqF fun K22 hK22 => ?_))))
   refine cj_drawI 26 [(0, true), (1, true), (2, true), (3, true), (4, true), (5, true), (6, true), (7, true), (8, true), (9, true), (10, true), (11, true), (12, true), (13, true), (14, true), (15, true), (16, true), (17, true), (18, true), (19, true), (20, true), (21, true), (22, true), (23, true), (24, true), (25, true)] [0, 1] rfl (by kernel_rfl) (by kernel_rfl) ?_
   refine dj_val rfl rfl (sub_of [0, 1] rfl) (fun _ _ h => r_move rfl h) (dj_val rfl rfl (sub_of [0, 1] rfl) (fun _ _ h => r_gtr rfl rfl h) (dj_val rfl rfl (sub_of [0, 1] rfl) (fun _ _ h => r_move rfl h) ?_))
   refine dj_split (t := 57) rfl (fun hg57 => ?_) (fun hg57 => ?_)
   ·have h0k : 0 < m := by simpa using hg57
    obtain ⟨b', o', cs', hp, -, ⟨l', rfl, -⟩, hcell'⟩ := hx4 (m - 1) (x.nums[m - 1]'(by omega)) (List.getElem?_eq_getElem (by omega))
    injection hp with hp; injection hp with hp1 hp2; subst hp1; subst hp2
    refine dj_gt rfl rfl rfl rfl (sub_of [0, 1] rfl) (fun a w ha hS => r_fl (q := 3) (ft := 48) runUnderlying50 rfl sizeOf48 rfl ha) ?_
    refine dj_gt rfl rfl rfl rfl (sub_of [0, 1] rfl) (fun a w ha hS => r_ldS 1 rfl rfl isAgg48 rfl rfl ha hS) ?_
    refine dj_gt rfl rfl rfl rfl (sub_of [0, 1] rfl) (fun a w ha hS => r_move rfl ha) ?_
    refine dj_gt rfl rfl rfl rfl (sub_of [0, 1] rfl) (fun a w ha hS => r_dec h0k (by omega) rfl rfl ha) ?_
    refine dj_gt rfl rfl rfl rfl (sub_of [0, 1] rfl) (fun a w ha hS => r_idx runUnderlying48 sizeOf99 rfl rfl (by omega) ha) ?_
    refine dj_gt rfl rfl rfl rfl (sub_of [0, 1] rfl) (fun a w ha hS => r_fl (q := 0) (ft := 9) runUnderlying99 rfl sizeOf9 rfl ha) ?_
    refine dj_gt rfl rfl rfl rfl (sub_of [0, 1] rfl) (fun a w ha hS => r_load isAgg9 rfl (hcell' w (hS.2.keepAll (.inr rfl)) 0 _ rfl) ha) ?_
    refine dj_gt rfl rfl rfl rfl (sub_of [0, 1] rfl) (fun a w ha hS => r_fl (q := 0) (ft := 9) runUnderlying99 rfl sizeOf9 rfl ha) ?_
    refine dj_gt rfl rfl rfl rfl (sub_of [0, 1] rfl) (fun a w ha hS => r_ldS 0 rfl rfl isAgg9 rfl rfl ha hS) ?_
    refine dj_gt rfl rfl rfl rfl (sub_of [0, 1] rfl) (fun a w ha hS => r_sgeq rfl rfl ha) ?_
    refine dj_val rfl rfl (sub_of [0, 1] rfl) (fun _ _ h => r_pick_t rfl rfl h) (dj_val rfl rfl (sub_of [0, 1] rfl) (fun _ _ h => r_move rfl h) ?_)
    refine dj_split (t := 69) rfl (fun hg69 => ?_) (fun hg69 => ?_)
    ·refine dj_gf rfl rfl rfl rfl rfl (sub_of [0, 1] rfl) (dj_gf rfl rfl rfl rfl rfl (sub_of [0, 1] rfl) (dj_gf rfl rfl rfl rfl rfl (sub_of [0, 1] rfl) (dj_gf rfl rfl rfl rfl rfl (sub_of [0, 1] rfl) (dj_val rfl rfl (sub_of [0, 1] rfl) (fun _ _ h => r_pick_t rfl rfl h) (dj_val rfl rfl (sub_of [0, 1] rfl) (fun _ _ h => r_move rfl h) (dj_gf rfl rfl rfl rfl rfl (sub_of [0, 1] rfl) (dj_gf rfl rfl rfl rfl rfl (sub_of [0, 1] rfl) (dj_gf rfl rfl rfl rfl rfl (sub_of [0, 1] rfl) (dj_gf rfl rfl rfl rfl rfl (sub_of [0, 1] rfl) (dj_val rfl rfl (sub_of [0, 1] rfl) (fun _ _ h => r_pick_t rfl rfl h) (dj_end (ej_then (hK22 _ _ _ (CJ.s [(1, _), (48, _), (49, _), (50, _), (80, _)] ⟨rfl, rfl, rfl, rfl, rfl, trivial⟩ ?_))))))))))))))
     refine cj_if_t rfl ?_
     refine cj_seqF fun K23 hK23 => cj_reg (jA rfl rfl (j_nil (ej_then (hK23 _ _ _ (CJ.s [(2, _)] ⟨rfl, trivial⟩ (cj_ret (ej_blk_ret (ej_then_ret (ej_then_ret (ej_blk_ret (ej_then_ret (?_))))))))))))
     first | exact ej_ret1 results17 rfl fun w' hH hf => ⟨⟨_, rfl, fun h => absurd h (by decide)⟩, hf⟩ | exact ej_ret1 results17 rfl fun w' hH hf => ⟨⟨_, rfl, fun h => by
      rw [List.take_of_length_le (by omega)] at hT2 hN2
      simp at h hg86
      exact ⟨by omega, by omega, fun i t u ht hu => hT1 i t u (by have := (List.getElem?_eq_some_iff.1 hu).1; omega) ht hu, fun i t u ht hu => hN1 i t u (by have := (List.getElem?_eq_some_iff.1 hu).1; omega) ht hu, hT2, hN2⟩⟩, hf⟩
    ·refine dj_gt rfl rfl rfl rfl (sub_of [0, 1] rfl) (fun a w ha hS => r_fl (q := 1) (ft := 46) runUnderlying99 rfl sizeOf46 rfl ha) ?_
     refine dj_gt rfl rfl rfl rfl (sub_of [0, 1] rfl) (fun a w ha hS => r_ldS 0 rfl rfl isAgg46 rfl rfl ha hS) ?_
     refine dj_gt rfl rfl rfl rfl (sub_of [0, 1] rfl) (fun a w ha hS => r_len runUnderlying46 rfl ha) ?_
     refine dj_gt rfl rfl rfl rfl (sub_of [0, 1] rfl) (fun a w ha hS => r_eql rfl rfl ha) ?_
     refine dj_val rfl rfl (sub_of [0, 1] rfl) (fun _ _ h => r_pick_f rfl rfl h) (dj_val rfl rfl (sub_of [0, 1] rfl) (fun _ _ h => r_move rfl h) ?_)
     refine dj_split (t := 75) rfl (fun hg75 => ?_) (fun hg75 => ?_)
     ·refine dj_gf rfl rfl rfl rfl rfl (sub_of [0, 1] rfl) (dj_gf rfl rfl rfl rfl rfl (sub_of [0, 1] rfl) (dj_gf rfl rfl rfl rfl rfl (sub_of [0, 1] rfl) (dj_gf rfl rfl rfl rfl rfl (sub_of [0, 1] rfl) (dj_val rfl rfl (sub_of [0, 1] rfl) (fun _ _ h => r_pick_t rfl rfl h) (dj_end (ej_then (hK22 _ _ _ (CJ.s [(1, _), (48, _), (49, _), (50, _), (80, _)] ⟨rfl, rfl, rfl, rfl, rfl, trivial⟩ ?_))))))))
      refine cj_if_t rfl ?_
      refine cj_seqF fun K24 hK24 => cj_reg (jA rfl rfl (j_nil (ej_then (hK24 _ _ _ (CJ.s [(2, _)] ⟨rfl, trivial⟩ (cj_ret (ej_blk_ret (ej_then_ret (ej_then_ret (ej_blk_ret (ej_then_ret (?_))))))))))))
      first | exact ej_ret1 results17 rfl fun w' hH hf => ⟨⟨_, rfl, fun h => absurd h (by decide)⟩, hf⟩ | exact ej_ret1 results17 rfl fun w' hH hf => ⟨⟨_, rfl, fun h => by
       rw [List.take_of_length_le (by omega)] at hT2 hN2
       simp at h hg86
       exact ⟨by omega, by omega, fun i t u ht hu => hT1 i t u (by have := (List.getElem?_eq_some_iff.1 hu).1; omega) ht hu, fun i t u ht hu => hN1 i t u (by have := (List.getElem?_eq_some_iff.1 hu).1; omega) ht hu, hT2, hN2⟩⟩, hf⟩
     ·refine dj_gt rfl rfl rfl rfl (sub_of [0, 1] rfl) (fun a w ha hS => r_fl (q := 1) (ft := 46) runUnderlying99 rfl sizeOf46 rfl ha) ?_
      refine dj_gt rfl rfl rfl rfl (sub_of [0, 1] rfl) (fun a w ha hS => r_ldS 0 rfl rfl isAgg46 rfl rfl ha hS) ?_
      refine dj_gt rfl rfl rfl rfl (sub_of [0, 1] rfl) (fun a w ha hS => r_len runUnderlying46 rfl ha) ?_
      refine dj_gt rfl rfl rfl rfl (sub_of [0, 1] rfl) (fun a w ha hS => r_gtr rfl rfl ha) ?_
      refine dj_val rfl rfl (sub_of [0, 1] rfl) (fun _ _ h => r_pick_f rfl rfl h) (dj_end (ej_then (hK22 _ _ _ (CJ.s [(1, _), (48, _), (49, _), (50, _), (80, _)] ⟨rfl, rfl, rfl, rfl, rfl, trivial⟩ ?_))))
      refine cj_if rfl (fun h80 => ?_) (fun h80 => ?_)
      ·refine cj_seqF fun K25 hK25 => cj_reg (jA rfl rfl (j_nil (ej_then (hK25 _ _ _ (CJ.s [(2, _)] ⟨rfl, trivial⟩ (cj_ret (ej_blk_ret (ej_then_ret (ej_then_ret (ej_blk_ret (ej_then_ret (?_))))))))))))
       first | exact ej_ret1 results17 rfl fun w' hH hf => ⟨⟨_, rfl, fun h => absurd h (by decide)⟩, hf⟩ | exact ej_ret1 results17 rfl fun w' hH hf => ⟨⟨_, rfl, fun h => by
        rw [List.take_of_length_le (by omega)] at hT2 hN2
        simp at h hg86
        exact ⟨by omega, by omega, fun i t u ht hu => hT1 i t u (by have := (List.getElem?_eq_some_iff.1 hu).1; omega) ht hu, fun i t u ht hu => hN1 i t u (by have := (List.getElem?_eq_some_iff.1 hu).1; omega) ht hu, hT2, hN2⟩⟩, hf⟩
      ·refine cj_skip (ej_blk (ej_then (hK20 _ _ _ (CJ.s [(1, _), (48, _), (49, _), (50, _)] ⟨rfl, rfl, rfl, rfl, trivial⟩ (cj_reg (j_val rfl (fun _ _ h => r_inc (by omega) rfl rfl h) (jM rfl rfl (j_nil (ej_then ?_)))))))))
       refine fun w hH hf => hKL (m + 1) _ w ⟨hm', asc_step (lt := fun t u => ltB t.key u.key) hm' hN1 (fun h0 => ?_), all_step hm' hN2 ⟨ne_nil_of hg75, le60_of h80⟩⟩ hf hH.2.2.2 (by omega) ⟨rfl, rfl, rfl, rfl, trivial⟩
       first | (simp at hg57; omega) | simpa using hg69
   ·refine dj_gf rfl rfl rfl rfl rfl (sub_of [0, 1] rfl) (dj_gf rfl rfl rfl rfl rfl (sub_of [0, 1] rfl) (dj_gf rfl rfl rfl rfl rfl (sub_of [0, 1] rfl) (dj_gf rfl rfl rfl rfl rfl (sub_of [0, 1] rfl) (dj_gf rfl rfl rfl rfl rfl (sub_of [0, 1] rfl) (dj_gf rfl rfl rfl rfl rfl (sub_of [0, 1] rfl) (dj_gf rfl rfl rfl rfl rfl (sub_of [0, 1] rfl) (dj_gf rfl rfl rfl rfl rfl (sub_of [0, 1] rfl) (dj_gf rfl rfl rfl rfl rfl (sub_of [0, 1] rfl) (dj_gf rfl rfl rfl rfl rfl (sub_of [0, 1] rfl) (dj_val rfl rfl (sub_of [0, 1] rfl) (fun _ _ h => r_pick_f rfl rfl h) (dj_val rfl rfl (sub_of [0, 1] rfl) (fun _ _ h => r_move rfl h) ?_)))))))))))
    refine dj_gt rfl rfl rfl rfl (sub_of [0, 1] rfl) (fun a w ha hS => r_fl (q := 1) (ft := 46) runUnderlying99 rfl sizeOf46 rfl ha) ?_
    refine dj_gt rfl rfl rfl rfl (sub_of [0, 1] rfl) (fun a w ha hS => r_ldS 0 rfl rfl isAgg46 rfl rfl ha hS) ?_
    refine dj_gt rfl rfl rfl rfl (sub_of [0, 1] rfl) (fun a w ha hS => r_len runUnderlying46 rfl ha) ?_
    refine dj_gt rfl rfl rfl rfl (sub_of [0, 1] rfl) (fun a w ha hS => r_eql rfl rfl ha) ?_
    refine dj_val rfl rfl (sub_of [0, 1] rfl) (fun _ _ h => r_pick_f rfl rfl h) (dj_val rfl rfl (sub_of [0, 1] rfl) (fun _ _ h => r_move rfl h) ?_)
    refine dj_split (t := 75) rfl (fun hg75 => ?_) (fun hg75 => ?_)
    ·refine dj_gf rfl rfl rfl rfl rfl (sub_of [0, 1] rfl) (dj_gf rfl rfl rfl rfl rfl (sub_of [0, 1] rfl) (dj_gf rfl rfl rfl rfl rfl (sub_of [0, 1] rfl) (dj_gf rfl rfl rfl rfl rfl (sub_of [0, 1] rfl) (dj_val rfl rfl (sub_of [0, 1] rfl) (fun _ _ h => r_pick_t rfl rfl h) (dj_end (ej_then (hK22 _ _ _ (CJ.s [(1, _), (48, _), (49, _), (50, _), (80, _)] ⟨rfl, rfl, rfl, rfl, rfl, trivial⟩ ?_))))))))
     refine cj_if_t rfl ?_
     refine cj_seqF fun K26 hK26 => cj_reg (jA rfl rfl (j_nil (ej_then (hK26 _ _ _ (CJ.s [(2, _)] ⟨rfl, trivial⟩ (cj_ret (ej_blk_ret (ej_then_ret (ej_then_ret (ej_blk_ret (ej_then_ret (?_))))))))))))
     first | exact ej_ret1 results17 rfl fun w' hH hf => ⟨⟨_, rfl, fun h => absurd h (by decide)⟩, hf⟩ | exact ej_ret1 results17 rfl fun w' hH hf => ⟨⟨_, rfl, fun h => by
      rw [List.take_of_length_le (by omega)] at hT2 hN2
      simp at h hg86
      exact ⟨by omega, by omega, fun i t u ht hu => hT1 i t u (by have := (List.getElem?_eq_some_iff.1 hu).1; omega) ht hu, fun i t u ht hu => hN1 i t u (by have := (List.getElem?_eq_some_iff.1 hu).1; omega) ht hu, hT2, hN2⟩⟩, hf⟩
    ·refine dj_gt rfl rfl rfl rfl (sub_of [0, 1] rfl) (fun a w ha hS => r_fl (q := 1) (ft := 46) runUnderlying99 rfl sizeOf46 rfl ha) ?_
     refine dj_gt rfl rfl rfl rfl (sub_of [0, 1] rfl) (fun a w ha hS => r_ldS 0 rfl rfl isAgg46 rfl rfl ha hS) ?_
     refine dj_gt rfl rfl rfl rfl (sub_of [0, 1] rfl) (fun a w ha hS => r_len runUnderlying46 rfl ha) ?_
     refine dj_gt rfl rfl rfl rfl (sub_of [0, 1] rfl) (fun a w ha hS => r_gtr rfl rfl ha) ?_
     refine dj_val rfl rfl (sub_of [0, 1] rfl) (fun _ _ h => r_pick_f rfl rfl h) (dj_end (ej_then (hK22 _ _ _ (CJ.s [(1, _), (48, _), (49, _), (50, _), (80, _)] ⟨rfl, rfl, rfl, rfl, rfl, trivial⟩ ?_))))
     refine cj_if rfl (fun h80 => ?_) (fun h80 => ?_)
     ·refine cj_seqF fun K27 hK27 => cj_reg (jA rfl rfl (j_nil (ej_then (hK27 _ _ _ (CJ.s [(2, _)] ⟨rfl, trivial⟩ (cj_ret (ej_blk_ret (ej_then_ret (ej_then_ret (ej_blk_ret (ej_then_ret (?_))))))))))))
      first | exact ej_ret1 results17 rfl fun w' hH hf => ⟨⟨_, rfl, fun h => absurd h (by decide)⟩, hf⟩ | exact ej_ret1 results17 rfl fun w' hH hf => ⟨⟨_, rfl, fun h => by
       rw [List.take_of_length_le (by omega)] at hT2 hN2
       simp at h hg86
       exact ⟨by omega, by omega, fun i t u ht hu => hT1 i t u (by have := (List.getElem?_eq_some_iff.1 hu).1; omega) ht hu, fun i t u ht hu => hN1 i t u (by have := (List.getElem?_eq_some_iff.1 hu).1; omega) ht hu, hT2, hN2⟩⟩, hf⟩
     ·refine cj_skip (ej_blk (ej_then (hK20 _ _ _ (CJ.s [(1, _), (48, _), (49, _), (50, _)] ⟨rfl, rfl, rfl, rfl, trivial⟩ (cj_reg (j_val rfl (fun _ _ h => r_inc (by omega) rfl rfl h) (jM rfl rfl (j_nil (ej_then ?_)))))))))
      refine fun w hH hf => hKL (m + 1) _ w ⟨hm', asc_step (lt := fun t u => ltB t.key u.key) hm' hN1 (fun h0 => ?_), all_step hm' hN2 ⟨ne_nil_of hg75, le60_of h80⟩⟩ hf hH.2.2.2 (by omega) ⟨rfl, rfl, rfl, rfl, trivial⟩
      first | (simp at hg57; omega) | simpa using hg69
  ·refine cj_exit (ej_then_exit (ej_then_exit (ej_blk_hit (ej_then (hK16 _ _ _ (CJ.s [(1, _)] ⟨rfl, trivial⟩ (cj_seqF fun K28 hK28 => cj_reg (j_val rfl (fun _ _ h => r_fl (q := 2) (ft := 47) runUnderlying50 rfl sizeOf47 rfl h) (j_valw rfl (fun a w ha hH hf => r_ldH 0 rfl rfl isAgg47 rfl rfl ha hH) (j_val rfl (fun _ _ h => r_len runUnderlying47 rfl h) (j_val rfl (fun _ _ h => r_leq rfl rfl h) (jM rfl rfl ?_))))))))))))
   refine j_split (t := 86) rfl (fun hg86 => ?_) (fun hg86 => ?_)
   ·refine j_gt rfl rfl (j_val rfl (fun _ _ h => r_fl (q := 3) (ft := 48) runUnderlying50 rfl sizeOf48 rfl h) (j_gt rfl rfl (j_valw rfl (fun a w ha hH hf => r_ldH 0 rfl rfl isAgg48 rfl rfl ha hH) (j_gt rfl rfl (j_val rfl (fun _ _ h => r_len runUnderlying48 rfl h) (j_gt rfl rfl (j_val rfl (fun _ _ h => r_leq rfl rfl h) (j_val rfl (fun _ _ h => r_pick_t rfl rfl h) (jA rfl rfl (j_nil (ej_then (hK28 _ _ _ (CJ.s [(2, _)] ⟨rfl, trivial⟩ (cj_ret (?_)))))))))))))))
    first | exact ej_ret1 results17 rfl fun w' hH hf => ⟨⟨_, rfl, fun h => absurd h (by decide)⟩, hf⟩ | exact ej_ret1 results17 rfl fun w' hH hf => ⟨⟨_, rfl, fun h => by
     rw [List.take_of_length_le (by omega)] at hT2 hN2
     simp at h hg86
     exact ⟨by omega, by omega, fun i t u ht hu => hT1 i t u (by have := (List.getElem?_eq_some_iff.1 hu).1; omega) ht hu, fun i t u ht hu => hN1 i t u (by have := (List.getElem?_eq_some_iff.1 hu).1; omega) ht hu, hT2, hN2⟩⟩, hf⟩
   ·refine j_gf rfl rfl rfl rfl (j_gf rfl rfl rfl rfl (j_gf rfl rfl rfl rfl (j_gf rfl rfl rfl rfl (j_val rfl (fun _ _ h => r_pick_f rfl rfl h) (jA rfl rfl (j_nil (ej_then (hK28 _ _ _ (CJ.s [(2, _)] ⟨rfl, trivial⟩ (cj_ret (?_)))))))))))
    first | exact ej_ret1 results17 rfl fun w' hH hf => ⟨⟨_, rfl, fun h => absurd h (by decide)⟩, hf⟩ | exact ej_ret1 results17 rfl fun w' hH hf => ⟨⟨_, rfl, fun h => by
     rw [List.take_of_length_le (by omega)] at hT2 hN2
     simp at h hg86
     exact ⟨by omega, by omega, fun i t u ht hu => hT1 i t u (by have := (List.getElem?_eq_some_iff.1 hu).1; omega) ht hu, fun i t u ht hu => hN1 i t u (by have := (List.getElem?_eq_some_iff.1 hu).1; omega) ht hu, hT2, hN2⟩⟩, hf⟩

/-- the mappings, functions and locations of a profile, well formed -/
structure TabP (x : PProf) : Prop where
 m : 0 ∉ x.mappings.map (·.id) ∧ (x.mappings.map (·.id)).Nodup ∧ (x.mappings.map (·.id)).length ≤ 60
 f : 0 ∉ x.funcs.map (·.id) ∧ (x.funcs.map (·.id)).Nodup ∧ (x.funcs.map (·.id)).length ≤ 60
 l : 0 ∉ x.locs.map (·.id) ∧ (x.locs.map (·.id)).Nodup ∧ (x.locs.map (·.id)).length ≤ 60
 locs : ∀ l ∈ x.locs, (-1 ≤ l.mapping ∧ l.mapping < x.mappings.length) ∧ l.lines.length ≤ 60 ∧ ∀ n ∈ l.lines, -1 ≤ n.fn ∧ n.fn < x.funcs.length
theorem ids_step {α : Type} {xs : List α} {g : α → Value} {k : Nat} (hk : k < xs.length) : (xs.take k).map g ++ [g xs[k]] = (xs.take (k + 1)).map g := by
 rw [← List.take_append_getElem hk, List.map_append]; rfl
theorem map_comp {α β γ : Type} (f : β → γ) (g : α → β) (xs : List α) : xs.map (fun x => f (g x)) = (xs.map g).map f := by simp
set_option maxHeartbeats 1000000 in
theorem tables_c (w : World) (cs : List Value) (x : PProf) (h : RProf w cs x) (hbm : x.mappings.length ≤ 2147483647) (hbl : x.locs.length ≤ 2147483647) (hbf : x.funcs.length ≤ 2147483647) :
  Calls Tryz.prog 18 #[.agg cs.toArray] w (Ret fun v w' => (∃ b, v = .bool b ∧ (b = true → TabP x)) ∧ Fr 0 [] w w') := by
 obtain ⟨la, ls, lm, ll, lf, lcm, rfl, -, -, hlm, hll, hlf, -, -⟩ := h
 have hKm := hlm; have hKl := hll; have hKf := hlf
 obtain ⟨pm, cm, rfl, -, hxm⟩ := hlm.open
 obtain ⟨pf, cf, rfl, -, hxf⟩ := hlf.open
 obtain ⟨pl, cl, rfl, -, hxl⟩ := hll.open
 refine startJ (args := [_]) [(0, _)] 0 [] [] func18 rfl ntmps18 rfl rfl .nil ?_
 refine cj_seqF fun K1 hK1 => cj_reg ?_
 refine j_boxA (vs := [_, _, _, _, _, _, _, _, _, _, _, _, _, _]) rfl rfl fun b1 => ?_
 refine jA rfl rfl (j_nil (ej_then (hK1 _ _ _ (CJ.s [(1, _)] ⟨rfl, trivial⟩ (cj_seqF fun K2 hK2 => cj_reg (jA rfl rfl (jA rfl rfl (jA rfl rfl (j_nil (ej_then (hK2 _ _ _ (CJ.s [(1, _), (3, _), (4, _), (5, _)] ⟨rfl, rfl, rfl, rfl, trivial⟩ (cj_seqF fun K3 hK3 => cj_seqF fun K4 hK4 => ?_)))))))))))))
 refine cj_reg (j_val rfl (fun _ _ h => r_fl (q := 3) (ft := 24) runUnderlying31 rfl sizeOf24 rfl h) (j_valw rfl (fun a w ha hH hf => r_ldH 0 rfl rfl isAgg24 rfl rfl ha hH) (j_val rfl (fun _ _ h => r_len runUnderlying24 rfl h) (jM rfl rfl (j_nil (ej_then (hK4 _ _ _ (CJ.s [(1, _), (3, _), (4, _), (5, _), (15, _), (16, _), (17, _)] ⟨rfl, rfl, rfl, rfl, rfl, rfl, rfl, trivial⟩ (cj_block ?_)))))))))
 -- LOOP 0 live [1, 3, 4, 5, 15, 16, 17]
 refine cj_loop (σ := Nat × Ent × Option Addr × Nat) (fun s => [(1, .pointer (some ⟨b1, 0, none⟩)), (3, .slice s.2.2.1 s.1 s.2.2.2), (4, .slice none 0 0), (5, .slice none 0 0), (15, .slice pm x.mappings.length cm), (16, .int .i64 (x.mappings.length : Nat)), (17, .int .i64 (s.1 : Nat))])
  (fun s => [s.2.1, ⟨b1, 31, [la, .string x.deflt, ls, .slice pm x.mappings.length cm, .slice pl x.locs.length cl, .slice pf x.funcs.length cf, lcm, .string x.drop, .string x.keep, .int .i64 x.time, .int .i64 x.dur, .int .i64 x.period, .string x.per.ty, .string x.per.unit], true, true, none⟩])
  (fun s _ => s.1 ≤ x.mappings.length ∧ Own 59 1 s.2.1 s.2.2.1 s.1 s.2.2.2 ((x.mappings.take s.1).map fun m => .int .u64 m.id))
  (fun s => x.mappings.length - s.1) (0, nilE 59, none, 0) ⟨rfl, rfl, rfl, rfl, rfl, rfl, rfl, trivial⟩ (fun w hH hf => ⟨hH.off, Nat.zero_le _, Own.nil⟩) ?_
 rintro ⟨k, yA, pA, cA⟩ w1 ⟨hk, hA⟩ hf1 hH1 KL hKL
 refine C.begin _ [yA, _] hf1 hH1 ?_
 refine CJ.s [(1, _), (3, .slice pA k cA), (4, _), (5, _), (15, _), (16, _), (17, .int .i64 (k : Nat))] ⟨rfl, rfl, rfl, rfl, rfl, rfl, rfl, trivial⟩ (cj_seqF fun K5 hK5 => cj_reg (j_val rfl (fun _ _ h => r_lss rfl rfl h) (j_nil (ej_then (hK5 _ _ _ (CJ.s [(1, _), (3, _), (4, _), (5, _), (15, _), (16, _), (17, _), (18, _)] ⟨rfl, rfl, rfl, rfl, rfl, rfl, rfl, rfl, trivial⟩ (cj_seqF fun K6 hK6 => ?_)))))))
 refine cj_dec rfl (fun h18 => ?_) (fun h18 => ?_)
 ·have hk' : k < x.mappings.length := by omega
  obtain ⟨b, o, cs, rfl, hcs, hR, hcell⟩ := hxm k x.mappings[k] (List.getElem?_eq_getElem hk')
  obtain ⟨rfl, hwk, -⟩ := hR
  refine cj_skip (ej_then (hK6 _ _ _ (CJ.s [(1, _), (3, _), (4, _), (5, _), (15, _), (16, _), (17, _)] ⟨rfl, rfl, rfl, rfl, rfl, rfl, rfl, trivial⟩ (cj_seqF fun K7 hK7 => cj_block (cj_seqF fun K8 hK8 => cj_reg (j_val rfl (fun _ _ h => r_idx runUnderlying24 sizeOf70 rfl rfl (by omega) h) (j_valw rfl (fun a w ha hH hf => r_loadA isAgg70 sizeOf70 rfl rfl (hcell w (hf.keepAll (.inr rfl))) ha) ?_)))))))
  refine j_allocA (zs := [(.int .u64 0), (.int .u64 0), (.int .u64 0), (.int .u64 0), (.string ⟨#[]⟩), (.string ⟨#[]⟩), (.bool false), (.bool false), (.bool false), (.bool false)]) zeroValue70 rfl fun b7 => ?_
  refine j_storeN (cs' := [_, _, _, _, _, _, _, _, _, _]) (H' := [_, _, _]) 0 rfl rfl rfl rfl sizeOf70 rfl rfl rfl rfl rfl rfl rfl ?_
  refine j_nil (ej_then (hK8 _ _ _ (CJ.s [(1, _), (3, _), (4, _), (5, _), (7, _), (15, _), (16, _), (17, _)] ⟨rfl, rfl, rfl, rfl, rfl, rfl, rfl, rfl, trivial⟩ (cj_reg (jM rfl rfl (j_val rfl (fun _ _ h => r_fl (q := 0) (ft := 59) runUnderlying70 rfl sizeOf59 rfl h) (j_valw rfl (fun a w ha hH hf => r_ldH 0 rfl rfl isAgg59 rfl rfl ha hH) ?_)))))))
  refine j_bslice1 runUnderlying67 sizeOf59 zeroValue59 rfl rfl rfl rfl rfl fun b24 => ?_
  refine j_appO 1 rfl hA runUnderlying67 el59 rfl rfl rfl rfl rfl (by omega) rfl fun y25 p25 c25 hO25 => ?_
  refine jA rfl rfl (j_nil (ej_blk (ej_then (hK7 _ _ _ (CJ.s [(1, _), (3, _), (4, _), (5, _), (15, _), (16, _), (17, _)] ⟨rfl, rfl, rfl, rfl, rfl, rfl, rfl, trivial⟩ (cj_reg (j_val rfl (fun _ _ h => r_inc (by omega) rfl rfl h) (jM rfl rfl (j_nil (ej_then ?_))))))))))
  exact fun w hH hf => hKL (k + 1, y25, p25, c25) _ w ⟨hk', by rw [← ids_step (g := fun m => .int .u64 m.id) hk']; exact hO25⟩ hf hH.2.2.2 (by simp only; omega) ⟨rfl, rfl, rfl, rfl, rfl, rfl, rfl, trivial⟩
 ·have hA' : Own 59 1 yA pA k cA (x.mappings.map fun m => .int .u64 m.id) := by rw [List.take_of_length_le (by omega)] at hA; exact hA
  refine cj_exit (ej_then_exit (ej_then_exit (ej_blk_hit (ej_then (hK3 _ _ _ (CJ.s [(1, _), (3, _), (4, _), (5, _)] ⟨rfl, rfl, rfl, rfl, trivial⟩ (cj_seqF fun K9 hK9 => cj_seqF fun K10 hK10 => cj_reg (j_val rfl (fun _ _ h => r_fl (q := 5) (ft := 26) runUnderlying31 rfl sizeOf26 rfl h) (j_valw rfl (fun a w ha hH hf => r_ldH 1 rfl rfl isAgg26 rfl rfl ha hH) (j_val rfl (fun _ _ h => r_len runUnderlying26 rfl h) (jM rfl rfl (j_nil (ej_then (hK10 _ _ _ (CJ.s [(1, _), (3, _), (4, _), (5, _), (28, _), (29, _), (30, _)] ⟨rfl, rfl, rfl, rfl, rfl, rfl, rfl, trivial⟩ (cj_block ?_))))))))))))))))
  -- LOOP 1 live [1, 3, 4, 5, 28, 29, 30]
  refine cj_loop (σ := Nat × Ent × Option Addr × Nat) (fun s => [(1, .pointer (some ⟨b1, 0, none⟩)), (3, .slice pA k cA), (4, .slice s.2.2.1 s.1 s.2.2.2), (5, .slice none 0 0), (28, .slice pf x.funcs.length cf), (29, .int .i64 (x.funcs.length : Nat)), (30, .int .i64 (s.1 : Nat))])
   (fun s => [s.2.1, yA, ⟨b1, 31, [la, .string x.deflt, ls, .slice pm x.mappings.length cm, .slice pl x.locs.length cl, .slice pf x.funcs.length cf, lcm, .string x.drop, .string x.keep, .int .i64 x.time, .int .i64 x.dur, .int .i64 x.period, .string x.per.ty, .string x.per.unit], true, true, none⟩])
   (fun s _ => s.1 ≤ x.funcs.length ∧ Own 59 1 s.2.1 s.2.2.1 s.1 s.2.2.2 ((x.funcs.take s.1).map fun m => .int .u64 m.id))
   (fun s => x.funcs.length - s.1) (0, nilE 59, none, 0) ⟨rfl, rfl, rfl, rfl, rfl, rfl, rfl, trivial⟩ (fun w hH hf => ⟨hH.off, Nat.zero_le _, Own.nil⟩) ?_
  rintro ⟨m, yB, pB, cB⟩ w2 ⟨hm, hB⟩ hf2 hH2 KL hKL
  refine C.begin _ [yB, yA, _] hf2 hH2 ?_
  refine CJ.s [(1, _), (3, _), (4, .slice pB m cB), (5, _), (28, _), (29, _), (30, .int .i64 (m : Nat))] ⟨rfl, rfl, rfl, rfl, rfl, rfl, rfl, trivial⟩ (cj_seqF fun K11 hK11 => cj_reg (j_val rfl (fun _ _ h => r_lss rfl rfl h) (j_nil (ej_then (hK11 _ _ _ (CJ.s [(1, _), (3, _), (4, _), (5, _), (28, _), (29, _), (30, _), (31, _)] ⟨rfl, rfl, rfl, rfl, rfl, rfl, rfl, rfl, trivial⟩ (cj_seqF fun K12 hK12 => ?_)))))))
  refine cj_dec rfl (fun h31 => ?_) (fun h31 => ?_)
  ·have hm' : m < x.funcs.length := by omega
   obtain ⟨b, o, cs, rfl, hcs, hR, hcell⟩ := hxf m x.funcs[m] (List.getElem?_eq_getElem hm')
   obtain ⟨rfl, hwk, -⟩ := hR
   refine cj_skip (ej_then (hK12 _ _ _ (CJ.s [(1, _), (3, _), (4, _), (5, _), (28, _), (29, _), (30, _)] ⟨rfl, rfl, rfl, rfl, rfl, rfl, rfl, trivial⟩ (cj_seqF fun K13 hK13 => cj_block (cj_seqF fun K14 hK14 => cj_reg (j_val rfl (fun _ _ h => r_idx runUnderlying26 sizeOf72 rfl rfl (by omega) h) (j_valw rfl (fun a w ha hH hf => r_loadA isAgg72 sizeOf72 rfl rfl (hcell w (hf.keepAll (.inr rfl))) ha) ?_)))))))
   refine j_allocA (zs := [(.int .u64 0), (.string ⟨#[]⟩), (.string ⟨#[]⟩), (.string ⟨#[]⟩), (.int .i64 0)]) zeroValue72 rfl fun b9 => ?_
   refine j_storeN (cs' := [_, _, _, _, _]) (H' := [_, _, _, _]) 0 rfl rfl rfl rfl sizeOf72 rfl rfl rfl rfl rfl rfl rfl ?_
   refine j_nil (ej_then (hK14 _ _ _ (CJ.s [(1, _), (3, _), (4, _), (5, _), (9, _), (28, _), (29, _), (30, _)] ⟨rfl, rfl, rfl, rfl, rfl, rfl, rfl, rfl, trivial⟩ (cj_reg (jM rfl rfl (j_val rfl (fun _ _ h => r_fl (q := 0) (ft := 59) runUnderlying72 rfl sizeOf59 rfl h) (j_valw rfl (fun a w ha hH hf => r_ldH 0 rfl rfl isAgg59 rfl rfl ha hH) ?_)))))))
   refine j_bslice1 runUnderlying67 sizeOf59 zeroValue59 rfl rfl rfl rfl rfl fun b37 => ?_
   refine j_appO 1 rfl hB runUnderlying67 el59 rfl rfl rfl rfl rfl (by omega) rfl fun y38 p38 c38 hO38 => ?_
   refine jA rfl rfl (j_nil (ej_blk (ej_then (hK13 _ _ _ (CJ.s [(1, _), (3, _), (4, _), (5, _), (28, _), (29, _), (30, _)] ⟨rfl, rfl, rfl, rfl, rfl, rfl, rfl, trivial⟩ (cj_reg (j_val rfl (fun _ _ h => r_inc (by omega) rfl rfl h) (jM rfl rfl (j_nil (ej_then ?_))))))))))
   exact fun w hH hf => hKL (m + 1, y38, p38, c38) _ w ⟨hm', by rw [← ids_step (g := fun m => .int .u64 m.id) hm']; exact hO38⟩ hf hH.2.2.2 (by simp only; omega) ⟨rfl, rfl, rfl, rfl, rfl, rfl, rfl, trivial⟩
  ·have hB' : Own 59 1 yB pB m cB (x.funcs.map fun m => .int .u64 m.id) := by rw [List.take_of_length_le (by omega)] at hB; exact hB
   refine cj_exit (ej_then_exit (ej_then_exit (ej_blk_hit (ej_then (hK9 _ _ _ (CJ.s [(1, _), (3, _), (4, _), (5, _)] ⟨rfl, rfl, rfl, rfl, trivial⟩ (cj_seqF fun K15 hK15 => cj_seqF fun K16 hK16 => cj_reg (j_val rfl (fun _ _ h => r_fl (q := 4) (ft := 25) runUnderlying31 rfl sizeOf25 rfl h) (j_valw rfl (fun a w ha hH hf => r_ldH 2 rfl rfl isAgg25 rfl rfl ha hH) (j_val rfl (fun _ _ h => r_len runUnderlying25 rfl h) (jM rfl rfl (j_nil (ej_then (hK16 _ _ _ (CJ.s [(1, _), (3, _), (4, _), (5, _), (41, _), (42, _), (43, _)] ⟨rfl, rfl, rfl, rfl, rfl, rfl, rfl, trivial⟩ (cj_block ?_))))))))))))))))
   -- LOOP 2 live [1, 3, 4, 5, 41, 42, 43]
   refine cj_loop (σ := Nat × Ent × Option Addr × Nat) (fun s => [(1, .pointer (some ⟨b1, 0, none⟩)), (3, .slice pA k cA), (4, .slice pB m cB), (5, .slice s.2.2.1 s.1 s.2.2.2), (41, .slice pl x.locs.length cl), (42, .int .i64 (x.locs.length : Nat)), (43, .int .i64 (s.1 : Nat))])
    (fun s => [s.2.1, yB, yA, ⟨b1, 31, [la, .string x.deflt, ls, .slice pm x.mappings.length cm, .slice pl x.locs.length cl, .slice pf x.funcs.length cf, lcm, .string x.drop, .string x.keep, .int .i64 x.time, .int .i64 x.dur, .int .i64 x.period, .string x.per.ty, .string x.per.unit], true, true, none⟩])
    (fun s _ => s.1 ≤ x.locs.length ∧ Own 59 1 s.2.1 s.2.2.1 s.1 s.2.2.2 ((x.locs.take s.1).map fun m => .int .u64 m.id) ∧ ∀ l ∈ x.locs.take s.1, (-1 ≤ l.mapping ∧ l.mapping < x.mappings.length) ∧ l.lines.length ≤ 60 ∧ ∀ n ∈ l.lines, -1 ≤ n.fn ∧ n.fn < x.funcs.length)
    (fun s => x.locs.length - s.1) (0, nilE 59, none, 0) ⟨rfl, rfl, rfl, rfl, rfl, rfl, rfl, trivial⟩ (fun w hH hf => ⟨hH.off, Nat.zero_le _, Own.nil, by simp⟩) ?_
   rintro ⟨i, yC, pC, cC⟩ w3 ⟨hi, hC, hL⟩ hf3 hH3 KL hKL
   refine C.begin _ [yC, yB, yA, _] hf3 hH3 ?_
   refine CJ.s [(1, _), (3, _), (4, _), (5, .slice pC i cC), (41, _), (42, _), (43, .int .i64 (i : Nat))] ⟨rfl, rfl, rfl, rfl, rfl, rfl, rfl, trivial⟩ (cj_seqF fun K17 hK17 => cj_reg (j_val rfl (fun _ _ h => r_lss rfl rfl h) (j_nil (ej_then (hK17 _ _ _ (CJ.s [(1, _), (3, _), (4, _), (5, _), (41, _), (42, _), (43, _), (44, _)] ⟨rfl, rfl, rfl, rfl, rfl, rfl, rfl, rfl, trivial⟩ (cj_seqF fun K18 hK18 => ?_)))))))
   refine cj_dec rfl (fun h44 => ?_) (fun h44 => ?_)
   ·have hi' : i < x.locs.length := by omega
    obtain ⟨b, o, cs, rfl, hcs, hR, hcell⟩ := hxl i x.locs[i] (List.getElem?_eq_getElem hi')
    obtain ⟨l1, rfl, hwk, -, -, hl1⟩ := hR
    obtain ⟨p1, c1, rfl, hs1, hx1⟩ := hl1.open
    refine cj_skip (ej_then (hK18 _ _ _ (CJ.s [(1, _), (3, _), (4, _), (5, _), (41, _), (42, _), (43, _)] ⟨rfl, rfl, rfl, rfl, rfl, rfl, rfl, trivial⟩ (cj_seqF fun K19 hK19 => cj_block (cj_seqF fun K20 hK20 => cj_reg (j_val rfl (fun _ _ h => r_idx runUnderlying25 sizeOf76 rfl rfl (by omega) h) (j_valw rfl (fun a w ha hH hf => r_loadA isAgg76 sizeOf76 rfl rfl (hcell w (hf.keepAll (.inr rfl))) ha) ?_)))))))
    refine j_allocA (zs := [(.int .u64 0), (.int .i64 0), (.int .u64 0), (.slice none 0 0)]) zeroValue76 rfl fun b11 => ?_
    refine j_storeN (cs' := [_, _, _, _]) (H' := [_, _, _, _, _]) 0 rfl rfl rfl rfl sizeOf76 rfl rfl rfl rfl rfl rfl rfl ?_
    refine j_nil (ej_then (hK20 _ _ _ (CJ.s [(1, _), (3, _), (4, _), (5, _), (11, _), (41, _), (42, _), (43, _)] ⟨rfl, rfl, rfl, rfl, rfl, rfl, rfl, rfl, trivial⟩ (cj_seqF fun K21 hK21 => cj_reg (jM rfl rfl (j_val rfl (fun _ _ h => r_fl (q := 0) (ft := 59) runUnderlying76 rfl sizeOf59 rfl h) (j_valw rfl (fun a w ha hH hf => r_ldH 0 rfl rfl isAgg59 rfl rfl ha hH) ?_)))))))
    refine j_bslice1 runUnderlying67 sizeOf59 zeroValue59 rfl rfl rfl rfl rfl fun b50 => ?_
    refine j_appO 1 rfl hC runUnderlying67 el59 rfl rfl rfl rfl rfl (by omega) rfl fun y51 p51 c51 hO51 => ?_
    refine jA rfl rfl (j_nil (ej_then (hK21 _ _ _ (CJ.s [(1, _), (3, _), (4, _), (5, _), (11, _), (41, _), (42, _), (43, _)] ⟨rfl, rfl, rfl, rfl, rfl, rfl, rfl, rfl, trivial⟩ (cj_seqF fun K22 hK22 => cj_seqF fun K23 hK23 => cj_reg (j_val rfl (fun _ _ h => r_fl (q := 1) (ft := 3) runUnderlying76 rfl sizeOf3 rfl h) (j_valw rfl (fun a w ha hH hf => r_ldH 0 rfl rfl isAgg3 rfl rfl ha hH) (j_val rfl (fun _ _ h => r_lss rfl rfl h) (jM rfl rfl ?_)))))))))
    refine j_split (t := 55) rfl (fun hg55 => ?_) (fun hg55 => ?_)
    ·refine j_gf rfl rfl rfl rfl (j_gf rfl rfl rfl rfl (j_gf rfl rfl rfl rfl (j_gf rfl rfl rfl rfl (j_gf rfl rfl rfl rfl (j_gf rfl rfl rfl rfl (j_val rfl (fun _ _ h => r_pick_t rfl rfl h) (jM rfl rfl (j_gf rfl rfl rfl rfl (j_gf rfl rfl rfl rfl (j_gf rfl rfl rfl rfl (j_gf rfl rfl rfl rfl (j_val rfl (fun _ _ h => r_pick_t rfl rfl h) (j_nil ?_)))))))))))))
     refine ej_then (hK23 _ _ _ (CJ.s [(1, _), (3, _), (4, _), (5, _), (11, _), (41, _), (42, _), (43, _), (68, _)] ⟨rfl, rfl, rfl, rfl, rfl, rfl, rfl, rfl, rfl, trivial⟩ ?_))
     refine cj_if_t rfl ?_
     refine cj_seqF fun K24 hK24 => cj_reg (jA rfl rfl (j_nil (ej_then (hK24 _ _ _ (CJ.s [(2, _)] ⟨rfl, trivial⟩ (cj_ret (ej_then_ret (ej_blk_ret (ej_then_ret (ej_then_ret (ej_blk_ret (ej_then_ret (?_)))))))))))))
     first | exact ej_ret1 results18 rfl fun w' hH hf => ⟨⟨_, rfl, fun h => absurd h (by decide)⟩, hf⟩ | exact ej_ret1 results18 rfl fun w' hH hf => ⟨⟨_, rfl, fun h => by subst h; exact ⟨hb90 hg91, hb93 hg95, hb97 rfl, by rw [List.take_of_length_le (by omega)] at hL; exact hL⟩⟩, hf⟩
    ·refine j_gt rfl rfl (j_val rfl (fun _ _ h => r_fl (q := 1) (ft := 3) runUnderlying76 rfl sizeOf3 rfl h) (j_gt rfl rfl (j_valw rfl (fun a w ha hH hf => r_ldH 0 rfl rfl isAgg3 rfl rfl ha hH) (j_gt rfl rfl (j_val rfl (fun _ _ h => r_fl (q := 3) (ft := 24) runUnderlying31 rfl sizeOf24 rfl h) (j_gt rfl rfl (j_valw rfl (fun a w ha hH hf => r_ldH 4 rfl rfl isAgg24 rfl rfl ha hH) (j_gt rfl rfl (j_val rfl (fun _ _ h => r_len runUnderlying24 rfl h) (j_gt rfl rfl (j_val rfl (fun _ _ h => r_geq rfl rfl h) (j_val rfl (fun _ _ h => r_pick_f rfl rfl h) (jM rfl rfl ?_)))))))))))))
     refine j_split (t := 63) rfl (fun hg63 => ?_) (fun hg63 => ?_)
     ·refine j_gf rfl rfl rfl rfl (j_gf rfl rfl rfl rfl (j_gf rfl rfl rfl rfl (j_gf rfl rfl rfl rfl (j_val rfl (fun _ _ h => r_pick_t rfl rfl h) (j_nil (ej_then (hK23 _ _ _ (CJ.s [(1, _), (3, _), (4, _), (5, _), (11, _), (41, _), (42, _), (43, _), (68, _)] ⟨rfl, rfl, rfl, rfl, rfl, rfl, rfl, rfl, rfl, trivial⟩ ?_))))))))
      refine cj_if_t rfl ?_
      refine cj_seqF fun K25 hK25 => cj_reg (jA rfl rfl (j_nil (ej_then (hK25 _ _ _ (CJ.s [(2, _)] ⟨rfl, trivial⟩ (cj_ret (ej_then_ret (ej_blk_ret (ej_then_ret (ej_then_ret (ej_blk_ret (ej_then_ret (?_)))))))))))))
      first | exact ej_ret1 results18 rfl fun w' hH hf => ⟨⟨_, rfl, fun h => absurd h (by decide)⟩, hf⟩ | exact ej_ret1 results18 rfl fun w' hH hf => ⟨⟨_, rfl, fun h => by subst h; exact ⟨hb90 hg91, hb93 hg95, hb97 rfl, by rw [List.take_of_length_le (by omega)] at hL; exact hL⟩⟩, hf⟩
     ·refine j_gt rfl rfl (j_val rfl (fun _ _ h => r_fl (q := 3) (ft := 74) runUnderlying76 rfl sizeOf74 rfl h) (j_gt rfl rfl (j_valw rfl (fun a w ha hH hf => r_ldH 0 rfl rfl isAgg74 rfl rfl ha hH) (j_gt rfl rfl (j_val rfl (fun _ _ h => r_len runUnderlying74 rfl h) (j_gt rfl rfl (j_val rfl (fun _ _ h => r_gtr rfl rfl h) (j_val rfl (fun _ _ h => r_pick_f rfl rfl h) (j_nil (ej_then (hK23 _ _ _ (CJ.s [(1, _), (3, _), (4, _), (5, _), (11, _), (41, _), (42, _), (43, _), (68, _)] ⟨rfl, rfl, rfl, rfl, rfl, rfl, rfl, rfl, rfl, trivial⟩ ?_))))))))))))
      refine cj_if rfl (fun h68 => ?_) (fun h68 => ?_)
      ·refine cj_seqF fun K26 hK26 => cj_reg (jA rfl rfl (j_nil (ej_then (hK26 _ _ _ (CJ.s [(2, _)] ⟨rfl, trivial⟩ (cj_ret (ej_then_ret (ej_blk_ret (ej_then_ret (ej_then_ret (ej_blk_ret (ej_then_ret (?_)))))))))))))
       first | exact ej_ret1 results18 rfl fun w' hH hf => ⟨⟨_, rfl, fun h => absurd h (by decide)⟩, hf⟩ | exact ej_ret1 results18 rfl fun w' hH hf => ⟨⟨_, rfl, fun h => by subst h; exact ⟨hb90 hg91, hb93 hg95, hb97 rfl, by rw [List.take_of_length_le (by omega)] at hL; exact hL⟩⟩, hf⟩
      ·refine cj_skip (ej_then (hK22 _ _ _ (CJ.s [(1, _), (3, _), (4, _), (5, _), (11, _), (41, _), (42, _), (43, _)] ⟨rfl, rfl, rfl, rfl, rfl, rfl, rfl, rfl, trivial⟩ (cj_seqF fun K27 hK27 => cj_reg (j_val rfl (fun _ _ h => r_fl (q := 3) (ft := 74) runUnderlying76 rfl sizeOf74 rfl h) (j_valw rfl (fun a w ha hH hf => r_ldH 0 rfl rfl isAgg74 rfl rfl ha hH) (j_val rfl (fun _ _ h => r_len runUnderlying74 rfl h) (jM rfl rfl (j_nil (ej_then (hK27 _ _ _ (CJ.s [(1, _), (3, _), (4, _), (5, _), (41, _), (42, _), (43, _), (70, _), (71, _), (72, _)] ⟨rfl, rfl, rfl, rfl, rfl, rfl, rfl, rfl, rfl, rfl, trivial⟩ (cj_block ?_)))))))))))))
       -- LOOP 3 live [1, 3, 4, 5, 41, 42, 43, 70, 71, 72]
       refine cj_loop (σ := Nat) (fun j => [(1, .pointer (some ⟨b1, 0, none⟩)), (3, .slice pA k cA), (4, .slice pB m cB), (5, .slice p51 (i + 1) c51), (41, .slice (some ⟨b, o, none⟩) x.locs.length cl), (42, .int .i64 (x.locs.length : Nat)), (43, .int .i64 (i : Nat)), (70, .slice p1 x.locs[i].lines.length c1), (71, .int .i64 (x.locs[i].lines.length : Nat)), (72, .int .i64 (j : Nat))])
        (fun _ => [y51, yB, yA, ⟨b1, 31, [la, .string x.deflt, ls, .slice pm x.mappings.length cm, .slice (some ⟨b, o, none⟩) x.locs.length cl, .slice pf x.funcs.length cf, lcm, .string x.drop, .string x.keep, .int .i64 x.time, .int .i64 x.dur, .int .i64 x.period, .string x.per.ty, .string x.per.unit], true, true, none⟩])
        (fun j _ => j ≤ x.locs[i].lines.length ∧ ∀ n ∈ x.locs[i].lines.take j, -1 ≤ n.fn ∧ n.fn < x.funcs.length)
        (fun j => x.locs[i].lines.length - j) 0 ⟨rfl, rfl, rfl, rfl, rfl, rfl, rfl, rfl, rfl, rfl, trivial⟩ (fun w hH hf => ⟨hH.2.2.2, Nat.zero_le _, by simp⟩) ?_
       rintro j w4 ⟨hj, hN⟩ hf4 hH4 KL2 hKL2
       refine C.begin _ _ hf4 hH4 ?_
       refine cj_seqF fun K28 hK28 => cj_reg (j_val rfl (fun _ _ h => r_lss rfl rfl h) (j_nil (ej_then (hK28 _ _ _ (CJ.s [(1, _), (3, _), (4, _), (5, _), (41, _), (42, _), (43, _), (70, _), (71, _), (72, _), (73, _)] ⟨rfl, rfl, rfl, rfl, rfl, rfl, rfl, rfl, rfl, rfl, rfl, trivial⟩ (cj_seqF fun K29 hK29 => ?_))))))
       refine cj_dec rfl (fun h73 => ?_) (fun h73 => ?_)
       ·have hj' : j < x.locs[i].lines.length := by omega
        obtain ⟨b', o', cs', rfl, -, hR2, hcell2⟩ := hx1 j x.locs[i].lines[j] (List.getElem?_eq_getElem hj')
        obtain ⟨rfl, hwn, -⟩ := hR2
        refine cj_skip (ej_then (hK29 _ _ _ (CJ.s [(1, _), (3, _), (4, _), (5, _), (41, _), (42, _), (43, _), (70, _), (71, _), (72, _)] ⟨rfl, rfl, rfl, rfl, rfl, rfl, rfl, rfl, rfl, rfl, trivial⟩ (cj_seqF fun K30 hK30 => cj_block (cj_seqF fun K31 hK31 => cj_reg (j_val rfl (fun _ _ h => r_idx runUnderlying74 sizeOf78 rfl rfl (by omega) h) (j_valw rfl (fun a w ha hH hf => r_loadA isAgg78 sizeOf78 rfl rfl (hcell2 w (hf.keepAll (.inr rfl))) ha) ?_)))))))
        refine j_allocA (zs := [(.int .i64 0), (.int .i64 0)]) zeroValue78 rfl fun b13 => ?_
        refine j_storeN (cs' := [_, _]) (H' := [_, _, _, _, _]) 0 rfl rfl rfl rfl sizeOf78 rfl rfl rfl rfl rfl rfl rfl ?_
        refine j_nil (ej_then (hK31 _ _ _ (CJ.s [(1, _), (3, _), (4, _), (5, _), (13, _), (41, _), (42, _), (43, _), (70, _), (71, _), (72, _)] ⟨rfl, rfl, rfl, rfl, rfl, rfl, rfl, rfl, rfl, rfl, rfl, trivial⟩ (cj_seqF fun K32 hK32 => cj_reg (j_val rfl (fun _ _ h => r_fl (q := 0) (ft := 3) runUnderlying78 rfl sizeOf3 rfl h) (j_valw rfl (fun a w ha hH hf => r_ldH 0 rfl rfl isAgg3 rfl rfl ha hH) (j_val rfl (fun _ _ h => r_lss rfl rfl h) (jM rfl rfl ?_))))))))
        refine j_split (t := 79) rfl (fun hg79 => ?_) (fun hg79 => ?_)
        ·refine j_gf rfl rfl rfl rfl (j_gf rfl rfl rfl rfl (j_gf rfl rfl rfl rfl (j_gf rfl rfl rfl rfl (j_gf rfl rfl rfl rfl (j_gf rfl rfl rfl rfl (j_val rfl (fun _ _ h => r_pick_t rfl rfl h) (j_nil (ej_then (hK32 _ _ _ (CJ.s [(1, _), (3, _), (4, _), (5, _), (41, _), (42, _), (43, _), (70, _), (71, _), (72, _), (86, _)] ⟨rfl, rfl, rfl, rfl, rfl, rfl, rfl, rfl, rfl, rfl, rfl, trivial⟩ ?_))))))))))
         refine cj_if_t rfl ?_
         refine cj_seqF fun K33 hK33 => cj_reg (jA rfl rfl (j_nil (ej_then (hK33 _ _ _ (CJ.s [(2, _)] ⟨rfl, trivial⟩ (cj_ret (ej_blk_ret (ej_then_ret (ej_then_ret (ej_blk_ret (ej_blk_ret (ej_then_ret (ej_then_ret (ej_blk_ret (ej_then_ret (?_))))))))))))))))
         first | exact ej_ret1 results18 rfl fun w' hH hf => ⟨⟨_, rfl, fun h => absurd h (by decide)⟩, hf⟩ | exact ej_ret1 results18 rfl fun w' hH hf => ⟨⟨_, rfl, fun h => by subst h; exact ⟨hb90 hg91, hb93 hg95, hb97 rfl, by rw [List.take_of_length_le (by omega)] at hL; exact hL⟩⟩, hf⟩
        ·refine j_gt rfl rfl (j_val rfl (fun _ _ h => r_fl (q := 0) (ft := 3) runUnderlying78 rfl sizeOf3 rfl h) (j_gt rfl rfl (j_valw rfl (fun a w ha hH hf => r_ldH 0 rfl rfl isAgg3 rfl rfl ha hH) (j_gt rfl rfl (j_val rfl (fun _ _ h => r_fl (q := 5) (ft := 26) runUnderlying31 rfl sizeOf26 rfl h) (j_gt rfl rfl (j_valw rfl (fun a w ha hH hf => r_ldH 4 rfl rfl isAgg26 rfl rfl ha hH) (j_gt rfl rfl (j_val rfl (fun _ _ h => r_len runUnderlying26 rfl h) (j_gt rfl rfl (j_val rfl (fun _ _ h => r_geq rfl rfl h) (j_val rfl (fun _ _ h => r_pick_f rfl rfl h) (j_nil ?_)))))))))))))
         refine ej_then (hK32 _ _ _ (CJ.s [(1, _), (3, _), (4, _), (5, _), (41, _), (42, _), (43, _), (70, _), (71, _), (72, _), (86, _)] ⟨rfl, rfl, rfl, rfl, rfl, rfl, rfl, rfl, rfl, rfl, rfl, trivial⟩ ?_))
         refine cj_if rfl (fun h86 => ?_) (fun h86 => ?_)
         ·refine cj_seqF fun K34 hK34 => cj_reg (jA rfl rfl (j_nil (ej_then (hK34 _ _ _ (CJ.s [(2, _)] ⟨rfl, trivial⟩ (cj_ret (ej_blk_ret (ej_then_ret (ej_then_ret (ej_blk_ret (ej_blk_ret (ej_then_ret (ej_then_ret (ej_blk_ret (ej_then_ret (?_))))))))))))))))
          first | exact ej_ret1 results18 rfl fun w' hH hf => ⟨⟨_, rfl, fun h => absurd h (by decide)⟩, hf⟩ | exact ej_ret1 results18 rfl fun w' hH hf => ⟨⟨_, rfl, fun h => by subst h; exact ⟨hb90 hg91, hb93 hg95, hb97 rfl, by rw [List.take_of_length_le (by omega)] at hL; exact hL⟩⟩, hf⟩
         ·refine cj_skip (ej_blk (ej_then (hK30 _ _ _ (CJ.s [(1, _), (3, _), (4, _), (5, _), (41, _), (42, _), (43, _), (70, _), (71, _), (72, _)] ⟨rfl, rfl, rfl, rfl, rfl, rfl, rfl, rfl, rfl, rfl, trivial⟩ (cj_reg (j_val rfl (fun _ _ h => r_inc (by omega) rfl rfl h) (jM rfl rfl (j_nil (ej_then ?_)))))))))
          exact fun w hH hf => hKL2 (j + 1) _ w ⟨hj', all_step hj' hN (by simp at hg79 h86; omega)⟩ hf hH.2.2.2 (by omega) ⟨rfl, rfl, rfl, rfl, rfl, rfl, rfl, rfl, rfl, rfl, trivial⟩
       ·refine cj_exit (ej_then_exit (ej_then_exit (ej_blk_hit (ej_blk (ej_then (hK19 _ _ _ (CJ.s [(1, _), (3, _), (4, _), (5, _), (41, _), (42, _), (43, _)] ⟨rfl, rfl, rfl, rfl, rfl, rfl, rfl, trivial⟩ (cj_reg (j_val rfl (fun _ _ h => r_inc (by omega) rfl rfl h) (jM rfl rfl (j_nil (ej_then ?_))))))))))))
        exact fun w hH hf => hKL (i + 1, y51, p51, c51) _ w ⟨hi', by rw [← ids_step (g := fun m => .int .u64 m.id) hi']; exact hO51, all_step hi' hL (by rw [List.take_of_length_le (by omega)] at hN; refine ⟨?_, le60_of h68, hN⟩; simp at hg55 hg63; omega)⟩ hf hH (by simp only; omega) ⟨rfl, rfl, rfl, rfl, rfl, rfl, rfl, trivial⟩
   ·have hC' : Own 59 1 yC pC i cC (x.locs.map fun m => .int .u64 m.id) := by rw [List.take_of_length_le (by omega)] at hC; exact hC
    refine cj_exit (ej_then_exit (ej_then_exit (ej_blk_hit (ej_then (hK15 _ _ _ (CJ.s [(3, _), (4, _), (5, _)] ⟨rfl, rfl, rfl, trivial⟩ (cj_seqF fun K35 hK35 => cj_reg (jM rfl rfl ?_))))))))
    refine j_callQ (φ := fun v => ∃ b, v = .bool b ∧ (b = true → _)) call42 rfl rfl (fun w hH hf => ids_c w _ (x.mappings.map (·.id)) (Own.lay (g := .int .u64) (by rw [← map_comp]; exact hA') hH (i := 2) rfl (by omega) (by
     intro n hn
     obtain ⟨q, hq, rfl⟩ := List.mem_map.1 hn
     exact ⟨rfl, hKm.each (fun c y hy => hy.2.1) q hq⟩))) ?_
    rintro _ ⟨b90, rfl, hb90⟩
    refine jM rfl rfl ?_
    refine j_split (t := 91) rfl (fun hg91 => ?_) (fun hg91 => ?_)
    ·refine j_gt rfl rfl (jM rfl rfl (j_gt rfl rfl ?_))
     refine j_callQ (φ := fun v => ∃ b, v = .bool b ∧ (b = true → _)) call42 rfl rfl (fun w hH hf => ids_c w _ (x.funcs.map (·.id)) (Own.lay (g := .int .u64) (by rw [← map_comp]; exact hB') hH (i := 1) rfl (by omega) (by
      intro n hn
      obtain ⟨q, hq, rfl⟩ := List.mem_map.1 hn
      exact ⟨rfl, hKf.each (fun c y hy => hy.2.1) q hq⟩))) ?_
     rintro _ ⟨b93, rfl, hb93⟩
     refine j_val rfl (fun _ _ h => r_pick_t rfl rfl h) (jM rfl rfl ?_)
     refine j_split (t := 95) rfl (fun hg95 => ?_) (fun hg95 => ?_)
     ·refine j_gt rfl rfl (jM rfl rfl (j_gt rfl rfl ?_))
      refine j_callQ (φ := fun v => ∃ b, v = .bool b ∧ (b = true → _)) call42 rfl rfl (fun w hH hf => ids_c w _ (x.locs.map (·.id)) (Own.lay (g := .int .u64) (by rw [← map_comp]; exact hC') hH (i := 0) rfl (by omega) (by
       intro n hn
       obtain ⟨q, hq, rfl⟩ := List.mem_map.1 hn
       exact ⟨rfl, hKl.each (fun c y hy => by obtain ⟨_, _, h, _⟩ := hy; exact h) q hq⟩))) ?_
      rintro _ ⟨b97, rfl, hb97⟩
      refine j_val rfl (fun _ _ h => r_pick_t rfl rfl h) (jA rfl rfl (j_nil (ej_then (hK35 _ _ _ (CJ.s [(2, _)] ⟨rfl, trivial⟩ (cj_ret (?_)))))))
      first | exact ej_ret1 results18 rfl fun w' hH hf => ⟨⟨_, rfl, fun h => absurd h (by decide)⟩, hf⟩ | exact ej_ret1 results18 rfl fun w' hH hf => ⟨⟨_, rfl, fun h => by subst h; exact ⟨hb90 hg91, hb93 hg95, hb97 rfl, by rw [List.take_of_length_le (by omega)] at hL; exact hL⟩⟩, hf⟩
     ·refine j_gf rfl rfl rfl rfl (j_gf rfl rfl rfl rfl (j_val rfl (fun _ _ h => r_pick_f rfl rfl h) (jA rfl rfl (j_nil (ej_then (hK35 _ _ _ (CJ.s [(2, _)] ⟨rfl, trivial⟩ (cj_ret (?_)))))))))
      first | exact ej_ret1 results18 rfl fun w' hH hf => ⟨⟨_, rfl, fun h => absurd h (by decide)⟩, hf⟩ | exact ej_ret1 results18 rfl fun w' hH hf => ⟨⟨_, rfl, fun h => by subst h; exact ⟨hb90 hg91, hb93 hg95, hb97 rfl, by rw [List.take_of_length_le (by omega)] at hL; exact hL⟩⟩, hf⟩
    ·refine j_gf rfl rfl rfl rfl (j_gf rfl rfl rfl rfl (j_val rfl (fun _ _ h => r_pick_f rfl rfl h) (jM rfl rfl (j_gf rfl rfl rfl rfl (j_gf rfl rfl rfl rfl (j_val rfl (fun _ _ h => r_pick_f rfl rfl h) (jA rfl rfl (j_nil (ej_then (hK35 _ _ _ (CJ.s [(2, _)] ⟨rfl, trivial⟩ (cj_ret (?_)))))))))))))
     first | exact ej_ret1 results18 rfl fun w' hH hf => ⟨⟨_, rfl, fun h => absurd h (by decide)⟩, hf⟩ | exact ej_ret1 results18 rfl fun w' hH hf => ⟨⟨_, rfl, fun h => by subst h; exact ⟨hb90 hg91, hb93 hg95, hb97 rfl, by rw [List.take_of_length_le (by omega)] at hL; exact hL⟩⟩, hf⟩
/-- a well formed profile -/
structure WellP (x : PProf) : Prop where
 samples : ∀ s ∈ x.samples, s.values.length = x.types.length ∧ x.types.length ≠ 0 ∧ s.stack.length ≤ 60 ∧ LabP s ∧ ∀ k ∈ s.stack, 0 ≤ k ∧ k < x.locs.length
 nsam : x.samples.length ≤ 60
 ntyp : x.types.length ≤ 60
 ncom : x.comments.length ≤ 60
 tab : TabP x
theorem eqz_of {a b : Nat} (h : decide ((a : Int) ≠ (b : Int)) = false) : a = b := by simp at h; omega
theorem nez_of {a : Nat} (h : decide ((a : Int) = 0) = false) : a ≠ 0 := by simp at h; omega
set_option maxHeartbeats 1000000 in
theorem well_c (w : World) (cs : List Value) (x : PProf) (h : RProf w cs x) (hbm : x.mappings.length ≤ 2147483647) (hbl : x.locs.length ≤ 2147483647) (hbf : x.funcs.length ≤ 2147483647) :
  Calls Tryz.prog 5 #[.agg cs.toArray] w (Ret fun v w' => (∃ b, v = .bool b ∧ (b = true → WellP x)) ∧ Fr 0 [] w w') := by
 have hP := h
 obtain ⟨la, ls, lm, ll, lf, lcm, rfl, hla, hls, hlm, hll, hlf, hlc, -⟩ := h
 obtain ⟨pt, ct, rfl, hbt, -⟩ := hla.open
 obtain ⟨ps, cs', rfl, hbs, hxs⟩ := hls.open
 obtain ⟨pl, cl, rfl, -, -⟩ := hll.open
 obtain ⟨pc, cc, rfl, hbc, -⟩ := hlc.open
 refine startJ (args := [_]) [(0, _)] 0 [] [] func5 rfl ntmps5 rfl rfl .nil ?_
 refine cj_seqF fun K1 hK1 => cj_reg ?_
 refine j_boxA (vs := [_, _, _, _, _, _, _, _, _, _, _, _, _, _]) rfl rfl fun b1 => ?_
 refine jA rfl rfl (j_nil (ej_then (hK1 _ _ _ (CJ.s [(1, _)] ⟨rfl, trivial⟩ (cj_seqF fun K2 hK2 => cj_seqF fun K3 hK3 => cj_reg (j_val rfl (fun _ _ h => r_fl (q := 2) (ft := 23) runUnderlying31 rfl sizeOf23 rfl h) (j_valw rfl (fun a w ha hH hf => r_ldH 0 rfl rfl isAgg23 rfl rfl ha hH) (j_val rfl (fun _ _ h => r_len runUnderlying23 rfl h) (jM rfl rfl (j_nil (ej_then (hK3 _ _ _ (CJ.s [(1, _), (8, _), (9, _), (10, _)] ⟨rfl, rfl, rfl, rfl, trivial⟩ ?_)))))))))))))
 refine cj_block ?_
 -- LOOP 0 live [1, 8, 9, 10]
 refine cj_loop (σ := Nat) (fun k => [(1, .pointer (some ⟨b1, 0, none⟩)), (8, .slice ps x.samples.length cs'), (9, .int .i64 (x.samples.length : Nat)), (10, .int .i64 (k : Nat))])
  (fun _ => [⟨b1, 31, [.slice pt x.types.length ct, .string x.deflt, .slice ps x.samples.length cs', lm, .slice pl x.locs.length cl, lf, .slice pc x.comments.length cc, .string x.drop, .string x.keep, .int .i64 x.time, .int .i64 x.dur, .int .i64 x.period, .string x.per.ty, .string x.per.unit], true, true, none⟩])
  (fun k _ => k ≤ x.samples.length ∧ ∀ s ∈ x.samples.take k, s.values.length = x.types.length ∧ x.types.length ≠ 0 ∧ s.stack.length ≤ 60 ∧ LabP s ∧ ∀ k ∈ s.stack, 0 ≤ k ∧ k < x.locs.length)
  (fun k => x.samples.length - k) 0 ⟨rfl, rfl, rfl, rfl, trivial⟩ (fun w hH hf => ⟨hH, Nat.zero_le _, by simp⟩) ?_
 rintro k w1 ⟨hk, hS⟩ hf1 hH1 KL hKL
 refine C.begin _ _ hf1 hH1 ?_
 refine cj_seqF fun K4 hK4 => cj_reg (j_val rfl (fun _ _ h => r_lss rfl rfl h) (j_nil (ej_then (hK4 _ _ _ (CJ.s [(1, _), (8, _), (9, _), (10, _), (11, _)] ⟨rfl, rfl, rfl, rfl, rfl, trivial⟩ (cj_seqF fun K5 hK5 => ?_))))))
 refine cj_dec rfl (fun h11 => ?_) (fun h11 => ?_)
 ·have hk' : k < x.samples.length := by omega
  obtain ⟨b, o, cs, rfl, hcs, hR, hcell⟩ := hxs k x.samples[k] (List.getElem?_eq_getElem hk')
  have hR' := hR
  obtain ⟨l1, l2, l3, l4, rfl, hl1, hl2, hl3, hl4⟩ := hR
  obtain ⟨p1, c1, rfl, hs1, hx1⟩ := hl1.open
  obtain ⟨p2, c2, rfl, hs2, -⟩ := hl2.open
  obtain ⟨p3, c3, rfl, -, -⟩ := hl3.open
  obtain ⟨p4, c4, rfl, -, -⟩ := hl4.open
  refine cj_skip (ej_then (hK5 _ _ _ (CJ.s [(1, _), (8, _), (9, _), (10, _)] ⟨rfl, rfl, rfl, rfl, trivial⟩ (cj_seqF fun K6 hK6 => cj_block (cj_seqF fun K7 hK7 => cj_reg (j_val rfl (fun _ _ h => r_idx runUnderlying23 sizeOf50 rfl rfl (by omega) h) (j_valw rfl (fun a w ha hH hf => r_loadA isAgg50 sizeOf50 rfl rfl (hcell w (hf.keepAll (.inr rfl))) ha) ?_)))))))
  refine j_allocA (zs := [(.slice none 0 0), (.slice none 0 0), (.slice none 0 0), (.slice none 0 0)]) zeroValue50 rfl fun b4 => ?_
  refine j_storeN (cs' := [_, _, _, _]) (H' := [_, _]) 0 rfl rfl rfl rfl sizeOf50 rfl rfl rfl rfl rfl rfl rfl ?_
  refine j_nil (ej_then (hK7 _ _ _ (CJ.s [(1, _), (4, _), (8, _), (9, _), (10, _)] ⟨rfl, rfl, rfl, rfl, rfl, trivial⟩ (cj_seqF fun K8 hK8 => cj_seqF fun K9 hK9 => cj_reg (j_val rfl (fun _ _ h => r_fl (q := 1) (ft := 46) runUnderlying50 rfl sizeOf46 rfl h) (j_valw rfl (fun a w ha hH hf => r_ldH 0 rfl rfl isAgg46 rfl rfl ha hH) (j_val rfl (fun _ _ h => r_len runUnderlying46 rfl h) (j_val rfl (fun _ _ h => r_fl (q := 0) (ft := 22) runUnderlying31 rfl sizeOf22 rfl h) (j_valw rfl (fun a w ha hH hf => r_ldH 1 rfl rfl isAgg22 rfl rfl ha hH) (j_val rfl (fun _ _ h => r_len runUnderlying22 rfl h) (j_val rfl (fun _ _ h => r_neq rfl rfl h) (jM rfl rfl ?_))))))))))))
  refine j_split (t := 21) rfl (fun hg21 => ?_) (fun hg21 => ?_)
  ·refine j_gf rfl rfl rfl rfl (j_gf rfl rfl rfl rfl (j_gf rfl rfl rfl rfl (j_gf rfl rfl rfl rfl (j_val rfl (fun _ _ h => r_pick_t rfl rfl h) (jM rfl rfl (j_gf rfl rfl rfl rfl (j_gf rfl rfl rfl rfl (j_gf rfl rfl rfl rfl (j_gf rfl rfl rfl rfl (j_val rfl (fun _ _ h => r_pick_t rfl rfl h) (jM rfl rfl (j_gf rfl rfl rfl rfl (j_gf rfl rfl rfl rfl ?_)))))))))))))
   refine j_gf rfl rfl rfl rfl (j_val rfl (fun _ _ h => r_pick_t rfl rfl h) (j_nil (ej_then (hK9 _ _ _ (CJ.s [(1, _), (4, _), (8, _), (9, _), (10, _), (37, _)] ⟨rfl, rfl, rfl, rfl, rfl, rfl, trivial⟩ ?_)))))
   refine cj_if_t rfl ?_
   refine cj_seqF fun K10 hK10 => cj_reg (jA rfl rfl (j_nil (ej_then (hK10 _ _ _ (CJ.s [(2, _)] ⟨rfl, trivial⟩ (cj_ret (ej_then_ret (ej_blk_ret (ej_then_ret (ej_then_ret (ej_blk_ret (ej_then_ret (?_)))))))))))))
   first | exact ej_ret1 results5 rfl fun w' hH hf => ⟨⟨_, rfl, fun h => absurd h (by decide)⟩, hf⟩ | exact ej_ret1 results5 rfl fun w' hH hf => ⟨⟨_, rfl, fun h => by subst h; simp at hg60 hg66 hg72; exact ⟨by rw [List.take_of_length_le (by omega)] at hS; exact hS, by omega, by omega, by omega, hb74 rfl⟩⟩, hf⟩
  ·refine j_gt rfl rfl (j_val rfl (fun _ _ h => r_fl (q := 0) (ft := 22) runUnderlying31 rfl sizeOf22 rfl h) (j_gt rfl rfl (j_valw rfl (fun a w ha hH hf => r_ldH 1 rfl rfl isAgg22 rfl rfl ha hH) (j_gt rfl rfl (j_val rfl (fun _ _ h => r_len runUnderlying22 rfl h) (j_gt rfl rfl (j_val rfl (fun _ _ h => r_eql rfl rfl h) (j_val rfl (fun _ _ h => r_pick_f rfl rfl h) (jM rfl rfl ?_)))))))))
   refine j_split (t := 27) rfl (fun hg27 => ?_) (fun hg27 => ?_)
   ·refine j_gf rfl rfl rfl rfl (j_gf rfl rfl rfl rfl (j_gf rfl rfl rfl rfl (j_gf rfl rfl rfl rfl (j_val rfl (fun _ _ h => r_pick_t rfl rfl h) (jM rfl rfl (j_gf rfl rfl rfl rfl (j_gf rfl rfl rfl rfl (j_gf rfl rfl rfl rfl (j_val rfl (fun _ _ h => r_pick_t rfl rfl h) (j_nil (ej_then (hK9 _ _ _ (CJ.s [(1, _), (4, _), (8, _), (9, _), (10, _), (37, _)] ⟨rfl, rfl, rfl, rfl, rfl, rfl, trivial⟩ ?_)))))))))))))
    refine cj_if_t rfl ?_
    refine cj_seqF fun K11 hK11 => cj_reg (jA rfl rfl (j_nil (ej_then (hK11 _ _ _ (CJ.s [(2, _)] ⟨rfl, trivial⟩ (cj_ret (ej_then_ret (ej_blk_ret (ej_then_ret (ej_then_ret (ej_blk_ret (ej_then_ret (?_)))))))))))))
    first | exact ej_ret1 results5 rfl fun w' hH hf => ⟨⟨_, rfl, fun h => absurd h (by decide)⟩, hf⟩ | exact ej_ret1 results5 rfl fun w' hH hf => ⟨⟨_, rfl, fun h => by subst h; simp at hg60 hg66 hg72; exact ⟨by rw [List.take_of_length_le (by omega)] at hS; exact hS, by omega, by omega, by omega, hb74 rfl⟩⟩, hf⟩
   ·refine j_gt rfl rfl (j_val rfl (fun _ _ h => r_fl (q := 0) (ft := 45) runUnderlying50 rfl sizeOf45 rfl h) (j_gt rfl rfl (j_valw rfl (fun a w ha hH hf => r_ldH 0 rfl rfl isAgg45 rfl rfl ha hH) (j_gt rfl rfl (j_val rfl (fun _ _ h => r_len runUnderlying45 rfl h) (j_gt rfl rfl (j_val rfl (fun _ _ h => r_gtr rfl rfl h) (j_val rfl (fun _ _ h => r_pick_f rfl rfl h) (jM rfl rfl ?_)))))))))
    refine j_split (t := 33) rfl (fun hg33 => ?_) (fun hg33 => ?_)
    ·refine j_gf rfl rfl rfl rfl (j_gf rfl rfl rfl rfl (j_gf rfl rfl rfl rfl (j_val rfl (fun _ _ h => r_pick_t rfl rfl h) (j_nil (ej_then (hK9 _ _ _ (CJ.s [(1, _), (4, _), (8, _), (9, _), (10, _), (37, _)] ⟨rfl, rfl, rfl, rfl, rfl, rfl, trivial⟩ ?_)))))))
     refine cj_if_t rfl ?_
     refine cj_seqF fun K12 hK12 => cj_reg (jA rfl rfl (j_nil (ej_then (hK12 _ _ _ (CJ.s [(2, _)] ⟨rfl, trivial⟩ (cj_ret (ej_then_ret (ej_blk_ret (ej_then_ret (ej_then_ret (ej_blk_ret (ej_then_ret (?_)))))))))))))
     first | exact ej_ret1 results5 rfl fun w' hH hf => ⟨⟨_, rfl, fun h => absurd h (by decide)⟩, hf⟩ | exact ej_ret1 results5 rfl fun w' hH hf => ⟨⟨_, rfl, fun h => by subst h; simp at hg60 hg66 hg72; exact ⟨by rw [List.take_of_length_le (by omega)] at hS; exact hS, by omega, by omega, by omega, hb74 rfl⟩⟩, hf⟩
    ·refine j_gt rfl rfl (j_valw rfl (fun a w ha hH hf => r_ldA (vs := [_, _, _, _]) 0 rfl rfl isAgg50 sizeOf50 rfl rfl rfl ha hH) (j_gt rfl rfl ?_))
     refine j_callQ (φ := fun v => ∃ b, v = .bool b ∧ (b = true → LabP x.samples[k])) call17 rfl rfl (fun w hH hf => labeled_c w _ _ (RSample.keep (hf.keepAll (.inr rfl)) _ _ hR')) ?_
     rintro _ ⟨b35, rfl, hb35⟩
     refine j_gt rfl rfl (j_val rfl (fun _ _ h => r_not rfl h) (j_val rfl (fun _ _ h => r_pick_f rfl rfl h) (j_nil (ej_then (hK9 _ _ _ (CJ.s [(1, _), (4, _), (8, _), (9, _), (10, _), (37, _)] ⟨rfl, rfl, rfl, rfl, rfl, rfl, trivial⟩ ?_))))))
     refine cj_if rfl (fun h37 => ?_) (fun h37 => ?_)
     ·refine cj_seqF fun K13 hK13 => cj_reg (jA rfl rfl (j_nil (ej_then (hK13 _ _ _ (CJ.s [(2, _)] ⟨rfl, trivial⟩ (cj_ret (ej_then_ret (ej_blk_ret (ej_then_ret (ej_then_ret (ej_blk_ret (ej_then_ret (?_)))))))))))))
      first | exact ej_ret1 results5 rfl fun w' hH hf => ⟨⟨_, rfl, fun h => absurd h (by decide)⟩, hf⟩ | exact ej_ret1 results5 rfl fun w' hH hf => ⟨⟨_, rfl, fun h => by subst h; simp at hg60 hg66 hg72; exact ⟨by rw [List.take_of_length_le (by omega)] at hS; exact hS, by omega, by omega, by omega, hb74 rfl⟩⟩, hf⟩
     ·refine cj_skip (ej_then (hK8 _ _ _ (CJ.s [(1, _), (4, _), (8, _), (9, _), (10, _)] ⟨rfl, rfl, rfl, rfl, rfl, trivial⟩ (cj_seqF fun K14 hK14 => cj_reg (j_val rfl (fun _ _ h => r_fl (q := 0) (ft := 45) runUnderlying50 rfl sizeOf45 rfl h) (j_valw rfl (fun a w ha hH hf => r_ldH 0 rfl rfl isAgg45 rfl rfl ha hH) (j_val rfl (fun _ _ h => r_len runUnderlying45 rfl h) (jM rfl rfl (j_nil (ej_then (hK14 _ _ _ (CJ.s [(1, _), (8, _), (9, _), (10, _), (39, _), (40, _), (41, _)] ⟨rfl, rfl, rfl, rfl, rfl, rfl, rfl, trivial⟩ (cj_block ?_)))))))))))))
      -- LOOP 1 live [1, 8, 9, 10, 39, 40, 41]
      refine cj_loop (σ := Nat) (fun j => [(1, .pointer (some ⟨b1, 0, none⟩)), (8, .slice (some ⟨b, o, none⟩) x.samples.length cs'), (9, .int .i64 (x.samples.length : Nat)), (10, .int .i64 (k : Nat)), (39, .slice p1 x.samples[k].stack.length c1), (40, .int .i64 (x.samples[k].stack.length : Nat)), (41, .int .i64 (j : Nat))])
       (fun _ => [⟨b1, 31, [.slice pt x.types.length ct, .string x.deflt, .slice (some ⟨b, o, none⟩) x.samples.length cs', lm, .slice pl x.locs.length cl, lf, .slice pc x.comments.length cc, .string x.drop, .string x.keep, .int .i64 x.time, .int .i64 x.dur, .int .i64 x.period, .string x.per.ty, .string x.per.unit], true, true, none⟩])
       (fun j _ => j ≤ x.samples[k].stack.length ∧ ∀ n ∈ x.samples[k].stack.take j, 0 ≤ n ∧ n < x.locs.length)
       (fun j => x.samples[k].stack.length - j) 0 ⟨rfl, rfl, rfl, rfl, rfl, rfl, rfl, trivial⟩ (fun w hH hf => ⟨hH.2.2.2, Nat.zero_le _, by simp⟩) ?_
      rintro j w2 ⟨hj, hN⟩ hf2 hH2 KL2 hKL2
      refine C.begin _ _ hf2 hH2 ?_
      refine cj_seqF fun K15 hK15 => cj_reg (j_val rfl (fun _ _ h => r_lss rfl rfl h) (j_nil (ej_then (hK15 _ _ _ (CJ.s [(1, _), (8, _), (9, _), (10, _), (39, _), (40, _), (41, _), (42, _)] ⟨rfl, rfl, rfl, rfl, rfl, rfl, rfl, rfl, trivial⟩ (cj_seqF fun K16 hK16 => ?_))))))
      refine cj_dec rfl (fun h42 => ?_) (fun h42 => ?_)
      ·have hj' : j < x.samples[k].stack.length := by omega
       obtain ⟨b', o', cs2, rfl, -, hR2, hcell2⟩ := hx1 j x.samples[k].stack[j] (List.getElem?_eq_getElem hj')
       obtain ⟨rfl, hwn⟩ := hR2
       refine cj_skip (ej_then (hK16 _ _ _ (CJ.s [(1, _), (8, _), (9, _), (10, _), (39, _), (40, _), (41, _)] ⟨rfl, rfl, rfl, rfl, rfl, rfl, rfl, trivial⟩ (cj_seqF fun K17 hK17 => cj_block (cj_seqF fun K18 hK18 => cj_reg (j_val rfl (fun _ _ h => r_idx runUnderlying45 sizeOf3 rfl rfl (by omega) h) (j_valw rfl (fun a w ha hH hf => r_load isAgg3 rfl (hcell2 w (hf.keepAll (.inr rfl)) 0 _ rfl) ha) (jA rfl rfl (j_nil (ej_then (hK18 _ _ _ (CJ.s [(1, _), (6, _), (8, _), (9, _), (10, _), (39, _), (40, _), (41, _)] ⟨rfl, rfl, rfl, rfl, rfl, rfl, rfl, rfl, trivial⟩ (cj_seqF fun K19 hK19 => cj_reg ?_)))))))))))))
       refine jM rfl rfl (j_val rfl (fun _ _ h => r_lss rfl rfl h) (jM rfl rfl ?_))
       refine j_split (t := 47) rfl (fun hg47 => ?_) (fun hg47 => ?_)
       ·refine j_gf rfl rfl rfl rfl (j_gf rfl rfl rfl rfl (j_gf rfl rfl rfl rfl (j_gf rfl rfl rfl rfl (j_gf rfl rfl rfl rfl (j_val rfl (fun _ _ h => r_pick_t rfl rfl h) (j_nil (ej_then (hK19 _ _ _ (CJ.s [(1, _), (8, _), (9, _), (10, _), (39, _), (40, _), (41, _), (53, _)] ⟨rfl, rfl, rfl, rfl, rfl, rfl, rfl, rfl, trivial⟩ ?_)))))))))
        refine cj_if_t rfl ?_
        refine cj_seqF fun K20 hK20 => cj_reg (jA rfl rfl (j_nil (ej_then (hK20 _ _ _ (CJ.s [(2, _)] ⟨rfl, trivial⟩ (cj_ret (ej_blk_ret (ej_then_ret (ej_then_ret (ej_blk_ret (ej_blk_ret (ej_then_ret (ej_then_ret (ej_blk_ret (ej_then_ret (?_))))))))))))))))
        first | exact ej_ret1 results5 rfl fun w' hH hf => ⟨⟨_, rfl, fun h => absurd h (by decide)⟩, hf⟩ | exact ej_ret1 results5 rfl fun w' hH hf => ⟨⟨_, rfl, fun h => by subst h; simp at hg60 hg66 hg72; exact ⟨by rw [List.take_of_length_le (by omega)] at hS; exact hS, by omega, by omega, by omega, hb74 rfl⟩⟩, hf⟩
       ·refine j_gt rfl rfl (jM rfl rfl (j_gt rfl rfl (j_val rfl (fun _ _ h => r_fl (q := 4) (ft := 25) runUnderlying31 rfl sizeOf25 rfl h) (j_gt rfl rfl (j_valw rfl (fun a w ha hH hf => r_ldH 0 rfl rfl isAgg25 rfl rfl ha hH) (j_gt rfl rfl (j_val rfl (fun _ _ h => r_len runUnderlying25 rfl h) (j_gt rfl rfl (j_val rfl (fun _ _ h => r_geq rfl rfl h) (j_val rfl (fun _ _ h => r_pick_f rfl rfl h) (j_nil (ej_then (hK19 _ _ _ (CJ.s [(1, _), (8, _), (9, _), (10, _), (39, _), (40, _), (41, _), (53, _)] ⟨rfl, rfl, rfl, rfl, rfl, rfl, rfl, rfl, trivial⟩ ?_))))))))))))))
        refine cj_if rfl (fun h53 => ?_) (fun h53 => ?_)
        ·refine cj_seqF fun K21 hK21 => cj_reg (jA rfl rfl (j_nil (ej_then (hK21 _ _ _ (CJ.s [(2, _)] ⟨rfl, trivial⟩ (cj_ret (ej_blk_ret (ej_then_ret (ej_then_ret (ej_blk_ret (ej_blk_ret (ej_then_ret (ej_then_ret (ej_blk_ret (ej_then_ret (?_))))))))))))))))
         first | exact ej_ret1 results5 rfl fun w' hH hf => ⟨⟨_, rfl, fun h => absurd h (by decide)⟩, hf⟩ | exact ej_ret1 results5 rfl fun w' hH hf => ⟨⟨_, rfl, fun h => by subst h; simp at hg60 hg66 hg72; exact ⟨by rw [List.take_of_length_le (by omega)] at hS; exact hS, by omega, by omega, by omega, hb74 rfl⟩⟩, hf⟩
        ·refine cj_skip (ej_blk (ej_then (hK17 _ _ _ (CJ.s [(1, _), (8, _), (9, _), (10, _), (39, _), (40, _), (41, _)] ⟨rfl, rfl, rfl, rfl, rfl, rfl, rfl, trivial⟩ (cj_reg (j_val rfl (fun _ _ h => r_inc (by omega) rfl rfl h) (jM rfl rfl (j_nil (ej_then ?_)))))))))
         exact fun w hH hf => hKL2 (j + 1) _ w ⟨hj', all_step hj' hN (by simp at hg47 h53; omega)⟩ hf hH (by omega) ⟨rfl, rfl, rfl, rfl, rfl, rfl, rfl, trivial⟩
      ·refine cj_exit (ej_then_exit (ej_then_exit (ej_blk_hit (ej_blk (ej_then (hK6 _ _ _ (CJ.s [(1, _), (8, _), (9, _), (10, _)] ⟨rfl, rfl, rfl, rfl, trivial⟩ (cj_reg (j_val rfl (fun _ _ h => r_inc (by omega) rfl rfl h) (jM rfl rfl (j_nil (ej_then ?_))))))))))))
       exact fun w hH hf => hKL (k + 1) _ w ⟨hk', all_step hk' hS (by rw [List.take_of_length_le (by omega)] at hN; exact ⟨eqz_of hg21, nez_of hg27, le60_of hg33, hb35 (by simpa using h37), hN⟩)⟩ hf hH (by omega) ⟨rfl, rfl, rfl, rfl, trivial⟩
 ·refine cj_exit (ej_then_exit (ej_then_exit (ej_blk_hit (ej_then (hK2 _ _ _ (CJ.s [(1, _)] ⟨rfl, trivial⟩ (cj_seqF fun K22 hK22 => cj_reg (j_val rfl (fun _ _ h => r_fl (q := 2) (ft := 23) runUnderlying31 rfl sizeOf23 rfl h) (j_valw rfl (fun a w ha hH hf => r_ldH 0 rfl rfl isAgg23 rfl rfl ha hH) (j_val rfl (fun _ _ h => r_len runUnderlying23 rfl h) (j_val rfl (fun _ _ h => r_leq rfl rfl h) (jM rfl rfl ?_))))))))))))
  refine j_split (t := 60) rfl (fun hg60 => ?_) (fun hg60 => ?_)
  ·refine j_gt rfl rfl (j_val rfl (fun _ _ h => r_fl (q := 0) (ft := 22) runUnderlying31 rfl sizeOf22 rfl h) (j_gt rfl rfl (j_valw rfl (fun a w ha hH hf => r_ldH 0 rfl rfl isAgg22 rfl rfl ha hH) (j_gt rfl rfl (j_val rfl (fun _ _ h => r_len runUnderlying22 rfl h) (j_gt rfl rfl (j_val rfl (fun _ _ h => r_leq rfl rfl h) (j_val rfl (fun _ _ h => r_pick_t rfl rfl h) (jM rfl rfl ?_)))))))))
   refine j_split (t := 66) rfl (fun hg66 => ?_) (fun hg66 => ?_)
   ·refine j_gt rfl rfl (j_val rfl (fun _ _ h => r_fl (q := 6) (ft := 27) runUnderlying31 rfl sizeOf27 rfl h) (j_gt rfl rfl (j_valw rfl (fun a w ha hH hf => r_ldH 0 rfl rfl isAgg27 rfl rfl ha hH) (j_gt rfl rfl (j_val rfl (fun _ _ h => r_len runUnderlying27 rfl h) (j_gt rfl rfl (j_val rfl (fun _ _ h => r_leq rfl rfl h) (j_val rfl (fun _ _ h => r_pick_t rfl rfl h) (jM rfl rfl ?_)))))))))
    refine j_split (t := 72) rfl (fun hg72 => ?_) (fun hg72 => ?_)
    ·refine j_gt rfl rfl (j_valw rfl (fun a w ha hH hf => r_ldA (vs := [_, _, _, _, _, _, _, _, _, _, _, _, _, _]) 0 rfl rfl isAgg31 sizeOf31 rfl rfl rfl ha hH) (j_gt rfl rfl ?_))
     refine j_callQ (φ := fun v => ∃ b, v = .bool b ∧ (b = true → TabP x)) call18 rfl rfl (fun w hH hf => tables_c w _ _ (RProf.keep (hf.keepAll (.inr rfl)) _ _ hP) hbm hbl hbf) ?_
     rintro _ ⟨b74, rfl, hb74⟩
     refine j_val rfl (fun _ _ h => r_pick_t rfl rfl h) (jA rfl rfl (j_nil (ej_then (hK22 _ _ _ (CJ.s [(2, _)] ⟨rfl, trivial⟩ (cj_ret (?_)))))))
     first | exact ej_ret1 results5 rfl fun w' hH hf => ⟨⟨_, rfl, fun h => absurd h (by decide)⟩, hf⟩ | exact ej_ret1 results5 rfl fun w' hH hf => ⟨⟨_, rfl, fun h => by subst h; simp at hg60 hg66 hg72; exact ⟨by rw [List.take_of_length_le (by omega)] at hS; exact hS, by omega, by omega, by omega, hb74 rfl⟩⟩, hf⟩
    ·refine j_gf rfl rfl rfl rfl (j_gf rfl rfl rfl rfl (j_val rfl (fun _ _ h => r_pick_f rfl rfl h) (jA rfl rfl (j_nil (ej_then (hK22 _ _ _ (CJ.s [(2, _)] ⟨rfl, trivial⟩ (cj_ret (?_)))))))))
     first | exact ej_ret1 results5 rfl fun w' hH hf => ⟨⟨_, rfl, fun h => absurd h (by decide)⟩, hf⟩ | exact ej_ret1 results5 rfl fun w' hH hf => ⟨⟨_, rfl, fun h => by subst h; simp at hg60 hg66 hg72; exact ⟨by rw [List.take_of_length_le (by omega)] at hS; exact hS, by omega, by omega, by omega, hb74 rfl⟩⟩, hf⟩
   ·refine j_gf rfl rfl rfl rfl (j_gf rfl rfl rfl rfl (j_gf rfl rfl rfl rfl (j_gf rfl rfl rfl rfl (j_val rfl (fun _ _ h => r_pick_f rfl rfl h) (jM rfl rfl (j_gf rfl rfl rfl rfl (j_gf rfl rfl rfl rfl (j_val rfl (fun _ _ h => r_pick_f rfl rfl h) (jA rfl rfl (j_nil (ej_then (hK22 _ _ _ (CJ.s [(2, _)] ⟨rfl, trivial⟩ (cj_ret (?_)))))))))))))))
    first | exact ej_ret1 results5 rfl fun w' hH hf => ⟨⟨_, rfl, fun h => absurd h (by decide)⟩, hf⟩ | exact ej_ret1 results5 rfl fun w' hH hf => ⟨⟨_, rfl, fun h => by subst h; simp at hg60 hg66 hg72; exact ⟨by rw [List.take_of_length_le (by omega)] at hS; exact hS, by omega, by omega, by omega, hb74 rfl⟩⟩, hf⟩
  ·refine j_gf rfl rfl rfl rfl (j_gf rfl rfl rfl rfl (j_gf rfl rfl rfl rfl (j_gf rfl rfl rfl rfl (j_val rfl (fun _ _ h => r_pick_f rfl rfl h) (jM rfl rfl (j_gf rfl rfl rfl rfl (j_gf rfl rfl rfl rfl (j_gf rfl rfl rfl rfl (j_gf rfl rfl rfl rfl (j_val rfl (fun _ _ h => r_pick_f rfl rfl h) (jM rfl rfl (j_gf rfl rfl rfl rfl (j_gf rfl rfl rfl rfl ?_)))))))))))))
   refine j_val rfl (fun _ _ h => r_pick_f rfl rfl h) (jA rfl rfl (j_nil (ej_then (hK22 _ _ _ (CJ.s [(2, _)] ⟨rfl, trivial⟩ (cj_ret (?_)))))))
   first | exact ej_ret1 results5 rfl fun w' hH hf => ⟨⟨_, rfl, fun h => absurd h (by decide)⟩, hf⟩ | exact ej_ret1 results5 rfl fun w' hH hf => ⟨⟨_, rfl, fun h => by subst h; simp at hg60 hg66 hg72; exact ⟨by rw [List.take_of_length_le (by omega)] at hS; exact hS, by omega, by omega, by omega, hb74 rfl⟩⟩, hf⟩
end Go.Proofs.YtifnhinopjgfaaaGreat
