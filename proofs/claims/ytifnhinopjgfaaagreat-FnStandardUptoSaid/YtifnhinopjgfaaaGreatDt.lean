/-
  The decoder's texts, types and places. Conditions: the texts and numbers asked for are there.
-/
import Derived.Test.YtifnhinopjgfaaaGreatDq
namespace Go.Fw
open Go
theorem KeepX.fr1 {w w' : World} {d T : Nat} {cs : List Value} (h : KeepX [d] w w') (h0 : Blk w d T cs) (h1 : Blk w' d T cs) : Fr 0 [] w w' := ⟨h.os, h.tape, h.output, h.size, fun b o hb _ => by
 by_cases hd : b = d
 ·subst hd
  have : o = .cells cs.toArray T (0, 0) := Option.some.inj (hb.symm.trans h0)
  rw [this]; exact h1
 ·exact h.keep b o hb (by simpa using hd)⟩
end Go.Fw
namespace Go.Proofs.YtifnhinopjgfaaaGreat
open Go Go.Fw Go.Proofs Go.Proofs.Tryz
abbrev tDec : Nat := 58
/-- the decoder in memory -/
structure Dcd (w : World) (d : Nat) (T : List ByteArray) : Prop where
 ex : ∃ tv, Blk w d tDec [tv, .bool false] ∧ OS tStr 1 w tv (T.map .string)
theorem Dcd.mono {w w' : World} {d : Nat} {T : List ByteArray} (h : Dcd w d T) (k1 : ∀ b cs, Blk w b tDec cs → Blk w' b tDec cs) (k2 : ∀ b cs, Blk w b tStr cs → Blk w' b tStr cs) : Dcd w' d T := by
 obtain ⟨tv, h1, h2⟩ := h.ex
 exact ⟨tv, k1 _ _ h1, h2.mono k2⟩
theorem Dcd.keep {w w' : World} {d : Nat} {T : List ByteArray} (h : Dcd w d T) (k : Fr 0 [] w w') : Dcd w' d T := h.mono (fun b cs hb => k.blk hb (.inr (by simp))) (fun b cs hb => k.blk hb (.inr (by simp)))
/-- cells of a row of single values -/
theorem cell1 {f : Fm} {b : Nat} {xs : List Value} {k : Nat} {v : Value} (hc : ∀ w', f.ok w' → ∀ (j : Nat) (u : Value), xs[j]? = some u → w'.cell? ⟨b, j, none⟩ = some u) (hv : xs[k]? = some v) : ∀ w', f.ok w' → ∀ (j : Nat) (u : Value), [v][j]? = some u → w'.cell? ⟨b, 0 + k * 1 + j, none⟩ = some u := fun w' hf j u hu => by
 cases j with
 | zero =>
  simp at hu; subst hu
  have := hc w' hf k v hv
  simpa using this
 | succ j => simp at hu
theorem text_c (w : World) (d n : Nat) (T : List ByteArray) (s : ByteArray) (hD : Dcd w d T) (hs : T[n]? = some s) (hl : T.length ≤ 1000000000) :
  Calls Tryz.prog 20 #[ptr d, .int .u64 (n : Nat)] w (Ret fun v w' => v = .string s ∧ Fr 0 [] w w') := by
 obtain ⟨tv, hb, ht⟩ := hD.ex
 obtain ⟨p, l, c, rfl, hlen, -, hx⟩ := ht.openF
 obtain rfl : l = T.length := by simpa using hlen.symm
 have hn := (List.getElem?_eq_some_iff.1 hs).1
 obtain ⟨b, rfl, hcs⟩ := hx (by omega)
 have hc0 := mc (f := ⟨w, 0, []⟩) hb rfl
 have hcell := cell1 (f := ⟨w, 0, []⟩) (v := .string s) (k := n) (hcs ⟨w, 0, []⟩ rfl rfl) (by rw [List.getElem?_map, hs]; rfl)
 refine startJ (args := [_, _]) [(0, _), (1, _)] 0 [] [] Tryz.func20 rfl Tryz.ntmps20 rfl rfl .nil ?_
 refine cj_seqF fun K1 hK1 => cj_reg (jA rfl rfl (j_nil (ej_then (hK1 _ _ _ (CJ.s [(0, _), (1, _)] ⟨rfl, rfl, trivial⟩ (cj_seqF fun K2 hK2 => cj_seqF fun K3 hK3 => cj_reg (jM rfl rfl (jM rfl rfl (jN rfl rfl (j_val rfl (fun _ _ h => r_fl (q := 0) (ft := 27) Tryz.runUnderlying58 rfl Tryz.sizeOf27 rfl h) (j_valw rfl (fun a w ha hH hf => r_load Tryz.isAgg27 rfl (hc0 w (hf) 0 _ rfl) ha) ?_)))))))))))
 refine j_val rfl (fun _ _ h => r_len Tryz.runUnderlying27 rfl h) (j_val rfl (fun _ _ h => r_conv Tryz.runUnderlying3 Tryz.runUnderlying59 rfl h) ?_)
 refine j_eqv (u := .int .u64 (T.length : Nat)) (congrArg (Value.int .u64) (wrapU (by omega))) ?_
 refine j_val rfl (fun _ _ h => r_geq rfl rfl h) ?_
 refine j_eqv (u := .bool false) (congrArg Value.bool (decide_eq_false (by omega))) ?_
 refine j_nil (ej_then (hK3 _ _ _ (CJ.s [(0, _), (1, _), (12, _)] ⟨rfl, rfl, rfl, trivial⟩ ?_)))
 refine cj_if_f rfl ?_
 refine cj_skip (ej_then (hK2 _ _ _ (CJ.s [(0, _), (1, _)] ⟨rfl, rfl, trivial⟩ (cj_seqF fun K4 hK4 => cj_reg (jM rfl rfl (jN rfl rfl (j_val rfl (fun _ _ h => r_fl (q := 0) (ft := 27) Tryz.runUnderlying58 rfl Tryz.sizeOf27 rfl h) (j_valw rfl (fun a w ha hH hf => r_load Tryz.isAgg27 rfl (hc0 w (hf) 0 _ rfl) ha) (jM rfl rfl (j_val rfl (fun _ _ h => r_idx Tryz.runUnderlying27 Tryz.sizeOf9 rfl rfl (by omega) h) (j_valw rfl (fun a w ha hH hf => r_load Tryz.isAgg9 rfl (hcell w (hf) 0 _ rfl) ha) (jA rfl rfl (j_nil (ej_then (hK4 _ _ _ ?_)))))))))))))))
 refine CJ.s [(4, _)] ⟨rfl, trivial⟩ (cj_ret (?_))
 exact ej_ret1 Tryz.results20 rfl fun w' hH hf => ⟨rfl, hf⟩
theorem typed_c (w : World) (d : Nat) (T : List ByteArray) (lv : Value) (gs : List Fld) (s t : ByteArray) (hD : Dcd w d T) (hF : Flds w lv gs) (h1 : T[oneN 1 gs]? = some s) (h2 : T[oneN 2 gs]? = some t) (hl : T.length ≤ 1000000000) (hg : gs.length ≤ 10000000000) :
  Calls Tryz.prog 23 #[ptr d, .agg #[lv, .bool true]] w (Ret fun v w' => v = .agg #[.string s, .string t] ∧ Fr 0 [] w w') := by
 obtain ⟨p, c, rfl, -⟩ := hF.cells
 refine startJ (args := [_, _]) [(0, ptr d), (1, .agg [.slice p gs.length c, .bool true].toArray)] 0 [] [] Tryz.func23 rfl Tryz.ntmps23 rfl rfl .nil ?_
 refine cj_seqF fun K1 hK1 => cj_reg ?_
 refine j_boxA (vs := [_, _]) rfl rfl fun b3 => ?_
 refine j_allocA (zs := [(.string ⟨#[]⟩), (.string ⟨#[]⟩)]) Tryz.zeroValue29 rfl fun b4 => ?_
 refine j_nil (ej_then (hK1 _ _ _ (CJ.s [(0, _), (3, _), (4, _)] ⟨rfl, rfl, rfl, trivial⟩ (cj_seqF fun K2 hK2 => ?_))))
 refine cj_drawI 9 [(0, true), (1, true), (4, true), (5, true), (2, false), (3, false), (6, false), (7, false), (8, true), (9, false)] [1] rfl (by kernel_rfl) (by kernel_rfl) ?_
 refine dj_val rfl rfl (sub_of [1] rfl) (fun _ _ h => r_move rfl h) (dj_ld rfl rfl (sub_of [1] rfl) (fun a w ha hS => r_ldSA (vs := [_, _]) 0 rfl rfl Tryz.isAgg54 Tryz.sizeOf54 rfl rfl rfl ha hS) (dj_val rfl rfl (sub_of [1] rfl) (fun _ _ h => r_move rfl h) (dj_ld rfl rfl (sub_of [1] rfl) (fun a w ha hS => r_ldSA (vs := [_, _]) 0 rfl rfl Tryz.isAgg54 Tryz.sizeOf54 rfl rfl rfl ha hS) (dj_eff rfl fun K2 hK2 => ?_))))
 refine j_callQ (φ := fun v => v = .int .u64 (oneN 1 gs : Nat)) Tryz.call21 rfl rfl (fun w1 hH hf => one_c w1 _ true 1 gs (hF.keep hf) hg) fun v hv => ?_
 subst hv
 refine j_nil (ej_then (hK2 _ _ (.inr (sub_of [1] rfl)) ?_)); clear hK2 K2
 refine dj_eff rfl fun K2 hK2 => ?_
 refine j_callQ (φ := fun v => v = .string s) Tryz.call20 rfl rfl (fun w1 hH hf => text_c w1 d _ T s (hD.keep hf) h1 hl) fun v hv => ?_
 subst hv
 refine j_nil (ej_then (hK2 _ _ (.inr (sub_of [1] rfl)) ?_)); clear hK2 K2
 refine dj_eff rfl fun K2 hK2 => ?_
 refine j_callQ (φ := fun v => v = .int .u64 (oneN 2 gs : Nat)) Tryz.call21 rfl rfl (fun w1 hH hf => one_c w1 _ true 2 gs (hF.keep hf) hg) fun v hv => ?_
 subst hv
 refine j_nil (ej_then (hK2 _ _ (.inr (sub_of [1] rfl)) ?_)); clear hK2 K2
 refine dj_eff rfl fun K2 hK2 => ?_
 refine j_callQ (φ := fun v => v = .string t) Tryz.call20 rfl rfl (fun w1 hH hf => text_c w1 d _ T t (hD.keep hf) h2 hl) fun v hv => ?_
 subst hv
 refine j_nil (ej_then (hK2 _ _ (.inr (sub_of [1] rfl)) ?_)); clear hK2 K2
 refine dj_val rfl rfl (sub_of [1] rfl) (fun _ _ h => r_build (cs := [_, _]) bt29 rfl rfl h) (dj_eff rfl fun K2 hK2 => ?_)
 refine j_storeN (cs' := [_, _]) (H' := [_, _]) 0 rfl rfl rfl rfl Tryz.sizeOf29 rfl rfl rfl rfl rfl rfl rfl ?_
 refine j_nil (ej_then (hK2 _ _ (.inl rfl) ?_)); clear hK2 K2
 refine dj_end (ej_then (hK2 _ _ _ (CJ.s [(4, _)] ⟨rfl, trivial⟩ (cj_ret (?_)))))
 exact ej_ret1C Tryz.results23 Tryz.isAgg29 Tryz.sizeOf29 rfl rfl (fun w' hH hf => ⟨_, hH.get (i := 0) rfl rfl⟩) fun w' hH hf => ⟨rfl, hf⟩
theorem place_c (w : World) (lv : Value) (ids : List Nat) (k id : Nat) (hv : OS tU64 1 w lv (ids.map uv)) (hk : ids[k]? = some id) (hne : ∀ j < k, ids[j]? ≠ some id) (hl : ids.length ≤ 1000000000) :
  Calls Tryz.prog 45 #[lv, .int .u64 (id : Nat)] w (Ret fun v w' => v = .int .i64 (k : Nat) ∧ Fr 0 [] w w') := by
 obtain ⟨p, l, c, rfl, hlen, -, hx⟩ := hv.openF
 obtain rfl : l = ids.length := by simpa using hlen.symm
 have hkl := (List.getElem?_eq_some_iff.1 hk).1
 obtain ⟨b, rfl, hcs⟩ := hx (by omega)
 refine startJ (args := [_, _]) [(0, _), (1, _)] 0 [] [] Tryz.func45 rfl Tryz.ntmps45 rfl rfl .nil ?_
 refine cj_seqF fun K1 hK1 => cj_reg (jA rfl rfl (j_nil (ej_then (hK1 _ _ _ (CJ.s [(0, _), (1, _)] ⟨rfl, rfl, trivial⟩ (cj_seqF fun K2 hK2 => cj_seqF fun K3 hK3 => cj_reg (jM rfl rfl (j_val rfl (fun _ _ h => r_len Tryz.runUnderlying67 rfl h) (jM rfl rfl (j_nil (ej_then (hK3 _ _ _ ?_))))))))))))
 refine CJ.s [(0, _), (1, _), (7, _), (8, _)] ⟨rfl, rfl, rfl, rfl, trivial⟩ (cj_block ?_)
 -- LOOP 0 live [0, 1, 7, 8]
 refine cj_loop (σ := Nat) (fun i => [(0, .slice (some ⟨b, 0, none⟩) ids.length c), (1, .int .u64 (id : Nat)), (7, .int .i64 (ids.length : Nat)), (8, .int .i64 (i : Nat))]) (fun _ => []) (fun i _ => i ≤ k) (fun i => k - i) 0 ⟨rfl, rfl, rfl, rfl, trivial⟩ (fun w hH hf => ⟨.nil, Nat.zero_le _⟩) ?_
 rintro i w1 hi hf1 hH1 KL hKL
 have hi : i ≤ k := hi
 refine C.begin _ [] hf1 .nil ?_
 refine CJ.s [(0, .slice (some ⟨b, 0, none⟩) ids.length c), (1, .int .u64 (id : Nat)), (7, .int .i64 (ids.length : Nat)), (8, .int .i64 (i : Nat))] ⟨rfl, rfl, rfl, rfl, trivial⟩ (cj_seqF fun K4 hK4 => cj_reg (j_val rfl (fun _ _ h => r_lss rfl rfl h) ?_))
 refine j_eqv (u := .bool true) (congrArg Value.bool (decide_eq_true (by omega))) ?_
 refine j_nil (ej_then (hK4 _ _ _ (CJ.s [(0, _), (1, _), (7, _), (8, _), (9, _)] ⟨rfl, rfl, rfl, rfl, rfl, trivial⟩ (cj_seqF fun K5 hK5 => ?_))))
 refine cj_if_t rfl ?_
 have hi' : i < ids.length := by omega
 have hcell := cell1 (f := ⟨w, 0, []⟩) (v := uv ids[i]) (k := i) (hcs ⟨w, 0, []⟩ rfl rfl) (by rw [List.getElem?_map, List.getElem?_eq_getElem hi']; rfl)
 refine cj_skip (ej_then (hK5 _ _ _ (CJ.s [(0, _), (1, _), (7, _), (8, _)] ⟨rfl, rfl, rfl, rfl, trivial⟩ (cj_seqF fun K6 hK6 => cj_block (cj_seqF fun K7 hK7 => cj_reg (jM rfl rfl (jA rfl rfl (j_nil (ej_then (hK7 _ _ _ (CJ.s [(0, _), (1, _), (5, _), (7, _), (8, _)] ⟨rfl, rfl, rfl, rfl, rfl, trivial⟩ (cj_seqF fun K8 hK8 => cj_reg (jM rfl rfl ?_)))))))))))))
 refine jM rfl rfl (jM rfl rfl (j_val rfl (fun _ _ h => r_idx Tryz.runUnderlying67 Tryz.sizeOf59 rfl rfl (by omega) h) (j_valw rfl (fun a w ha hH hf => r_load Tryz.isAgg59 rfl (hcell w (hf) 0 _ rfl) ha) (j_val rfl (fun _ _ h => r_eql rfl rfl h) (j_nil (ej_then (hK8 _ _ _ (CJ.s [(0, _), (1, _), (5, _), (7, _), (8, _), (16, _)] ⟨rfl, rfl, rfl, rfl, rfl, rfl, trivial⟩ ?_))))))))
 refine cj_dec rfl (fun heq => ?_) (fun heq => ?_)
 ·have hik : i = k := by
   rcases Nat.lt_or_ge i k with h | h
   ·exact absurd (by rw [List.getElem?_eq_getElem hi']; congr 1; omega) (hne i h)
   ·omega
  refine cj_seqF fun K9 hK9 => cj_reg (jM rfl rfl (jA rfl rfl (j_nil (ej_then (hK9 _ _ _ (CJ.s [(4, _)] ⟨rfl, trivial⟩ (cj_ret (ej_blk_ret (ej_then_ret (ej_then_ret (ej_blk_ret (ej_then_ret (?_)))))))))))))
  exact ej_ret1 Tryz.results45 rfl fun w' hH hf => ⟨by rw [hik], hf⟩
 ·have hik : i < k := by
   rcases Nat.lt_or_ge i k with h | h
   ·exact h
   ·obtain rfl : i = k := by omega
    rw [List.getElem?_eq_getElem hi'] at hk
    have := Option.some.inj hk
    omega
  refine cj_skip (ej_blk (ej_then (hK6 _ _ _ (CJ.s [(0, _), (1, _), (7, _), (8, _)] ⟨rfl, rfl, rfl, rfl, trivial⟩ (cj_reg (j_val rfl (fun _ _ h => r_inc (by omega) rfl rfl h) (jM rfl rfl (j_nil (ej_then ?_)))))))))
  exact fun w' hH hf => hKL (i + 1) _ w' (by omega) hf .nil (by omega) ⟨rfl, rfl, rfl, rfl, trivial⟩
theorem placed_c (w : World) (d : Nat) (T : List ByteArray) (lv : Value) (ids : List Nat) (id : Nat) (r : Int) (hD : Dcd w d T) (hv : OS tU64 1 w lv (ids.map uv)) (hl : ids.length ≤ 1000000000) (hr : (id = 0 ∧ r = -1) ∨ (id ≠ 0 ∧ ∃ k : Nat, r = k ∧ ids[k]? = some id ∧ ∀ j < k, ids[j]? ≠ some id)) :
  Calls Tryz.prog 25 #[ptr d, lv, .int .u64 (id : Nat)] w (Ret fun v w' => v = .int .i64 r ∧ Fr 0 [] w w') := by
 obtain ⟨tv, hb, ht⟩ := hD.ex
 obtain ⟨p, l, c, rfl, hlen⟩ := hv.scal
 obtain ⟨p', l', c', rfl, -⟩ := ht.scal
 refine startJ (args := [_, _, _]) [(0, _), (1, _), (2, _)] 0 [tDec] _ Tryz.func25 rfl Tryz.ntmps25 rfl rfl (Hp.one hb (Nat.zero_le _) rfl) ?_
 refine cj_seqF fun K1 hK1 => cj_reg (jA rfl rfl (j_nil (ej_then (hK1 _ _ _ (CJ.s [(0, _), (1, _), (2, _)] ⟨rfl, rfl, rfl, trivial⟩ (cj_seqF fun K2 hK2 => cj_seqF fun K3 hK3 => cj_reg (jM rfl rfl (j_val rfl (fun _ _ h => r_eql rfl rfl h) (j_nil (ej_then (hK3 _ _ _ (CJ.s [(0, _), (1, _), (2, _), (9, _)] ⟨rfl, rfl, rfl, rfl, trivial⟩ ?_))))))))))))
 refine cj_dec rfl (fun h9 => ?_) (fun h9 => ?_)
 ·have hr1 : r = -1 := by
   rcases hr with h | h
   ·exact h.2
   ·exact absurd (by omega) h.1
  refine cj_seqF fun K4 hK4 => cj_reg (jA rfl rfl (j_nil (ej_then (hK4 _ _ _ (CJ.s [(6, _)] ⟨rfl, trivial⟩ (cj_ret (ej_then_ret (?_))))))))
  first
  | exact ej_ret1 Tryz.results25 rfl fun w' hH hf => ⟨by rw [hr1], (Hp.keepX (f := ⟨w, 0, [tDec]⟩) (hH.drop 0) hf).fr1 hb (hH.get (i := 0) rfl rfl)⟩
  | exact ej_ret1 Tryz.results25 rfl fun w' hH hf => ⟨rfl, (Hp.keepX (f := ⟨w, 0, [tDec]⟩) (hH.drop 0) hf).fr1 hb (hH.get (i := 0) rfl rfl)⟩
 ·obtain ⟨k, rfl, hk1, hk2⟩ : ∃ k : Nat, r = k ∧ ids[k]? = some id ∧ ∀ j < k, ids[j]? ≠ some id := by
   rcases hr with h | h
   ·exact absurd (by rw [h.1]; rfl) h9
   ·exact h.2
  refine cj_skip (ej_then (hK2 _ _ _ (CJ.s [(0, _), (1, _), (2, _)] ⟨rfl, rfl, rfl, trivial⟩ (cj_seqF fun K5 hK5 => cj_reg (jM rfl rfl (jM rfl rfl ?_))))))
  refine j_callQ (φ := fun v => v = .int .i64 (k : Nat)) Tryz.call45 rfl rfl (fun w1 hH hf => place_c w1 _ ids k id (hv.mono (fr_row hf rfl)) hk1 hk2 hl) fun v hv => ?_
  subst hv
  refine jA rfl rfl (j_nil (ej_then (hK5 _ _ _ (CJ.s [(0, _), (7, _)] ⟨rfl, rfl, trivial⟩ (cj_seqF fun K6 hK6 => cj_reg (jM rfl rfl (jM rfl rfl (jN rfl rfl (j_val rfl (fun _ _ h => r_fl (q := 1) (ft := 4) Tryz.runUnderlying58 rfl Tryz.sizeOf4 rfl h) (j_valw rfl (fun a w ha hH hf => r_ldH 0 rfl rfl Tryz.isAgg4 rfl rfl ha hH) (jM rfl rfl (j_gt rfl rfl (jM rfl rfl ?_)))))))))))))
  refine j_gt rfl rfl (j_val rfl (fun _ _ h => r_lss rfl rfl h) ?_)
  refine j_eqv (u := .bool false) (congrArg Value.bool (decide_eq_false (by omega))) ?_
  refine j_val rfl (fun _ _ h => r_pick_f rfl rfl h) (jN rfl rfl (j_val rfl (fun _ _ h => r_fl (q := 1) (ft := 4) Tryz.runUnderlying58 rfl Tryz.sizeOf4 rfl h) ?_))
  refine j_storeN (cs' := [_, _]) (H' := (_ :: _)) 0 rfl rfl rfl rfl Tryz.sizeOf4 rfl rfl rfl rfl rfl rfl rfl ?_
  refine j_nil (ej_then (hK6 _ _ _ (CJ.s [(7, _)] ⟨rfl, trivial⟩ (cj_seqF fun K7 hK7 => cj_reg (jM rfl rfl (jA rfl rfl (j_nil (ej_then (hK7 _ _ _ (CJ.s [(6, _)] ⟨rfl, trivial⟩ (cj_ret (?_))))))))))))
  first
  | exact ej_ret1 Tryz.results25 rfl fun w' hH hf => ⟨by rw [hr1], (Hp.keepX (f := ⟨w, 0, [tDec]⟩) (hH.drop 0) hf).fr1 hb (hH.get (i := 0) rfl rfl)⟩
  | exact ej_ret1 Tryz.results25 rfl fun w' hH hf => ⟨rfl, (Hp.keepX (f := ⟨w, 0, [tDec]⟩) (hH.drop 0) hf).fr1 hb (hH.get (i := 0) rfl rfl)⟩
end Go.Proofs.YtifnhinopjgfaaaGreat
