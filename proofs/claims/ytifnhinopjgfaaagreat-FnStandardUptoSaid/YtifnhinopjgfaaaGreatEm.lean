/-
  The encoder of the wire format: messages, lists of texts, packed numbers. Conditions: the buffer's bytes are few enough for any machine.
-/
import Derived.Test.YtifnhinopjgfaaaGreatEn
namespace Go.Fw
open Go
theorem bvs_scal {l : List Nat} : (l.map bv).all scal = true := by simp [List.all_eq_true, scal]
theorem lenB_pos' (a b : Nat) : 0 < (vint a ++ vint b).length := by have := vint_pos a; simp; omega
theorem setL_cons : ∀ (vs : List Value) (a : Value) (cs : List Value) (o : Nat), setL (a :: cs) (o + 1) vs = a :: setL cs o vs
 | [], _, _, _ => rfl
 | v :: vs, a, cs, o => by simp only [setL, List.set_cons_succ]; exact setL_cons vs a _ (o + 1)
theorem natMin {a b : Nat} (h : a ≤ b) : Nat.min a b = a := Nat.min_eq_left h
theorem fc_any {m c b T o : Nat} {cs ys : List Value} {w : World} {P : Program} (hb : Blk w b T cs) (h : (cs.drop o).take m = ys) (hl : ys.length = m) : (Builtin.firstCells 1 m (.slice (some ⟨b, o, none⟩) m c)).run P w = .ok ys.toArray w := fc_blk hb (by rw [Nat.mul_one]; exact h) (by omega)
theorem part_last (D M L : List Nat) (ex : List Value) {n m : Nat} (hn : n = D.length + M.length) (hm : m = L.length) : (((D ++ M ++ L).map bv ++ ex).drop n).take m = L.map bv := by
 subst hn; subst hm
 rw [List.map_append, List.append_assoc, List.drop_append_of_le_length (by simp), List.drop_of_length_le (by simp), List.nil_append, List.take_append_of_le_length (by simp), List.take_of_length_le (by simp)]
theorem part_mid (D M L : List Nat) (ex : List Value) {n m : Nat} (hn : n = D.length) (hm : m = M.length) : (((D ++ M ++ L).map bv ++ ex).drop n).take m = M.map bv := by
 subst hn; subst hm
 rw [List.append_assoc, List.map_append, List.append_assoc, List.drop_append_of_le_length (by simp), List.drop_of_length_le (by simp), List.nil_append, List.map_append, List.append_assoc, List.take_append_of_le_length (by simp), List.take_of_length_le (by simp)]
/-- the three copies that put a length in front of what it is of -/
theorem rot_cells (D M L : List Nat) (ex : List Value) (c : Nat) (hL : 0 < L.length) (hc : c = (D ++ M ++ L).length + ex.length) :
  setL (setL ((D ++ M ++ L).map bv ++ ex) (cut 0 c (D.length + L.length) 1) (M.map bv)) (cut 0 c D.length 1) (L.map bv) = (D ++ L ++ M).map bv ++ ex := by
 simp only [List.length_append] at hc
 have h2 : cut 0 c D.length 1 = D.length := by rw [cut, if_neg (by omega)]; omega
 rw [h2]
 by_cases hM : M = []
 ·subst hM
  simp only [List.map_nil, setL, List.append_nil, List.map_append]
  have := setL_mid (L.map bv) (D.map bv) (L.map bv) ex rfl
  simpa using this
 ·have hMp : 0 < M.length := List.length_pos_iff.2 hM
  have h1 : cut 0 c (D.length + L.length) 1 = D.length + L.length := by rw [cut, if_neg (by omega)]; omega
  rw [h1]
  obtain ⟨W, Z, hW, hWl⟩ : ∃ W Z, M ++ L = W ++ Z ∧ W.length = L.length := ⟨(M ++ L).take L.length, (M ++ L).drop L.length, by simp, by simp⟩
  have hZ : Z.length = M.length := by have := congrArg List.length hW; simp at this; omega
  have e1 : (D ++ M ++ L).map bv ++ ex = (D ++ W).map bv ++ Z.map bv ++ ex := by rw [List.append_assoc, hW]; simp
  rw [e1]
  have e2 := setL_mid (M.map bv) ((D ++ W).map bv) (Z.map bv) ex (by simp [hZ])
  rw [show ((D ++ W).map bv).length = D.length + L.length by simp [hWl]] at e2
  rw [e2]
  have e3 := setL_mid (L.map bv) (D.map bv) (W.map bv) (M.map bv ++ ex) (by simp [hWl])
  rw [show (D.map bv).length = D.length by simp] at e3
  simpa using e3
end Go.Fw
namespace Go.Proofs.YtifnhinopjgfaaaGreat
open Go Go.Fw Go.Proofs Go.Proofs.Tryz
theorem lenB_short {len tag : Nat} (h1 : tag < 1048576) (h2 : len ≤ 100000000000) : (lenB len tag).length ≤ 11 := by
 unfold lenB
 have := vint_len_aux 4 (8 * tag + 2) (by omega)
 have := vint_len_aux 5 len (by omega)
 simp; omega
theorem lenB_pos (a b : Nat) : 0 < (lenB a b).length := lenB_pos' _ _
theorem copyTmp {f t u : Int} {dv : Value} {tmp T1 T2 : List Value} {L : List Nat} (h : tmp = T1 ++ T2) (hl : T1.length = L.length) : setL (cBuf f t u dv tmp) 4 (L.map bv) = cBuf f t u dv (L.map bv ++ T2) := by
 subst h
 unfold cBuf
 rw [setL_cons, setL_cons, setL_cons, setL_cons]
 have := setL_mid (L.map bv) [] T1 T2 (by simp [hl])
 simp at this
 rw [this]
abbrev encN : String := "loop.example/pub-profileroads/pub/goprofile.encode"
set_option maxHeartbeats 1000000 in
theorem message_c (B : Nat) (w : World) (bb : Nat) (D : List Nat) (tag : Nat) (T : Nat) (v0 : Value) (g : FuncId) (rv : Value) (M : List Nat) (ht : tag < 1048576) (h : Bf B w bb D) (hl : D.length + M.length + 60 ≤ 100000000000)
  (hg : ∀ w, (callMethod (.iface T v0) encN #[ptr bb]).run Tryz.prog w = .ok (.enter g #[rv, ptr bb]) w)
  (hm : ∀ w1, Fr 0 [] w w1 → Bf B w1 bb D → Calls Tryz.prog g #[rv, ptr bb] w1 (Ret fun _ w' => Bf B w' bb (D ++ M) ∧ Fr B wE w1 w')) :
  Calls Tryz.prog 117 #[ptr bb, .int .i64 (tag : Nat), .iface T v0] w (Ret fun _ w' => Bf B w' bb (D ++ encF (.bys tag M)) ∧ Fr B wE w w') := by
 have hLl : (lenB M.length tag).length ≤ 11 := lenB_short ht (by omega)
 obtain ⟨f, t, u, p, c, tmp0, y, h1, h2, h3, h4, h5⟩ := id h.ex
 have hcb := mc (f := ⟨w, 0, []⟩) h1 rfl
 refine startJ (args := [_, _, _]) [(0, _), (1, _), (2, _)] 0 [] [] func117 rfl ntmps117 rfl rfl .nil ?_
 refine cj_seqF fun K1 hK1 => cj_reg (jM rfl rfl (jN rfl rfl (j_val rfl (fun _ _ h => r_fl (q := 3) (ft := 35) runUnderlying169 rfl sizeOf35 rfl h) (j_valw rfl (fun a w ha hH hf => r_load isAgg35 rfl (hcb w (hf) 3 _ rfl) ha) (j_val rfl (fun _ _ h => r_len runUnderlying35 rfl h) (jA rfl rfl (j_nil (ej_then (hK1 _ _ _ (CJ.s [(0, _), (1, _), (2, _), (6, _)] ⟨rfl, rfl, rfl, rfl, trivial⟩ (cj_seqF fun K2 hK2 => cj_reg (jM rfl rfl ?_))))))))))))
 refine jM rfl rfl ?_
 refine j_callI (as' := [rv, ptr bb]) (R := fun w1 _ w2 => Bf B w2 bb (D ++ M) ∧ Fr B wE w1 w2) hg rfl rfl rfl (fun w1 hH hf => hm w1 hf (h.fr hf)) fun w1 v w2 hH1 hf1 hR => ?_
 have hB2 : Bf B w2 bb (D ++ M) := hR.1
 have hF2 : Fr B wE w w2 := frE (hf1.quiet _ _) hR.2
 obtain ⟨f2, t2, u2, p2, c2, tmp2, y2, k1, -⟩ := id hB2.ex
 have hcb := mc (f := ⟨w2, 0, []⟩) k1 rfl
 refine J.begin ⟨w2, 0, []⟩ [] ok_refl .nil ?_
 refine j_nil (ej_then (hK2 _ _ _ (CJ.s [(0, _), (1, _), (6, _)] ⟨rfl, rfl, rfl, trivial⟩ (cj_seqF fun K3 hK3 => cj_reg (jM rfl rfl (jN rfl rfl (j_val rfl (fun _ _ h => r_fl (q := 3) (ft := 35) runUnderlying169 rfl sizeOf35 rfl h) (j_valw rfl (fun a w ha hH hf => r_load isAgg35 rfl (hcb w (hf) 3 _ rfl) ha) (j_val rfl (fun _ _ h => r_len runUnderlying35 rfl h) (jA rfl rfl (j_nil (ej_then (hK3 _ _ _ (CJ.s [(0, _), (1, _), (6, _), (7, _)] ⟨rfl, rfl, rfl, rfl, trivial⟩ ?_))))))))))))))
 refine cj_seqF fun K4 hK4 => cj_reg (jM rfl rfl (jM rfl rfl (jM rfl rfl (jM rfl rfl (j_val rfl (fun _ _ h => r_sub rfl rfl h) ?_)))))
 refine j_eqv (u := .int .i64 (M.length : Nat)) (by rw [wrap64_small (by simp; omega) (by simp; omega)]; congr 1; simp; omega) ?_
 refine j_callB (D' := D ++ M ++ lenB M.length tag) hF2 hB2 call120 rfl rfl (fun w1 hf hB => length_c B w1 bb _ _ _ ht (by omega) hB (by simp; omega)) fun v w3 hB3 hF3 => ?_
 obtain ⟨f3, t3, u3, p3, c3, tmp3, y3, k2, -⟩ := id hB3.ex
 have hcb := mc (f := ⟨w3, 0, []⟩) k2 rfl
 refine j_nil (ej_then (hK4 _ _ _ (CJ.s [(0, _), (6, _), (7, _)] ⟨rfl, rfl, rfl, trivial⟩ (cj_seqF fun K5 hK5 => cj_reg (jM rfl rfl (jN rfl rfl (j_val rfl (fun _ _ h => r_fl (q := 3) (ft := 35) runUnderlying169 rfl sizeOf35 rfl h) (j_valw rfl (fun a w ha hH hf => r_load isAgg35 rfl (hcb w (hf) 3 _ rfl) ha) (j_val rfl (fun _ _ h => r_len runUnderlying35 rfl h) (jA rfl rfl (j_nil (ej_then (hK5 _ _ _ (CJ.s [(0, _), (6, _), (7, _), (8, _)] ⟨rfl, rfl, rfl, rfl, trivial⟩ ?_))))))))))))))
 refine cj_seqF fun K6 hK6 => ?_
 intro w9 hH9 hf9
 obtain ⟨ff, tt, uu, pp, cc, tmp, yy, g1, g2, g3, g4, g5⟩ := hB3.ex
 have hLp : 0 < (lenB M.length tag).length := lenB_pos _ _
 have hln : (D ++ M ++ lenB M.length tag).length = D.length + M.length + (lenB M.length tag).length := by simp; omega
 have hmn : (D ++ M).length = D.length + M.length := by simp
 have hcap : (D ++ M ++ lenB M.length tag).length ≤ cc := g4.sl.2.1
 obtain ⟨hon, rfl⟩ := g4.pos (by omega)
 obtain ⟨ex, hex, hexl⟩ : ∃ ex, yy.cs = (D ++ M ++ lenB M.length tag).map bv ++ ex ∧ yy.cs.length = cc * 1 := by
  rcases g4.sl.2.2 with ⟨-, -, ⟨ex, q⟩, q2⟩ | ⟨q, -⟩
  ·exact ⟨ex, q, q2⟩
  ·rw [hon] at q; cases q
 obtain ⟨T1, T2, hT, hTl⟩ : ∃ T1 T2, tmp = T1 ++ T2 ∧ T1.length = (lenB M.length tag).length := ⟨tmp.take (lenB M.length tag).length, tmp.drop (lenB M.length tag).length, by simp, by simp; omega⟩
 refine C.begin ⟨w9, B, wE⟩ _ ok_refl (hpBf hB3.ge (hf9.blk g1 (.inr (by simp))) g4 fun ho => ⟨(g5 ho).1, hf9.blk (g5 ho).2 (.inr (by simp))⟩) ?_
 refine cj_drawI 11 [(0, true), (1, true), (2, true), (3, true), (4, true), (5, true), (6, true), (7, true), (8, true), (9, true), (10, true), (11, false)] [0, 1] rfl (by kernel_rfl) (by kernel_rfl) ?_
 refine dj_val rfl rfl (sub_of [0, 1] rfl) (fun _ _ h => r_move rfl h) (dj_val rfl rfl (sub_of [0, 1] rfl) (fun _ _ h => r_nil rfl h) (dj_val rfl rfl (sub_of [0, 1] rfl) (fun _ _ h => r_fl (q := 4) (ft := 167) runUnderlying169 rfl sizeOf167 rfl h) (dj_val rfl rfl (sub_of [0, 1] rfl) (fun _ _ h => r_sarr runUnderlying167 sizeOf5 rfl h) (dj_val rfl rfl (sub_of [0, 1] rfl) (fun _ _ h => r_move rfl h) (dj_val rfl rfl (sub_of [0, 1] rfl) (fun _ _ h => r_nil rfl h) (dj_val rfl rfl (sub_of [0, 1] rfl) (fun _ _ h => r_fl (q := 3) (ft := 35) runUnderlying169 rfl sizeOf35 rfl h) (dj_ld rfl rfl (sub_of [0, 1] rfl) (fun a w ha hS => r_ldS 0 rfl rfl isAgg35 rfl rfl ha hS) (dj_val rfl rfl (sub_of [0, 1] rfl) (fun _ _ h => r_move rfl h) (dj_val rfl rfl (sub_of [0, 1] rfl) (fun _ _ h => r_move rfl h) (dj_val rfl rfl (sub_of [0, 1] rfl) (fun _ _ h => r_slmid (i := (D ++ M).length) (j := (D ++ M ++ lenB M.length tag).length) runUnderlying35 sizeOf5 rfl rfl rfl (by omega) hcap h) (dj_eff rfl fun K2 hK2 => ?_)))))))))))
 refine j_copy (m := (D ++ M ++ lenB M.length tag).length - (D ++ M).length) (news := (lenB M.length tag).map bv) 0 rfl rfl rfl rfl runUnderlying35 sizeOf5 rfl rfl (fun w => lenOf_slice _ _ _ _) (fun w hH hf => ?_) bvs_scal (by simp [cBuf]; omega) rfl ?_
 ·have hb := hH.get (i := 1) rfl hon
  rw [natMin (by omega)]
  rw [cut, if_neg (by omega)]
  exact fc_any hb (by rw [hex]; exact part_last D M (lenB M.length tag) ex (by omega) (by omega)) (by simp; omega)
 refine j_nil (ej_then (hK2 _ _ (.inl rfl) ?_)); clear hK2 K2
 refine dj_end (ej_then (hK6 _ _ _ (CJ.s [(0, _), (6, _), (7, _), (8, _)] ⟨rfl, rfl, rfl, rfl, trivial⟩ (cj_seqF fun K7 hK7 => ?_))))
 refine CJ.heap [⟨bb, tBuf, cBuf ff tt uu (.slice (some ⟨yy.b, 0, none⟩) (D ++ M ++ lenB M.length tag).length cc) ((lenB M.length tag).map bv ++ T2), true, true, none⟩, yy] (fun w hH hf => by rw [← copyTmp hT hTl]; exact hH) ?_
 refine cj_drawI 17 [(0, true), (1, true), (2, true), (3, true), (4, true), (5, true), (6, true), (7, true), (8, true), (9, true), (10, true), (11, true), (12, true), (13, true), (14, true), (15, true), (16, true), (17, false)] [0, 1] rfl (by kernel_rfl) (by kernel_rfl) ?_
 refine dj_val rfl rfl (sub_of [0, 1] rfl) (fun _ _ h => r_move rfl h) (dj_val rfl rfl (sub_of [0, 1] rfl) (fun _ _ h => r_nil rfl h) (dj_val rfl rfl (sub_of [0, 1] rfl) (fun _ _ h => r_fl (q := 3) (ft := 35) runUnderlying169 rfl sizeOf35 rfl h) (dj_ld rfl rfl (sub_of [0, 1] rfl) (fun a w ha hS => r_ldS 0 rfl rfl isAgg35 rfl rfl ha hS) (dj_val rfl rfl (sub_of [0, 1] rfl) (fun _ _ h => r_move rfl h) (dj_val rfl rfl (sub_of [0, 1] rfl) (fun _ _ h => r_move rfl h) (dj_val rfl rfl (sub_of [0, 1] rfl) (fun _ _ h => r_move rfl h) (dj_val rfl rfl (sub_of [0, 1] rfl) (fun _ _ h => r_sub rfl rfl h) ?_)))))))
 refine dj_eqv (u := .int .i64 (((lenB M.length tag).length : Nat) : Int)) (by rw [hln, wrap64_small (by omega) (by omega)]; congr 1; omega) ?_
 refine dj_val rfl rfl (sub_of [0, 1] rfl) (fun _ _ h => r_add rfl rfl h) ?_
 refine dj_eqv (u := .int .i64 ((D.length + (lenB M.length tag).length : Nat) : Int)) (by rw [wrap64_small (by omega) (by omega)]; congr 1) ?_
 refine dj_val rfl rfl (sub_of [0, 1] rfl) (fun _ _ h => r_slcut (i := D.length + (lenB M.length tag).length) runUnderlying35 sizeOf5 rfl rfl (by omega) h) (dj_val rfl rfl (sub_of [0, 1] rfl) (fun _ _ h => r_move rfl h) (dj_val rfl rfl (sub_of [0, 1] rfl) (fun _ _ h => r_nil rfl h) (dj_val rfl rfl (sub_of [0, 1] rfl) (fun _ _ h => r_fl (q := 3) (ft := 35) runUnderlying169 rfl sizeOf35 rfl h) (dj_ld rfl rfl (sub_of [0, 1] rfl) (fun a w ha hS => r_ldS 0 rfl rfl isAgg35 rfl rfl ha hS) (dj_val rfl rfl (sub_of [0, 1] rfl) (fun _ _ h => r_move rfl h) (dj_val rfl rfl (sub_of [0, 1] rfl) (fun _ _ h => r_move rfl h) (dj_val rfl rfl (sub_of [0, 1] rfl) (fun _ _ h => r_slmid (i := D.length) (j := (D ++ M).length) runUnderlying35 sizeOf5 rfl rfl rfl (by omega) (by omega) h) (dj_eff rfl fun K2 hK2 => ?_))))))))
 refine j_copy (m := (D ++ M).length - D.length) (news := M.map bv) 1 rfl hon g4.ho g4.hw runUnderlying35 sizeOf5 rfl rfl (fun w => lenOf_slice _ _ _ _) (fun w hH hf => ?_) bvs_scal ?_ rfl ?_
 ·have hb := hH.get (i := 1) rfl hon
  rw [natMin (by omega)]
  rw [cut, if_neg (by omega)]
  exact fc_any hb (by rw [hex]; exact part_mid D M (lenB M.length tag) ex (by omega) (by omega)) (by simp)
 ·unfold cut
  split
  ·simp; omega
  ·simp; omega
 refine j_nil (ej_then (hK2 _ _ (.inl rfl) ?_)); clear hK2 K2
 refine dj_end (ej_then (hK7 _ _ _ (CJ.s [(0, _), (6, _), (7, _), (8, _)] ⟨rfl, rfl, rfl, rfl, trivial⟩ ?_)))
 refine cj_drawI 13 [(0, true), (1, true), (2, true), (3, true), (4, true), (5, true), (6, true), (7, true), (8, true), (9, true), (10, true), (11, true), (12, true), (13, false)] [0, 1] rfl (by kernel_rfl) (by kernel_rfl) ?_
 refine dj_val rfl rfl (sub_of [0, 1] rfl) (fun _ _ h => r_move rfl h) (dj_val rfl rfl (sub_of [0, 1] rfl) (fun _ _ h => r_nil rfl h) (dj_val rfl rfl (sub_of [0, 1] rfl) (fun _ _ h => r_fl (q := 3) (ft := 35) runUnderlying169 rfl sizeOf35 rfl h) (dj_ld rfl rfl (sub_of [0, 1] rfl) (fun a w ha hS => r_ldS 0 rfl rfl isAgg35 rfl rfl ha hS) (dj_val rfl rfl (sub_of [0, 1] rfl) (fun _ _ h => r_move rfl h) (dj_val rfl rfl (sub_of [0, 1] rfl) (fun _ _ h => r_slcut (i := D.length) runUnderlying35 sizeOf5 rfl rfl (by omega) h) (dj_val rfl rfl (sub_of [0, 1] rfl) (fun _ _ h => r_move rfl h) (dj_val rfl rfl (sub_of [0, 1] rfl) (fun _ _ h => r_nil rfl h) (dj_val rfl rfl (sub_of [0, 1] rfl) (fun _ _ h => r_fl (q := 4) (ft := 167) runUnderlying169 rfl sizeOf167 rfl h) (dj_val rfl rfl (sub_of [0, 1] rfl) (fun _ _ h => r_move rfl h) (dj_val rfl rfl (sub_of [0, 1] rfl) (fun _ _ h => r_move rfl h) (dj_val rfl rfl (sub_of [0, 1] rfl) (fun _ _ h => r_sub rfl rfl h) ?_)))))))))))
 refine dj_eqv (u := .int .i64 (((lenB M.length tag).length : Nat) : Int)) (by rw [hln, wrap64_small (by omega) (by omega)]; congr 1; omega) ?_
 refine dj_val rfl rfl (sub_of [0, 1] rfl) (fun _ _ h => r_sarrhi (j := (lenB M.length tag).length) runUnderlying167 sizeOf5 rfl rfl (by omega) h) (dj_eff rfl fun K2 hK2 => ?_)
 refine j_copy (m := (lenB M.length tag).length) (news := (lenB M.length tag).map bv) 1 rfl hon g4.ho g4.hw runUnderlying35 sizeOf5 rfl rfl (fun w => lenOf_slice _ _ _ _) (fun w hH hf => ?_) bvs_scal ?_ rfl ?_
 ·have hb := hH.get (i := 0) rfl rfl
  rw [natMin (by omega)]
  exact fc_any hb (by simp [cBuf]) (by simp)
 ·unfold cut
  split
  ·omega
  ·simp [setL_length]; omega
 refine j_nil (ej_then (hK2 _ _ (.inl rfl) ?_)); clear hK2 K2
 refine dj_end ?_
 refine ?_
 refine ej_end0 results117 fun w' hH hf => ?_
 have hcs := hH.get (i := 1) rfl hon
 have hrot : setL (setL yy.cs (cut 0 cc (D.length + (lenB M.length tag).length) 1) (M.map bv)) (cut 0 cc D.length 1) ((lenB M.length tag).map bv) = (D ++ lenB M.length tag ++ M).map bv ++ ex := by
  rw [hex]; exact rot_cells D M (lenB M.length tag) ex cc hLp (by have := congrArg List.length hex; simp at this; omega)
 have hl2 : (D ++ M ++ lenB M.length tag).length = (D ++ lenB M.length tag ++ M).length := by simp; omega
 have hO2 : Own tU8 1 ⟨yy.b, yy.T, setL (setL yy.cs (cut 0 cc (D.length + (lenB M.length tag).length) 1) (M.map bv)) (cut 0 cc D.length 1) ((lenB M.length tag).map bv), yy.wr, yy.on, yy.ob⟩ (some ⟨yy.b, 0, none⟩) (D ++ lenB M.length tag ++ M).length cc ((D ++ lenB M.length tag ++ M).map bv) :=
  ⟨g4.hT, g4.hw, g4.ho, by simp, by omega, .inl ⟨hon, rfl, ⟨ex, hrot⟩, by simp [setL_length]; omega⟩⟩
 have hD : D ++ encF (.bys tag M) = D ++ lenB M.length tag ++ M := by simp [encF, lenB]
 rw [hD]
 rw [hl2] at hH
 exact ⟨bfHp (Nat.le_trans h.size (Nat.le_trans hF3.size hf9.size)) h.ge ⟨by simp; rw [hT] at g2; simp at g2; omega, by rw [hT] at g3; simp [scal] at g3 ⊢; exact g3.2⟩ hO2 (i := 0) (j := 1) hH rfl rfl, frE (frQ hF3 hf9) hf⟩

abbrev tU64 : Nat := 59
theorem flatMap_step' {α β : Type} {xs : List α} {g : α → List β} {k : Nat} (hk : k < xs.length) : (xs.take (k + 1)).flatMap g = (xs.take k).flatMap g ++ g xs[k] := by
 rw [← List.take_append_getElem hk, List.flatMap_append]; simp
theorem flatMap_take_le {α β : Type} (xs : List α) (g : α → List β) (k : Nat) : ((xs.take k).flatMap g).length ≤ (xs.flatMap g).length := by
 conv => rhs; rw [← List.take_append_drop k xs, List.flatMap_append, List.length_append]
 omega
theorem vints_len : ∀ {ns : List Nat}, (∀ n ∈ ns, n < 18446744073709551616) → (ns.flatMap vint).length ≤ 10 * ns.length
 | [], _ => by simp
 | n :: r, h => by
  have := vint_len (h n (by simp))
  have := vints_len fun m hm => h m (List.mem_cons_of_mem _ hm)
  rw [List.flatMap_cons, List.length_append, List.length_cons]; omega
theorem numBs_len {tag : Nat} (ht : tag < 1048576) : ∀ {ns : List Nat}, (∀ n ∈ ns, n < 18446744073709551616) → (ns.flatMap (numB tag)).length ≤ 20 * ns.length
 | [], _ => by simp
 | n :: r, h => by
  have := numB_len ht (h n (by simp))
  have := numBs_len ht fun m hm => h m (List.mem_cons_of_mem _ hm)
  rw [List.flatMap_cons, List.length_append, List.length_cons]; omega
/-- a cell of a slice of numbers, at any later world -/
theorem osCell {B : Nat} {w w1 : World} {W : List Nat} {b T : Nat} {xs : List Value} {v : Value} {k : Nat} (hF : Fr B W w w1) (hW : W.all (fun t => !Nat.beq t T) = true) (hc : ∀ f : Fm, f.ws = w → f.W.all (fun t => !Nat.beq t T) = true → ∀ w', f.ok w' → ∀ (j : Nat) (u : Value), xs[j]? = some u → w'.cell? ⟨b, j, none⟩ = some u) (hv : xs[k]? = some v) :
  ∀ w', Fm.ok ⟨w1, 0, []⟩ w' → ∀ (j : Nat) (u : Value), [v][j]? = some u → w'.cell? ⟨b, 0 + k * 1 + j, none⟩ = some u := fun w' kp j u hu => by
 cases j with
 | zero => simp at hu; subst hu; simpa using hc ⟨w, B, W⟩ rfl hW w' (frQ hF kp) k v hv
 | succ j => simp at hu
def usB (tag : Nat) (ns : List Nat) : List Nat := if 2 < ns.length then encF (.bys tag (ns.flatMap vint)) else ns.flatMap (numB tag)
set_option maxHeartbeats 1000000 in
theorem uint64s_c (B : Nat) (w : World) (bb : Nat) (D : List Nat) (tag : Nat) (sv : Value) (ns : List Nat) (ht : tag < 1048576) (hs : OS tU64 1 w sv (ns.map fun (n : Nat) => Value.int .u64 (n : Int))) (hn : ∀ n ∈ ns, n < 18446744073709551616) (h : Bf B w bb D) (hl : D.length + 20 * ns.length + 60 ≤ 100000000000) :
  Calls Tryz.prog 138 #[ptr bb, .int .i64 (tag : Nat), sv] w (Ret fun _ w' => Bf B w' bb (D ++ usB tag ns) ∧ Fr B wE w w') := by
 obtain ⟨ps, ls, cs, rfl, hls, hlsc, hlsx⟩ := hs.openF
 obtain rfl : ls = ns.length := by simpa using hls.symm
 have hv := vints_len hn
 have hnb := numBs_len ht hn
 obtain ⟨f, t, u, p, c, tmp0, y, h1, h2, h3, h4, h5⟩ := id h.ex
 have hcb := mc (f := ⟨w, 0, []⟩) h1 rfl
 refine startJ (args := [_, _, _]) [(0, _), (1, _), (2, _)] 0 [] [] func138 rfl ntmps138 rfl rfl .nil ?_
 refine cj_seqF fun K1 hK1 => cj_seqF fun K2 hK2 => cj_reg (jM rfl rfl (j_val rfl (fun _ _ h => r_len runUnderlying67 rfl h) (j_val rfl (fun _ _ h => r_gtr rfl rfl h) (j_nil (ej_then (hK2 _ _ _ (CJ.s [(0, _), (1, _), (2, _), (15, _)] ⟨rfl, rfl, rfl, rfl, trivial⟩ ?_)))))))
 refine cj_dec rfl (fun h15 => ?_) (fun h15 => ?_)
 ·have hgt : 2 < ns.length := by omega
  refine cj_seqF fun K3 hK3 => cj_reg (jM rfl rfl (jN rfl rfl (j_val rfl (fun _ _ h => r_fl (q := 3) (ft := 35) runUnderlying169 rfl sizeOf35 rfl h) (j_valw rfl (fun a w ha hH hf => r_load isAgg35 rfl (hcb w (hf) 3 _ rfl) ha) (j_val rfl (fun _ _ h => r_len runUnderlying35 rfl h) (jA rfl rfl (j_nil (ej_then (hK3 _ _ _ (CJ.s [(0, _), (1, _), (2, _), (6, _)] ⟨rfl, rfl, rfl, rfl, trivial⟩ (cj_seqF fun K4 hK4 => cj_seqF fun K5 hK5 => cj_reg ?_)))))))))))
  refine jM rfl rfl (j_val rfl (fun _ _ h => r_len runUnderlying67 rfl h) (jM rfl rfl (j_nil (ej_then (hK5 _ _ _ (CJ.s [(0, _), (1, _), (6, _), (21, _), (22, _), (23, _)] ⟨rfl, rfl, rfl, rfl, rfl, rfl, trivial⟩ (cj_block ?_)))))))
  -- LOOP 0 live [0, 1, 6, 21, 22, 23]
  intro w0 hH0 hf0
  refine c_loop (σ := Nat) (fun k => [(0, ptr bb), (1, .int .i64 (tag : Nat)), (6, .int .i64 (D.length : Nat)), (21, .slice ps ns.length cs), (22, .int .i64 (ns.length : Nat)), (23, .int .i64 (k : Nat))])
   (fun k w' => k ≤ ns.length ∧ Bf B w' bb (D ++ (ns.take k).flatMap vint) ∧ Fr B wE w w') (fun k => ns.length - k) 0 ⟨rfl, rfl, rfl, rfl, rfl, rfl, trivial⟩ ⟨Nat.zero_le _, by simpa using h.fr hf0, hf0.quiet _ _⟩ ?_
  rintro k w1 ⟨hk, hB1, hF1⟩ KL hKL
  have htl := flatMap_take_le ns vint k
  refine C.begin ⟨w1, 0, []⟩ [] ok_refl .nil ?_
  refine cj_seqF fun K6 hK6 => cj_reg (j_val rfl (fun _ _ h => r_lss rfl rfl h) (j_nil (ej_then (hK6 _ _ _ (CJ.s [(0, _), (1, _), (6, _), (21, _), (22, _), (23, _), (24, _)] ⟨rfl, rfl, rfl, rfl, rfl, rfl, rfl, trivial⟩ (cj_seqF fun K7 hK7 => ?_))))))
  refine cj_dec rfl (fun h24 => ?_) (fun h24 => ?_)
  ·have hk' : k < ns.length := by omega
   obtain ⟨bq, rfl, hsq⟩ := hlsx (by omega)
   have hcell := osCell (k := k) (v := .int .u64 ((ns[k] : Nat) : Int)) hF1 rfl hsq (by simp [hk'])
   refine cj_skip (ej_then (hK7 _ _ _ (CJ.s [(0, _), (1, _), (6, _), (21, _), (22, _), (23, _)] ⟨rfl, rfl, rfl, rfl, rfl, rfl, trivial⟩ (cj_seqF fun K8 hK8 => cj_block (cj_seqF fun K9 hK9 => cj_reg (j_val rfl (fun _ _ h => r_idx runUnderlying67 sizeOf59 rfl rfl (by omega) h) (j_valw rfl (fun a w ha hH hf => r_load isAgg59 rfl (hcell w (hf) 0 _ rfl) ha) (jA rfl rfl (j_nil (ej_then (hK9 _ _ _ (CJ.s [(0, _), (1, _), (6, _), (8, _), (21, _), (22, _), (23, _)] ⟨rfl, rfl, rfl, rfl, rfl, rfl, rfl, trivial⟩ (cj_reg (jM rfl rfl ?_))))))))))))))
   refine jM rfl rfl ?_
   refine j_callB (D' := D ++ (ns.take (k + 1)).flatMap vint) hF1 hB1 call123 rfl rfl (fun w2 hf hB => by rw [flatMap_step' hk', ← List.append_assoc]; exact varint_c B w2 bb _ ns[k] (hn _ (List.getElem_mem hk')) hB (by rw [List.length_append]; omega)) fun v w2 hB2 hF2 => ?_
   refine j_nil (ej_blk (ej_then (hK8 _ _ _ (CJ.s [(0, _), (1, _), (6, _), (21, _), (22, _), (23, _)] ⟨rfl, rfl, rfl, rfl, rfl, rfl, trivial⟩ (cj_reg (j_val rfl (fun _ _ h => r_inc (by omega) rfl rfl h) (jM rfl rfl (j_nil (ej_then ?_)))))))))
   exact fun w' hH hf => hKL (k + 1) _ w' ⟨hk', hB2.fr hf, frQ hF2 hf⟩ (by omega) ⟨rfl, rfl, rfl, rfl, rfl, rfl, trivial⟩
  ·have hke : k = ns.length := by omega
   subst hke
   rw [List.take_of_length_le (Nat.le_refl _)] at hB1
   generalize hM : ns.flatMap vint = M at *
   obtain ⟨f2, t2, u2, p2, c2, tmp2, y2, k1, -⟩ := id hB1.ex
   have hcb := mc (f := ⟨w1, 0, []⟩) k1 rfl
   have hLl : (lenB M.length tag).length ≤ 11 := lenB_short ht (by omega)
   refine cj_exit (ej_then_exit (ej_then_exit (ej_blk_hit (ej_then (hK4 _ _ _ (CJ.s [(0, _), (1, _), (6, _)] ⟨rfl, rfl, rfl, trivial⟩ (cj_seqF fun K10 hK10 => cj_reg (jM rfl rfl (jN rfl rfl (j_val rfl (fun _ _ h => r_fl (q := 3) (ft := 35) runUnderlying169 rfl sizeOf35 rfl h) (j_valw rfl (fun a w ha hH hf => r_load isAgg35 rfl (hcb w (hf) 3 _ rfl) ha) (j_val rfl (fun _ _ h => r_len runUnderlying35 rfl h) (jA rfl rfl (j_nil (ej_then (hK10 _ _ _ (CJ.s [(0, _), (1, _), (6, _), (9, _)] ⟨rfl, rfl, rfl, rfl, trivial⟩ (cj_seqF fun K11 hK11 => ?_))))))))))))))))))
   refine cj_reg (jM rfl rfl (jM rfl rfl (jM rfl rfl (jM rfl rfl (j_val rfl (fun _ _ h => r_sub rfl rfl h) ?_)))))
   refine j_eqv (u := .int .i64 (M.length : Nat)) (by rw [wrap64_small (by simp; omega) (by simp; omega)]; congr 1; simp; omega) ?_
   refine j_callB (D' := D ++ M ++ lenB M.length tag) hF1 hB1 call120 rfl rfl (fun w1 hf hB => length_c B w1 bb _ _ _ ht (by omega) hB (by simp; omega)) fun v w3 hB3 hF3 => ?_
   obtain ⟨f3, t3, u3, p3, c3, tmp3, y3, k2, -⟩ := id hB3.ex
   have hcb := mc (f := ⟨w3, 0, []⟩) k2 rfl
   refine j_nil (ej_then (hK11 _ _ _ (CJ.s [(0, _), (6, _), (9, _)] ⟨rfl, rfl, rfl, trivial⟩ (cj_seqF fun K12 hK12 => cj_reg (jM rfl rfl (jN rfl rfl (j_val rfl (fun _ _ h => r_fl (q := 3) (ft := 35) runUnderlying169 rfl sizeOf35 rfl h) (j_valw rfl (fun a w ha hH hf => r_load isAgg35 rfl (hcb w (hf) 3 _ rfl) ha) (j_val rfl (fun _ _ h => r_len runUnderlying35 rfl h) (jA rfl rfl (j_nil (ej_then (hK12 _ _ _ (CJ.s [(0, _), (6, _), (9, _), (10, _)] ⟨rfl, rfl, rfl, rfl, trivial⟩ ?_))))))))))))))
   refine cj_seqF fun K13 hK13 => ?_
   intro w9 hH9 hf9
   obtain ⟨ff, tt, uu, pp, cc, tmp, yy, g1, g2, g3, g4, g5⟩ := hB3.ex
   have hLp : 0 < (lenB M.length tag).length := lenB_pos _ _
   have hln : (D ++ M ++ lenB M.length tag).length = D.length + M.length + (lenB M.length tag).length := by simp; omega
   have hmn : (D ++ M).length = D.length + M.length := by simp
   have hcap : (D ++ M ++ lenB M.length tag).length ≤ cc := g4.sl.2.1
   obtain ⟨hon, rfl⟩ := g4.pos (by omega)
   obtain ⟨ex, hex, hexl⟩ : ∃ ex, yy.cs = (D ++ M ++ lenB M.length tag).map bv ++ ex ∧ yy.cs.length = cc * 1 := by
    rcases g4.sl.2.2 with ⟨-, -, ⟨ex, q⟩, q2⟩ | ⟨q, -⟩
    ·exact ⟨ex, q, q2⟩
    ·rw [hon] at q; cases q
   obtain ⟨T1, T2, hT, hTl⟩ : ∃ T1 T2, tmp = T1 ++ T2 ∧ T1.length = (lenB M.length tag).length := ⟨tmp.take (lenB M.length tag).length, tmp.drop (lenB M.length tag).length, by simp, by simp; omega⟩
   refine C.begin ⟨w9, B, wE⟩ _ ok_refl (hpBf hB3.ge (hf9.blk g1 (.inr (by simp))) g4 fun ho => ⟨(g5 ho).1, hf9.blk (g5 ho).2 (.inr (by simp))⟩) ?_
   refine cj_drawI 11 [(0, true), (1, true), (2, true), (3, true), (4, true), (5, true), (6, true), (7, true), (8, true), (9, true), (10, true), (11, false)] [0, 1] rfl (by kernel_rfl) (by kernel_rfl) ?_
   refine dj_val rfl rfl (sub_of [0, 1] rfl) (fun _ _ h => r_move rfl h) (dj_val rfl rfl (sub_of [0, 1] rfl) (fun _ _ h => r_nil rfl h) (dj_val rfl rfl (sub_of [0, 1] rfl) (fun _ _ h => r_fl (q := 4) (ft := 167) runUnderlying169 rfl sizeOf167 rfl h) (dj_val rfl rfl (sub_of [0, 1] rfl) (fun _ _ h => r_sarr runUnderlying167 sizeOf5 rfl h) (dj_val rfl rfl (sub_of [0, 1] rfl) (fun _ _ h => r_move rfl h) (dj_val rfl rfl (sub_of [0, 1] rfl) (fun _ _ h => r_nil rfl h) (dj_val rfl rfl (sub_of [0, 1] rfl) (fun _ _ h => r_fl (q := 3) (ft := 35) runUnderlying169 rfl sizeOf35 rfl h) (dj_ld rfl rfl (sub_of [0, 1] rfl) (fun a w ha hS => r_ldS 0 rfl rfl isAgg35 rfl rfl ha hS) (dj_val rfl rfl (sub_of [0, 1] rfl) (fun _ _ h => r_move rfl h) (dj_val rfl rfl (sub_of [0, 1] rfl) (fun _ _ h => r_move rfl h) (dj_val rfl rfl (sub_of [0, 1] rfl) (fun _ _ h => r_slmid (i := (D ++ M).length) (j := (D ++ M ++ lenB M.length tag).length) runUnderlying35 sizeOf5 rfl rfl rfl (by omega) hcap h) (dj_eff rfl fun K2 hK2 => ?_)))))))))))
   refine j_copy (m := (D ++ M ++ lenB M.length tag).length - (D ++ M).length) (news := (lenB M.length tag).map bv) 0 rfl rfl rfl rfl runUnderlying35 sizeOf5 rfl rfl (fun w => lenOf_slice _ _ _ _) (fun w hH hf => ?_) bvs_scal (by simp [cBuf]; omega) rfl ?_
   ·have hb := hH.get (i := 1) rfl hon
    rw [natMin (by omega)]
    rw [cut, if_neg (by omega)]
    exact fc_any hb (by rw [hex]; exact part_last D M (lenB M.length tag) ex (by omega) (by omega)) (by simp; omega)
   refine j_nil (ej_then (hK2 _ _ (.inl rfl) ?_)); clear hK2 K2
   refine dj_end (ej_then (hK13 _ _ _ (CJ.s [(0, _), (6, _), (9, _), (10, _)] ⟨rfl, rfl, rfl, rfl, trivial⟩ (cj_seqF fun K14 hK14 => ?_))))
   refine CJ.heap [⟨bb, tBuf, cBuf ff tt uu (.slice (some ⟨yy.b, 0, none⟩) (D ++ M ++ lenB M.length tag).length cc) ((lenB M.length tag).map bv ++ T2), true, true, none⟩, yy] (fun w hH hf => by rw [← copyTmp hT hTl]; exact hH) ?_
   refine cj_drawI 17 [(0, true), (1, true), (2, true), (3, true), (4, true), (5, true), (6, true), (7, true), (8, true), (9, true), (10, true), (11, true), (12, true), (13, true), (14, true), (15, true), (16, true), (17, false)] [0, 1] rfl (by kernel_rfl) (by kernel_rfl) ?_
   refine dj_val rfl rfl (sub_of [0, 1] rfl) (fun _ _ h => r_move rfl h) (dj_val rfl rfl (sub_of [0, 1] rfl) (fun _ _ h => r_nil rfl h) (dj_val rfl rfl (sub_of [0, 1] rfl) (fun _ _ h => r_fl (q := 3) (ft := 35) runUnderlying169 rfl sizeOf35 rfl h) (dj_ld rfl rfl (sub_of [0, 1] rfl) (fun a w ha hS => r_ldS 0 rfl rfl isAgg35 rfl rfl ha hS) (dj_val rfl rfl (sub_of [0, 1] rfl) (fun _ _ h => r_move rfl h) (dj_val rfl rfl (sub_of [0, 1] rfl) (fun _ _ h => r_move rfl h) (dj_val rfl rfl (sub_of [0, 1] rfl) (fun _ _ h => r_move rfl h) (dj_val rfl rfl (sub_of [0, 1] rfl) (fun _ _ h => r_sub rfl rfl h) ?_)))))))
   refine dj_eqv (u := .int .i64 (((lenB M.length tag).length : Nat) : Int)) (by rw [hln, wrap64_small (by omega) (by omega)]; congr 1; omega) ?_
   refine dj_val rfl rfl (sub_of [0, 1] rfl) (fun _ _ h => r_add rfl rfl h) ?_
   refine dj_eqv (u := .int .i64 ((D.length + (lenB M.length tag).length : Nat) : Int)) (by rw [wrap64_small (by omega) (by omega)]; congr 1) ?_
   refine dj_val rfl rfl (sub_of [0, 1] rfl) (fun _ _ h => r_slcut (i := D.length + (lenB M.length tag).length) runUnderlying35 sizeOf5 rfl rfl (by omega) h) (dj_val rfl rfl (sub_of [0, 1] rfl) (fun _ _ h => r_move rfl h) (dj_val rfl rfl (sub_of [0, 1] rfl) (fun _ _ h => r_nil rfl h) (dj_val rfl rfl (sub_of [0, 1] rfl) (fun _ _ h => r_fl (q := 3) (ft := 35) runUnderlying169 rfl sizeOf35 rfl h) (dj_ld rfl rfl (sub_of [0, 1] rfl) (fun a w ha hS => r_ldS 0 rfl rfl isAgg35 rfl rfl ha hS) (dj_val rfl rfl (sub_of [0, 1] rfl) (fun _ _ h => r_move rfl h) (dj_val rfl rfl (sub_of [0, 1] rfl) (fun _ _ h => r_move rfl h) (dj_val rfl rfl (sub_of [0, 1] rfl) (fun _ _ h => r_slmid (i := D.length) (j := (D ++ M).length) runUnderlying35 sizeOf5 rfl rfl rfl (by omega) (by omega) h) (dj_eff rfl fun K2 hK2 => ?_))))))))
   refine j_copy (m := (D ++ M).length - D.length) (news := M.map bv) 1 rfl hon g4.ho g4.hw runUnderlying35 sizeOf5 rfl rfl (fun w => lenOf_slice _ _ _ _) (fun w hH hf => ?_) bvs_scal ?_ rfl ?_
   ·have hb := hH.get (i := 1) rfl hon
    rw [natMin (by omega)]
    rw [cut, if_neg (by omega)]
    exact fc_any hb (by rw [hex]; exact part_mid D M (lenB M.length tag) ex (by omega) (by omega)) (by simp)
   ·unfold cut
    split
    ·simp; omega
    ·simp; omega
   refine j_nil (ej_then (hK2 _ _ (.inl rfl) ?_)); clear hK2 K2
   refine dj_end (ej_then (hK14 _ _ _ (CJ.s [(0, _), (6, _), (9, _), (10, _)] ⟨rfl, rfl, rfl, rfl, trivial⟩ (cj_seqF fun K15 hK15 => ?_))))
   refine cj_drawI 13 [(0, true), (1, true), (2, true), (3, true), (4, true), (5, true), (6, true), (7, true), (8, true), (9, true), (10, true), (11, true), (12, true), (13, false)] [0, 1] rfl (by kernel_rfl) (by kernel_rfl) ?_
   refine dj_val rfl rfl (sub_of [0, 1] rfl) (fun _ _ h => r_move rfl h) (dj_val rfl rfl (sub_of [0, 1] rfl) (fun _ _ h => r_nil rfl h) (dj_val rfl rfl (sub_of [0, 1] rfl) (fun _ _ h => r_fl (q := 3) (ft := 35) runUnderlying169 rfl sizeOf35 rfl h) (dj_ld rfl rfl (sub_of [0, 1] rfl) (fun a w ha hS => r_ldS 0 rfl rfl isAgg35 rfl rfl ha hS) (dj_val rfl rfl (sub_of [0, 1] rfl) (fun _ _ h => r_move rfl h) (dj_val rfl rfl (sub_of [0, 1] rfl) (fun _ _ h => r_slcut (i := D.length) runUnderlying35 sizeOf5 rfl rfl (by omega) h) (dj_val rfl rfl (sub_of [0, 1] rfl) (fun _ _ h => r_move rfl h) (dj_val rfl rfl (sub_of [0, 1] rfl) (fun _ _ h => r_nil rfl h) (dj_val rfl rfl (sub_of [0, 1] rfl) (fun _ _ h => r_fl (q := 4) (ft := 167) runUnderlying169 rfl sizeOf167 rfl h) (dj_val rfl rfl (sub_of [0, 1] rfl) (fun _ _ h => r_move rfl h) (dj_val rfl rfl (sub_of [0, 1] rfl) (fun _ _ h => r_move rfl h) (dj_val rfl rfl (sub_of [0, 1] rfl) (fun _ _ h => r_sub rfl rfl h) ?_)))))))))))
   refine dj_eqv (u := .int .i64 (((lenB M.length tag).length : Nat) : Int)) (by rw [hln, wrap64_small (by omega) (by omega)]; congr 1; omega) ?_
   refine dj_val rfl rfl (sub_of [0, 1] rfl) (fun _ _ h => r_sarrhi (j := (lenB M.length tag).length) runUnderlying167 sizeOf5 rfl rfl (by omega) h) (dj_eff rfl fun K2 hK2 => ?_)
   refine j_copy (m := (lenB M.length tag).length) (news := (lenB M.length tag).map bv) 1 rfl hon g4.ho g4.hw runUnderlying35 sizeOf5 rfl rfl (fun w => lenOf_slice _ _ _ _) (fun w hH hf => ?_) bvs_scal ?_ rfl ?_
   ·have hb := hH.get (i := 0) rfl rfl
    rw [natMin (by omega)]
    exact fc_any hb (by simp [cBuf]) (by simp)
   ·unfold cut
    split
    ·omega
    ·simp [setL_length]; omega
   refine j_nil (ej_then (hK2 _ _ (.inl rfl) ?_)); clear hK2 K2
   refine dj_end (ej_then (hK15 _ _ _ (CJ.s [] trivial (cj_ret (ej_then_ret (?_))))))
   refine ej_ret0 results138 fun w' hH hf => ?_
   have hus : usB tag ns = encF (.bys tag M) := by rw [usB, if_pos hgt, hM]
   rw [hus]
   have hcs := hH.get (i := 1) rfl hon
   have hrot : setL (setL yy.cs (cut 0 cc (D.length + (lenB M.length tag).length) 1) (M.map bv)) (cut 0 cc D.length 1) ((lenB M.length tag).map bv) = (D ++ lenB M.length tag ++ M).map bv ++ ex := by
    rw [hex]; exact rot_cells D M (lenB M.length tag) ex cc hLp (by have := congrArg List.length hex; simp at this; omega)
   have hl2 : (D ++ M ++ lenB M.length tag).length = (D ++ lenB M.length tag ++ M).length := by simp; omega
   have hO2 : Own tU8 1 ⟨yy.b, yy.T, setL (setL yy.cs (cut 0 cc (D.length + (lenB M.length tag).length) 1) (M.map bv)) (cut 0 cc D.length 1) ((lenB M.length tag).map bv), yy.wr, yy.on, yy.ob⟩ (some ⟨yy.b, 0, none⟩) (D ++ lenB M.length tag ++ M).length cc ((D ++ lenB M.length tag ++ M).map bv) :=
    ⟨g4.hT, g4.hw, g4.ho, by simp, by omega, .inl ⟨hon, rfl, ⟨ex, hrot⟩, by simp [setL_length]; omega⟩⟩
   have hD : D ++ encF (.bys tag M) = D ++ lenB M.length tag ++ M := by simp [encF, lenB]
   rw [hD]
   rw [hl2] at hH
   exact ⟨bfHp (Nat.le_trans h.size (Nat.le_trans hF3.size hf9.size)) h.ge ⟨by simp; rw [hT] at g2; simp at g2; omega, by rw [hT] at g3; simp [scal] at g3 ⊢; exact g3.2⟩ hO2 (i := 0) (j := 1) hH rfl rfl, frE (frQ hF3 hf9) hf⟩
 ·have hgt : ¬ 2 < ns.length := by omega
  refine cj_skip (ej_then (hK1 _ _ _ (CJ.s [(0, _), (1, _), (2, _)] ⟨rfl, rfl, rfl, trivial⟩ (cj_seqF fun K16 hK16 => cj_reg (jM rfl rfl (j_val rfl (fun _ _ h => r_len runUnderlying67 rfl h) (jM rfl rfl (j_nil (ej_then (hK16 _ _ _ (CJ.s [(0, _), (1, _), (91, _), (92, _), (93, _)] ⟨rfl, rfl, rfl, rfl, rfl, trivial⟩ (cj_block ?_))))))))))))
  -- LOOP 1 live [0, 1, 91, 92, 93]
  intro w0 hH0 hf0
  refine c_loop (σ := Nat) (fun k => [(0, ptr bb), (1, .int .i64 (tag : Nat)), (91, .slice ps ns.length cs), (92, .int .i64 (ns.length : Nat)), (93, .int .i64 (k : Nat))])
   (fun k w' => k ≤ ns.length ∧ Bf B w' bb (D ++ (ns.take k).flatMap (numB tag)) ∧ Fr B wE w w') (fun k => ns.length - k) 0 ⟨rfl, rfl, rfl, rfl, rfl, trivial⟩ ⟨Nat.zero_le _, by simpa using h.fr hf0, hf0.quiet _ _⟩ ?_
  rintro k w1 ⟨hk, hB1, hF1⟩ KL hKL
  have htl := flatMap_take_le ns (numB tag) k
  refine C.begin ⟨w1, 0, []⟩ [] ok_refl .nil ?_
  refine cj_seqF fun K17 hK17 => cj_reg (j_val rfl (fun _ _ h => r_lss rfl rfl h) (j_nil (ej_then (hK17 _ _ _ (CJ.s [(0, _), (1, _), (91, _), (92, _), (93, _), (94, _)] ⟨rfl, rfl, rfl, rfl, rfl, rfl, trivial⟩ (cj_seqF fun K18 hK18 => ?_))))))
  refine cj_dec rfl (fun h94 => ?_) (fun h94 => ?_)
  ·have hk' : k < ns.length := by omega
   obtain ⟨bq, rfl, hsq⟩ := hlsx (by omega)
   have hcell := osCell (k := k) (v := .int .u64 ((ns[k] : Nat) : Int)) hF1 rfl hsq (by simp [hk'])
   refine cj_skip (ej_then (hK18 _ _ _ (CJ.s [(0, _), (1, _), (91, _), (92, _), (93, _)] ⟨rfl, rfl, rfl, rfl, rfl, trivial⟩ (cj_seqF fun K19 hK19 => cj_block (cj_seqF fun K20 hK20 => cj_reg (j_val rfl (fun _ _ h => r_idx runUnderlying67 sizeOf59 rfl rfl (by omega) h) (j_valw rfl (fun a w ha hH hf => r_load isAgg59 rfl (hcell w (hf) 0 _ rfl) ha) (jA rfl rfl (j_nil (ej_then (hK20 _ _ _ (CJ.s [(0, _), (1, _), (12, _), (91, _), (92, _), (93, _)] ⟨rfl, rfl, rfl, rfl, rfl, rfl, trivial⟩ (cj_reg (jM rfl rfl ?_))))))))))))))
   refine jM rfl rfl (jM rfl rfl ?_)
   refine j_callB (D' := D ++ (ns.take (k + 1)).flatMap (numB tag)) hF1 hB1 call124 rfl rfl (fun w2 hf hB => by rw [flatMap_step' hk', ← List.append_assoc]; exact uint64_c B w2 bb _ tag ns[k] ht (hn _ (List.getElem_mem hk')) hB (by rw [List.length_append]; omega)) fun v w2 hB2 hF2 => ?_
   refine j_nil (ej_blk (ej_then (hK19 _ _ _ (CJ.s [(0, _), (1, _), (91, _), (92, _), (93, _)] ⟨rfl, rfl, rfl, rfl, rfl, trivial⟩ (cj_reg (j_val rfl (fun _ _ h => r_inc (by omega) rfl rfl h) (jM rfl rfl (j_nil (ej_then ?_)))))))))
   exact fun w' hH hf => hKL (k + 1) _ w' ⟨hk', hB2.fr hf, frQ hF2 hf⟩ (by omega) ⟨rfl, rfl, rfl, rfl, rfl, trivial⟩
  ·have hke : k = ns.length := by omega
   subst hke
   rw [List.take_of_length_le (Nat.le_refl _)] at hB1
   refine cj_exit (ej_then_exit (ej_then_exit (ej_blk_hit (?_))))
   exact ej_end0 results138 fun w' hH hf => ⟨by rw [usB, if_neg hgt]; exact hB1.fr hf, frQ hF1 hf⟩
def strsB (tag : Nat) (ss : List ByteArray) : List Nat := ss.flatMap fun s => encF (.bys tag (sB s))
theorem strB_len (tag : Nat) (s : ByteArray) : s.size ≤ (encF (.bys tag (sB s))).length := by simp [encF, sB_len]; omega
theorem strings_c (B : Nat) (w : World) (bb : Nat) (D : List Nat) (tag : Nat) (sv : Value) (ss : List ByteArray) (ht : tag < 1048576) (hs : OS tStr 1 w sv (ss.map .string)) (h : Bf B w bb D) (hl : D.length + (strsB tag ss).length + 60 ≤ 100000000000) :
  Calls Tryz.prog 118 #[ptr bb, .int .i64 (tag : Nat), sv] w (Ret fun _ w' => Bf B w' bb (D ++ strsB tag ss) ∧ Fr B wE w w') := by
 obtain ⟨ps, ls, cs, rfl, hls, hlsc, hlsx⟩ := hs.openF
 obtain rfl : ls = ss.length := by simpa using hls.symm
 have hle : ss.length ≤ (strsB tag ss).length := by
  have : ∀ l : List ByteArray, l.length ≤ (strsB tag l).length := by
   intro l
   induction l with
   | nil => simp
   | cons a r ih =>
    have h1 := lenB_pos (sB a).length tag
    have h2 : (strsB tag (a :: r)).length = (encF (.bys tag (sB a))).length + (strsB tag r).length := by simp [strsB]
    have h3 : (encF (.bys tag (sB a))).length = (lenB (sB a).length tag).length + (sB a).length := by simp [encF, lenB]; omega
    rw [h2]; simp only [List.length_cons]; omega
  exact this ss
 refine startJ (args := [_, _, _]) [(0, _), (1, _), (2, _)] 0 [] [] func118 rfl ntmps118 rfl rfl .nil ?_
 refine cj_seqF fun K1 hK1 => cj_reg (jM rfl rfl (j_val rfl (fun _ _ h => r_len runUnderlying27 rfl h) (jM rfl rfl (j_nil (ej_then (hK1 _ _ _ (CJ.s [(0, _), (1, _), (8, _), (9, _), (10, _)] ⟨rfl, rfl, rfl, rfl, rfl, trivial⟩ (cj_block ?_))))))))
 -- LOOP 0 live [0, 1, 8, 9, 10]
 intro w0 hH0 hf0
 refine c_loop (σ := Nat) (fun k => [(0, ptr bb), (1, .int .i64 (tag : Nat)), (8, .slice ps ss.length cs), (9, .int .i64 (ss.length : Nat)), (10, .int .i64 (k : Nat))])
  (fun k w' => k ≤ ss.length ∧ Bf B w' bb (D ++ strsB tag (ss.take k)) ∧ Fr B wE w w') (fun k => ss.length - k) 0 ⟨rfl, rfl, rfl, rfl, rfl, trivial⟩ ⟨Nat.zero_le _, by simpa [strsB] using h.fr hf0, hf0.quiet _ _⟩ ?_
 rintro k w1 ⟨hk, hB1, hF1⟩ KL hKL
 refine C.begin ⟨w1, 0, []⟩ [] ok_refl .nil ?_
 refine cj_seqF fun K2 hK2 => cj_reg (j_val rfl (fun _ _ h => r_lss rfl rfl h) (j_nil (ej_then (hK2 _ _ _ (CJ.s [(0, _), (1, _), (8, _), (9, _), (10, _), (11, _)] ⟨rfl, rfl, rfl, rfl, rfl, rfl, trivial⟩ (cj_seqF fun K3 hK3 => ?_))))))
 refine cj_dec rfl (fun h11 => ?_) (fun h11 => ?_)
 ·have hk' : k < ss.length := by omega
  obtain ⟨bq, rfl, hsq⟩ := hlsx (by omega)
  have hcell := osCell (k := k) (v := .string ss[k]) hF1 rfl hsq (by simp [hk'])
  have hst : strsB tag (ss.take (k + 1)) = strsB tag (ss.take k) ++ encF (.bys tag (sB ss[k])) := flatMap_step' hk'
  have htl : (strsB tag (ss.take (k + 1))).length ≤ (strsB tag ss).length := flatMap_take_le ss _ (k + 1)
  have hsl := strB_len tag ss[k]
  have hst' := congrArg List.length hst
  rw [List.length_append] at hst'
  refine cj_skip (ej_then (hK3 _ _ _ (CJ.s [(0, _), (1, _), (8, _), (9, _), (10, _)] ⟨rfl, rfl, rfl, rfl, rfl, trivial⟩ (cj_seqF fun K4 hK4 => cj_block (cj_seqF fun K5 hK5 => cj_reg (j_val rfl (fun _ _ h => r_idx runUnderlying27 sizeOf9 rfl rfl (by omega) h) (j_valw rfl (fun a w ha hH hf => r_load isAgg9 rfl (hcell w (hf) 0 _ rfl) ha) (jA rfl rfl (j_nil (ej_then (hK5 _ _ _ (CJ.s [(0, _), (1, _), (7, _), (8, _), (9, _), (10, _)] ⟨rfl, rfl, rfl, rfl, rfl, rfl, trivial⟩ (cj_reg (jM rfl rfl ?_))))))))))))))
  refine jM rfl rfl (jM rfl rfl ?_)
  refine j_callB (D' := D ++ strsB tag (ss.take (k + 1))) hF1 hB1 call121 rfl rfl (fun w2 hf hB => by rw [hst, ← List.append_assoc]; exact string_c B w2 bb _ tag ss[k] ht hB (by simp; omega)) fun v w2 hB2 hF2 => ?_
  refine j_nil (ej_blk (ej_then (hK4 _ _ _ (CJ.s [(0, _), (1, _), (8, _), (9, _), (10, _)] ⟨rfl, rfl, rfl, rfl, rfl, trivial⟩ (cj_reg (j_val rfl (fun _ _ h => r_inc (by omega) rfl rfl h) (jM rfl rfl (j_nil (ej_then ?_)))))))))
  exact fun w' hH hf => hKL (k + 1) _ w' ⟨hk', hB2.fr hf, frQ hF2 hf⟩ (by omega) ⟨rfl, rfl, rfl, rfl, rfl, trivial⟩
 ·have hke : k = ss.length := by omega
  subst hke
  rw [List.take_of_length_le (Nat.le_refl _)] at hB1
  refine cj_exit (ej_then_exit (ej_then_exit (ej_blk_hit (?_))))
  exact ej_end0 results118 fun w' hH hf => ⟨hB1.fr hf, frQ hF1 hf⟩
end Go.Proofs.YtifnhinopjgfaaaGreat
