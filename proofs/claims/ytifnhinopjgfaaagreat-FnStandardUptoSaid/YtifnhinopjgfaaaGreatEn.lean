/-
  The encoder of the wire format: what each of its functions puts behind the buffer's bytes. Conditions: the buffer's bytes are few enough for any machine.
-/
import Derived.Test.YtifnhinopjgfaaaGreatW
import Derived.Test.YtifnhinopjgfaaaGreatGp
namespace Go.Fw
open Go
theorem bits_tag {k t : Nat} (hk : k < 1048576) (ht : t < 8) : IntKind.u64.wrap ((BitVec.ofInt 64 ((8 * k : Nat) : Int) ||| BitVec.ofInt 64 (t : Int)).toNat : Nat) = ((8 * k + t : Nat) : Int) := by
 have h1 : (BitVec.ofInt 64 ((8 * k : Nat) : Int)).toNat = 8 * k := by
  rw [BitVec.ofInt_natCast, BitVec.toNat_ofNat]; exact Nat.mod_eq_of_lt (by omega)
 have h2 : (BitVec.ofInt 64 (t : Int)).toNat = t := by
  rw [BitVec.ofInt_natCast, BitVec.toNat_ofNat]; exact Nat.mod_eq_of_lt (by omega)
 rw [BitVec.toNat_or, h1, h2]
 have h3 := Nat.two_pow_add_eq_or_of_lt (i := 3) (b := t) (by omega) k
 have h4 : 8 * k ||| t = 8 * k + t := by simpa using h3.symm
 rw [h4]
 simp [IntKind.wrap, IntKind.bits, IntKind.signed]; omega
set_option maxRecDepth 20000 in
theorem or128 : ∀ x : Fin 256, (x.val ||| 128) = x.val % 128 + 128 := by decide
theorem bits_more (n : Nat) : IntKind.u8.wrap ((BitVec.ofInt 8 (IntKind.u8.wrap (n : Int)) ||| BitVec.ofInt 8 128).toNat : Nat) = ((n % 128 + 128 : Nat) : Int) := by
 have h0 : IntKind.u8.wrap (n : Int) = ((n % 256 : Nat) : Int) := by simp [IntKind.wrap, IntKind.bits, IntKind.signed]
 have h1 : (BitVec.ofInt 8 ((n % 256 : Nat) : Int)).toNat = n % 256 := by
  rw [BitVec.ofInt_natCast, BitVec.toNat_ofNat]; exact Nat.mod_eq_of_lt (by omega)
 have h2 : (BitVec.ofInt 8 (128 : Int)).toNat = 128 := rfl
 rw [h0, BitVec.toNat_or, h1, h2, or128 ⟨n % 256, by omega⟩]
 simp [IntKind.wrap, IntKind.bits, IntKind.signed]; omega
theorem conv8 {n : Nat} (h : n < 128) : IntKind.u8.wrap (n : Int) = (n : Int) := by simp [IntKind.wrap, IntKind.bits, IntKind.signed]; omega
theorem conv64 {n : Nat} (h : n < 4611686018427387904) : IntKind.u64.wrap (n : Int) = (n : Int) := by simp [IntKind.wrap, IntKind.bits, IntKind.signed]; omega
theorem shl3 {k : Nat} (hk : k < 1048576) : IntKind.u64.wrap ((k : Int) * 2 ^ (min 3 IntKind.u64.bits)) = ((8 * k : Nat) : Int) := by
 have : min 3 IntKind.u64.bits = 3 := rfl
 rw [this]
 simp [IntKind.wrap, IntKind.bits, IntKind.signed]; omega
theorem shr7 (n : Nat) : (n : Int).fdiv (2 ^ (min 7 IntKind.u64.bits)) = ((n / 128 : Nat) : Int) := by
 have : min 7 IntKind.u64.bits = 7 := rfl
 rw [this, Int.fdiv_eq_ediv_of_nonneg _ (by omega)]
 simp
end Go.Fw
namespace Go.Proofs.YtifnhinopjgfaaaGreat
open Go Go.Fw Go.Proofs Go.Proofs.Tryz
abbrev tBuf : Nat := 169
abbrev tU8 : Nat := 5
def cBuf (f t u : Int) (dv : Value) (tmp : List Value) : List Value := .int .i64 f :: .int .i64 t :: .int .u64 u :: dv :: tmp
/-- the buffer, and the bytes that it holds -/
structure Bf (B : Nat) (w : World) (bb : Nat) (D : List Nat) : Prop where
 ge : B ≤ bb
 ex : ∃ f t u p c tmp y, Blk w bb tBuf (cBuf f t u (.slice p D.length c) tmp) ∧ tmp.length = 16 ∧ tmp.all scal = true ∧ Own tU8 1 y p D.length c (D.map bv) ∧ (y.on = true → B ≤ y.b ∧ Blk w y.b tU8 y.cs)
abbrev wE : List Nat := [tBuf, tU8]
theorem hpBf {B : Nat} {w : World} {bb c : Nat} {f t u : Int} {p : Option Addr} {tmp : List Value} {D : List Nat} {y : Ent} (hB : B ≤ bb) (hb : Blk w bb tBuf (cBuf f t u (.slice p D.length c) tmp)) (hO : Own tU8 1 y p D.length c (D.map bv)) (hy : y.on = true → B ≤ y.b ∧ Blk w y.b tU8 y.cs) :
  Hp ⟨w, B, wE⟩ w [⟨bb, tBuf, cBuf f t u (.slice p D.length c) tmp, true, true, none⟩, y] := by
 have hyH : Hp ⟨w, B, wE⟩ w [y] := by
  refine ⟨⟨fun ho => by rw [hO.hT]; exact (hy ho).2, fun o ho => by rw [hO.ho] at ho; cases ho⟩, fun he _ => .inr ?_, by simp, trivial⟩
  have hon : y.on = true := by simpa [Ent.ex, hO.ho] using he
  exact ⟨(hy hon).1, by rw [hO.tag]; simp⟩
 refine hyH.add hb (fun _ => .inr ⟨hB, by simp⟩) ?_
 intro z hz he
 simp at hz
 subst hz
 have hon : z.on = true := by simpa [Ent.ex, hO.ho] using he
 exact (Blk.ne hb (hy hon).2 (by decide)).symm
theorem bfHp {B : Nat} {w w' : World} {bb c : Nat} {f t u : Int} {p : Option Addr} {tmp : List Value} {D : List Nat} {y : Ent} (hs : B ≤ w.heap.size) (hB : B ≤ bb) (ht : tmp.length = 16 ∧ tmp.all scal = true) (hO : Own tU8 1 y p D.length c (D.map bv)) {i j : Nat} {H : Heap}
  (hH : Hp ⟨w, B, wE⟩ w' H) (hi : H[i]? = some ⟨bb, tBuf, cBuf f t u (.slice p D.length c) tmp, true, true, none⟩) (hj : H[j]? = some y) : Bf B w' bb D :=
 ⟨hB, f, t, u, p, c, tmp, y, hH.get hi rfl, ht.1, ht.2, hO, fun ho => by
  have h1 := hH.get hj ho
  rw [hO.hT] at h1
  rcases hH.may (List.mem_of_getElem? hj) ho hO.hw with h | ⟨h, -⟩
  ·exact ⟨Nat.le_trans hs h, h1⟩
  ·exact ⟨h, h1⟩⟩
theorem Bf.fr {B : Nat} {w w' : World} {bb : Nat} {D : List Nat} (h : Bf B w bb D) (k : Fr 0 [] w w') : Bf B w' bb D := by
 obtain ⟨f, t, u, p, c, tmp, y, h1, h2, h3, h4, h5⟩ := h.ex
 exact ⟨h.ge, f, t, u, p, c, tmp, y, k.blk h1 (.inr (by simp)), h2, h3, h4, fun ho => ⟨(h5 ho).1, k.blk (h5 ho).2 (.inr (by simp))⟩⟩
theorem Bf.size {B : Nat} {w : World} {bb : Nat} {D : List Nat} (h : Bf B w bb D) : B ≤ w.heap.size := by
 obtain ⟨f, t, u, p, c, tmp, y, h1, -⟩ := h.ex
 exact Nat.le_trans h.ge (Nat.le_of_lt h1.lt)
theorem varint_c (B : Nat) (w : World) (bb : Nat) (D : List Nat) (n : Nat) (hn : n < 18446744073709551616) (h : Bf B w bb D) (hl : D.length + 10 ≤ 100000000000) :
  Calls Tryz.prog 123 #[ptr bb, .int .u64 (n : Nat)] w (Ret fun _ w' => Bf B w' bb (D ++ vint n) ∧ Fr B wE w w') := by
 obtain ⟨f, t, u, p, c, tmp, y, h1, h2, h3, h4, h5⟩ := h.ex
 have hs := h.size
 refine startJ (args := [_, _]) [(0, _), (1, _)] B wE _ func123 rfl ntmps123 rfl rfl (hpBf h.ge h1 h4 h5) ?_
 refine cj_seqF fun K1 hK1 => cj_block ?_
 -- LOOP 0 live [0, 1]
 refine cj_loop (σ := List Nat × Nat × Option Addr × Nat × Ent) (fun s => [(0, ptr bb), (1, .int .u64 (s.2.1 : Nat))]) (fun s => [⟨bb, tBuf, cBuf f t u (.slice s.2.2.1 s.1.length s.2.2.2.1) tmp, true, true, none⟩, s.2.2.2.2])
  (fun s _ => Own tU8 1 s.2.2.2.2 s.2.2.1 s.1.length s.2.2.2.1 (s.1.map bv) ∧ s.1 ++ vint s.2.1 = D ++ vint n) (fun s => s.2.1) (D, n, p, c, y) ⟨rfl, rfl, trivial⟩ (fun w' hH hf => ⟨hH, h4, rfl⟩) ?_
 rintro ⟨E, m, q, cc, z⟩ w1 ⟨hO, hE⟩ hf1 hH1 KL hKL
 have hO : Own tU8 1 z q E.length cc (E.map bv) := hO
 have hE : E ++ vint m = D ++ vint n := hE
 have hEl : E.length + 10 ≤ 100000000000 + 10 := by
  have := congrArg List.length hE
  simp at this
  have := vint_len hn
  omega
 have hEs : E.length + 1 ≤ 100000000000 := by
  have := congrArg List.length hE
  simp at this
  have := vint_len hn
  have := vint_pos m
  omega
 refine C.begin _ [⟨bb, tBuf, cBuf f t u (.slice q E.length cc) tmp, true, true, none⟩, z] hf1 hH1 ?_
 refine CJ.s [(0, ptr bb), (1, .int .u64 (m : Nat))] ⟨rfl, rfl, trivial⟩ (cj_seqF fun K2 hK2 => cj_seqF fun K3 hK3 => cj_reg (jM rfl rfl (j_val rfl (fun _ _ h => r_geq rfl rfl h) (j_nil (ej_then (hK3 _ _ _ (CJ.s [(0, _), (1, _), (5, _)] ⟨rfl, rfl, rfl, trivial⟩ ?_)))))))
 refine cj_dec rfl (fun h5' => ?_) (fun h5' => ?_)
 ·have hm : ¬ m < 128 := by omega
  refine cj_skip (ej_then (hK2 _ _ _ (CJ.s [(0, _), (1, _)] ⟨rfl, rfl, trivial⟩ (cj_block (cj_seqF fun K4 hK4 => cj_reg (jM rfl rfl (jM rfl rfl (jN rfl rfl (j_val rfl (fun _ _ h => r_fl (q := 3) (ft := 35) runUnderlying169 rfl sizeOf35 rfl h) (j_valw rfl (fun a w ha hH hf => r_ldH 0 rfl rfl isAgg35 rfl rfl ha hH) (jM rfl rfl (j_val rfl (fun _ _ h => r_conv runUnderlying59 runUnderlying5 rfl h) (j_val rfl (fun _ _ h => r_or rfl rfl h) ?_)))))))))))))
  refine j_eqv (u := bv (m % 128 + 128)) (congrArg (Value.int .u8) (bits_more m)) ?_
  refine j_bslice1 runUnderlying35 sizeOf5 zeroValue5 rfl rfl rfl rfl rfl fun b14 => ?_
  refine j_appO 1 rfl hO runUnderlying35 el5 rfl rfl rfl rfl rfl hEs rfl fun y15 p15 c15 hO15 => ?_
  refine jN rfl rfl (j_val rfl (fun _ _ h => r_fl (q := 3) (ft := 35) runUnderlying169 rfl sizeOf35 rfl h) ?_)
  refine j_storeN (cs' := (_ :: _ :: _ :: _ :: _)) (H' := [_, _]) 0 rfl rfl rfl rfl sizeOf35 rfl rfl rfl rfl rfl rfl rfl ?_
  refine j_nil (ej_then (hK4 _ _ _ (CJ.s [(0, _), (1, _)] ⟨rfl, rfl, trivial⟩ (cj_reg (jM rfl rfl (j_val rfl (fun _ _ h => r_shr (q := 7) rfl rfl h) ?_))))))
  refine j_eqv (u := .int .u64 ((m / 128 : Nat) : Int)) (congrArg (Value.int .u64) (shr7 m)) ?_
  refine jA rfl rfl (j_nil (ej_blk (ej_then ?_)))
  exact fun w' hH hf => hKL (E ++ [m % 128 + 128], m / 128, p15, c15, y15) _ w' ⟨by have h : Own tU8 1 y15 p15 (E.length + 1) c15 (E.map bv ++ [bv (m % 128 + 128)]) := hO15; simpa using h, by rw [← hE, vint_ge hm]; simp⟩ hf (by show Hp _ _ [⟨bb, tBuf, cBuf f t u (.slice p15 (E ++ [m % 128 + 128]).length c15) tmp, true, true, none⟩, y15]; rw [List.length_append]; exact hH) (by simp only; omega) ⟨rfl, rfl, trivial⟩
 ·have hm : m < 128 := by omega
  refine cj_exit (ej_then_exit (ej_then_exit (ej_blk_hit (ej_then (hK1 _ _ _ (CJ.s [(0, _), (1, _)] ⟨rfl, rfl, trivial⟩ (cj_reg (jM rfl rfl (jM rfl rfl (jN rfl rfl (j_val rfl (fun _ _ h => r_fl (q := 3) (ft := 35) runUnderlying169 rfl sizeOf35 rfl h) (j_valw rfl (fun a w ha hH hf => r_ldH 0 rfl rfl isAgg35 rfl rfl ha hH) (jM rfl rfl (j_val rfl (fun _ _ h => r_conv runUnderlying59 runUnderlying5 rfl h) ?_))))))))))))))
  refine j_eqv (u := bv m) (congrArg (Value.int .u8) (conv8 hm)) ?_
  refine j_bslice1 runUnderlying35 sizeOf5 zeroValue5 rfl rfl rfl rfl rfl fun b27 => ?_
  refine j_appO 1 rfl hO runUnderlying35 el5 rfl rfl rfl rfl rfl hEs rfl fun y28 p28 c28 hO28 => ?_
  refine jN rfl rfl (j_val rfl (fun _ _ h => r_fl (q := 3) (ft := 35) runUnderlying169 rfl sizeOf35 rfl h) ?_)
  refine j_storeN (cs' := (_ :: _ :: _ :: _ :: _)) (H' := [_, _]) 0 rfl rfl rfl rfl sizeOf35 rfl rfl rfl rfl rfl rfl rfl ?_
  refine j_nil ?_
  refine ?_
  refine ej_end0 results123 fun w' hH hf => ?_
  have hO2 : Own tU8 1 y28 p28 (D ++ vint n).length c28 ((D ++ vint n).map bv) := by
   have h : Own tU8 1 y28 p28 (E.length + 1) c28 (E.map bv ++ [bv m]) := hO28
   rw [← hE, vint_lt hm]; simpa using h
  have hb := hH.get (i := 0) rfl rfl
  have hl : E.length + 1 = (D ++ vint n).length := by rw [← hE, vint_lt hm]; simp
  rw [hl] at hH
  exact ⟨bfHp hs h.ge ⟨h2, h3⟩ hO2 (i := 0) (j := 1) hH rfl rfl, hf⟩

theorem frE {B : Nat} {W : List Nat} {a b c : World} (h : Fr B W a b) (k : Fr B W b c) : Fr B W a c := h.trans k (.inr ⟨Nat.le_refl _, fun _ h => h⟩)
theorem frQ {B : Nat} {W : List Nat} {a b c : World} (h : Fr B W a b) (k : Fr 0 [] b c) : Fr B W a c := frE h (k.quiet _ _)
section
variable {P : Program} {Q : Exit → Act → World → Prop} {n : Nat} {f : Fm} {e : Env} {H : Heap} {ops : Array Oper} {rest : List Oper} {d ty : Nat} {pos : String} {af : Array Edge}
/-- a call that writes to the buffer alone -/
theorem j_callB {B bb : Nat} {D D' : List Nat} {w0 ws : World} {g : FuncId} {args : Array Operand} {vs : List Value} {tys : Array TypeId} (hF0 : Fr B wE w0 ws) (hB0 : Bf B ws bb D) (hg : ∀ (az : Array Value) (w : World), (callFunc g az).run P w = .ok (.enter g az) w)
  (hargs : evL e args.toList = some vs) (hd : Nat.blt d n = true) (hc : ∀ w, Fr 0 [] ws w → Bf B w bb D → Calls P g vs.toArray w (Ret fun _ w' => Bf B w' bb D' ∧ Fr B wE w w'))
  (k : ∀ v w2, Bf B w2 bb D' → Fr B wE w0 w2 → J P ops Q n ⟨w2, 0, []⟩ ((d, v) :: e) [] rest) : J P ops Q n ⟨ws, 0, []⟩ e H (⟨some d, .call ⟨.value (.func g), args, tys⟩, ty, pos, af, none⟩ :: rest) :=
 j_callE (R := fun w1 _ w2 => Bf B w2 bb D' ∧ Fr B wE w1 w2) hg hargs hd (fun w _ hf => hc w hf (hB0.fr hf)) fun w1 v w2 _ hf1 hR =>
  J.begin ⟨w2, 0, []⟩ [] ok_refl .nil (k v w2 hR.1 (frE (frQ hF0 hf1) hR.2))
end
def lenB (len : Nat) (tag : Nat) : List Nat := vint (8 * tag + 2) ++ vint len
theorem lenB_len {len tag : Nat} (h1 : tag < 1048576) (h2 : len < 18446744073709551616) : (lenB len tag).length ≤ 20 := by
 unfold lenB
 have := vint_len (n := 8 * tag + 2) (by omega)
 have := vint_len h2
 simp; omega
theorem length_c (B : Nat) (w : World) (bb : Nat) (D : List Nat) (tag len : Nat) (ht : tag < 1048576) (hn : len < 4611686018427387904) (h : Bf B w bb D) (hl : D.length + 20 ≤ 100000000000) :
  Calls Tryz.prog 120 #[ptr bb, .int .i64 (tag : Nat), .int .i64 (len : Nat)] w (Ret fun _ w' => Bf B w' bb (D ++ lenB len tag) ∧ Fr B wE w w') := by
 have hv := vint_len (n := 8 * tag + 2) (by omega)
 refine startJ (args := [_, _, _]) [(0, _), (1, _), (2, _)] 0 [] [] func120 rfl ntmps120 rfl rfl .nil ?_
 refine cj_seqF fun K1 hK1 => cj_reg (jM rfl rfl (jM rfl rfl (j_val rfl (fun _ _ h => r_conv runUnderlying3 runUnderlying59 rfl h) ?_)))
 refine j_eqv (u := .int .u64 (tag : Nat)) (congrArg (Value.int .u64) (conv64 (by omega))) ?_
 refine j_val rfl (fun _ _ h => r_shl (q := 3) rfl rfl h) ?_
 refine j_eqv (u := .int .u64 ((8 * tag : Nat) : Int)) (congrArg (Value.int .u64) (shl3 ht)) ?_
 refine j_val rfl (fun _ _ h => r_or rfl rfl h) ?_
 refine j_eqv (u := .int .u64 ((8 * tag + 2 : Nat) : Int)) (congrArg (Value.int .u64) (bits_tag (t := 2) ht (by omega))) ?_
 refine j_callB (D' := D ++ vint (8 * tag + 2)) (Fr.refl _ _ w) h call123 rfl rfl (fun w1 hf hB => varint_c B w1 bb D (8 * tag + 2) (by omega) hB (by omega)) fun v w2 hB2 hF2 => ?_
 refine j_nil (ej_then (hK1 _ _ _ (CJ.s [(0, _), (2, _)] ⟨rfl, rfl, trivial⟩ (cj_reg (jM rfl rfl (jM rfl rfl (j_val rfl (fun _ _ h => r_conv runUnderlying3 runUnderlying59 rfl h) ?_)))))))
 refine j_eqv (u := .int .u64 (len : Nat)) (congrArg (Value.int .u64) (conv64 (by omega))) ?_
 refine j_callB (D' := D ++ lenB len tag) hF2 hB2 call123 rfl rfl (fun w1 hf hB => by rw [lenB, ← List.append_assoc]; exact varint_c B w1 bb _ len (by omega) hB (by simp; omega)) fun v w3 hB3 hF3 => ?_
 refine j_nil ?_
 refine ?_
 exact ej_end0 results120 fun w' hH hf => ⟨hB3.fr hf, frQ hF3 hf⟩
def numB (k n : Nat) : List Nat := vint (8 * k) ++ vint n
theorem numB_len {k n : Nat} (h1 : k < 1048576) (h2 : n < 18446744073709551616) : (numB k n).length ≤ 20 := by
 unfold numB
 have := vint_len (n := 8 * k) (by omega)
 have := vint_len h2
 simp; omega
theorem uint64_c (B : Nat) (w : World) (bb : Nat) (D : List Nat) (tag n : Nat) (ht : tag < 1048576) (hn : n < 18446744073709551616) (h : Bf B w bb D) (hl : D.length + 20 ≤ 100000000000) :
  Calls Tryz.prog 124 #[ptr bb, .int .i64 (tag : Nat), .int .u64 (n : Nat)] w (Ret fun _ w' => Bf B w' bb (D ++ numB tag n) ∧ Fr B wE w w') := by
 have hv := vint_len (n := 8 * tag) (by omega)
 refine startJ (args := [_, _, _]) [(0, _), (1, _), (2, _)] 0 [] [] func124 rfl ntmps124 rfl rfl .nil ?_
 refine cj_seqF fun K1 hK1 => cj_reg (jM rfl rfl (jM rfl rfl (j_val rfl (fun _ _ h => r_conv runUnderlying3 runUnderlying59 rfl h) ?_)))
 refine j_eqv (u := .int .u64 (tag : Nat)) (congrArg (Value.int .u64) (conv64 (by omega))) ?_
 refine j_val rfl (fun _ _ h => r_shl (q := 3) rfl rfl h) ?_
 refine j_eqv (u := .int .u64 ((8 * tag : Nat) : Int)) (congrArg (Value.int .u64) (shl3 ht)) ?_
 refine j_val rfl (fun _ _ h => r_or rfl rfl h) ?_
 refine j_eqv (u := .int .u64 ((8 * tag : Nat) : Int)) (congrArg (Value.int .u64) (bits_tag (t := 0) ht (by omega))) ?_
 refine j_callB (D' := D ++ vint (8 * tag)) (Fr.refl _ _ w) h call123 rfl rfl (fun w1 hf hB => varint_c B w1 bb D (8 * tag) (by omega) hB (by omega)) fun v w2 hB2 hF2 => ?_
 refine j_nil (ej_then (hK1 _ _ _ (CJ.s [(0, _), (2, _)] ⟨rfl, rfl, trivial⟩ (cj_reg (jM rfl rfl (jM rfl rfl ?_))))))
 refine j_callB (D' := D ++ numB tag n) hF2 hB2 call123 rfl rfl (fun w1 hf hB => by rw [numB, ← List.append_assoc]; exact varint_c B w1 bb _ _ hn hB (by simp; omega)) fun v w3 hB3 hF3 => ?_
 refine j_nil ?_
 refine ?_
 exact ej_end0 results124 fun w' hH hf => ⟨hB3.fr hf, frQ hF3 hf⟩
/-- a number of 64 bits without a sign -/
def u64 (z : Int) : Nat := (IntKind.u64.wrap z).toNat
theorem u64_lt (z : Int) : u64 z < 18446744073709551616 := by
 unfold u64
 simp [IntKind.wrap, IntKind.bits, IntKind.signed]; omega
theorem u64_cast (z : Int) : ((u64 z : Nat) : Int) = IntKind.u64.wrap z := by
 unfold u64
 simp [IntKind.wrap, IntKind.bits, IntKind.signed]; omega
theorem u64_zero {z : Int} (h : IntKind.i64.wrap z = z) : u64 z = 0 ↔ z = 0 := by
 rw [← Int.natCast_inj, u64_cast]
 simp [IntKind.wrap, IntKind.bits, IntKind.signed] at h ⊢
 omega
theorem int64_c (B : Nat) (w : World) (bb : Nat) (D : List Nat) (tag : Nat) (z : Int) (ht : tag < 1048576) (h : Bf B w bb D) (hl : D.length + 20 ≤ 100000000000) :
  Calls Tryz.prog 122 #[ptr bb, .int .i64 (tag : Nat), .int .i64 z] w (Ret fun _ w' => Bf B w' bb (D ++ numB tag (u64 z)) ∧ Fr B wE w w') := by
 refine startJ (args := [_, _, _]) [(0, _), (1, _), (2, _)] 0 [] [] func122 rfl ntmps122 rfl rfl .nil ?_
 refine cj_seqF fun K1 hK1 => cj_reg (jM rfl rfl (j_val rfl (fun _ _ h => r_conv runUnderlying2 runUnderlying59 rfl h) ?_))
 refine j_eqv (u := .int .u64 (u64 z : Nat)) (congrArg (Value.int .u64) (u64_cast z).symm) ?_
 refine jA rfl rfl (j_nil (ej_then (hK1 _ _ _ (CJ.s [(0, _), (1, _), (6, _)] ⟨rfl, rfl, rfl, trivial⟩ (cj_reg (jM rfl rfl (jM rfl rfl (jM rfl rfl ?_))))))))
 refine j_callB (D' := D ++ numB tag (u64 z)) (Fr.refl _ _ w) h call124 rfl rfl (fun w1 hf hB => uint64_c B w1 bb D _ _ ht (u64_lt z) hB hl) fun v w2 hB2 hF2 => ?_
 refine j_nil ?_
 refine ?_
 exact ej_end0 results122 fun w' hH hf => ⟨hB2.fr hf, frQ hF2 hf⟩
def optB (k n : Nat) : List Nat := if n = 0 then [] else numB k n
theorem optB_len {k n : Nat} (h1 : k < 1048576) (h2 : n < 18446744073709551616) : (optB k n).length ≤ 20 := by
 unfold optB; split
 ·simp
 ·exact numB_len h1 h2
theorem int64Opt_c (B : Nat) (w : World) (bb : Nat) (D : List Nat) (tag : Nat) (z : Int) (ht : tag < 1048576) (hz : IntKind.i64.wrap z = z) (h : Bf B w bb D) (hl : D.length + 20 ≤ 100000000000) :
  Calls Tryz.prog 119 #[ptr bb, .int .i64 (tag : Nat), .int .i64 z] w (Ret fun _ w' => Bf B w' bb (D ++ optB tag (u64 z)) ∧ Fr B wE w w') := by
 refine startJ (args := [_, _, _]) [(0, _), (1, _), (2, _)] 0 [] [] func119 rfl ntmps119 rfl rfl .nil ?_
 refine cj_seqF fun K1 hK1 => cj_seqF fun K2 hK2 => cj_reg (jM rfl rfl (j_val rfl (fun _ _ h => r_eql rfl rfl h) (j_nil (ej_then (hK2 _ _ _ (CJ.s [(0, _), (1, _), (2, _), (7, _)] ⟨rfl, rfl, rfl, rfl, trivial⟩ ?_))))))
 refine cj_dec rfl (fun h7 => ?_) (fun h7 => ?_)
 ·refine cj_ret (ej_then_ret (?_))
  exact ej_ret0 results119 fun w' hH hf => ⟨by rw [optB, if_pos ((u64_zero hz).2 h7), List.append_nil]; exact h.fr hf, hf.quiet _ _⟩
 ·refine cj_skip (ej_then (hK1 _ _ _ (CJ.s [(0, _), (1, _), (2, _)] ⟨rfl, rfl, rfl, trivial⟩ (cj_reg (jM rfl rfl (jM rfl rfl (jM rfl rfl ?_)))))))
  refine j_callB (D' := D ++ numB tag (u64 z)) (Fr.refl _ _ w) h call122 rfl rfl (fun w1 hf hB => int64_c B w1 bb D _ _ ht hB hl) fun v w2 hB2 hF2 => ?_
  refine j_nil ?_
  refine ?_
  exact ej_end0 results119 fun w' hH hf => ⟨by rw [optB, if_neg (fun h0 => h7 ((u64_zero hz).1 h0))]; exact hB2.fr hf, frQ hF2 hf⟩
theorem uint64Opt_c (B : Nat) (w : World) (bb : Nat) (D : List Nat) (tag n : Nat) (ht : tag < 1048576) (hn : n < 18446744073709551616) (h : Bf B w bb D) (hl : D.length + 20 ≤ 100000000000) :
  Calls Tryz.prog 129 #[ptr bb, .int .i64 (tag : Nat), .int .u64 (n : Nat)] w (Ret fun _ w' => Bf B w' bb (D ++ optB tag n) ∧ Fr B wE w w') := by
 refine startJ (args := [_, _, _]) [(0, _), (1, _), (2, _)] 0 [] [] func129 rfl ntmps129 rfl rfl .nil ?_
 refine cj_seqF fun K1 hK1 => cj_seqF fun K2 hK2 => cj_reg (jM rfl rfl (j_val rfl (fun _ _ h => r_eql rfl rfl h) (j_nil (ej_then (hK2 _ _ _ (CJ.s [(0, _), (1, _), (2, _), (7, _)] ⟨rfl, rfl, rfl, rfl, trivial⟩ ?_))))))
 refine cj_dec rfl (fun h7 => ?_) (fun h7 => ?_)
 ·refine cj_ret (ej_then_ret (?_))
  exact ej_ret0 results129 fun w' hH hf => ⟨by rw [optB, if_pos (by omega), List.append_nil]; exact h.fr hf, hf.quiet _ _⟩
 ·refine cj_skip (ej_then (hK1 _ _ _ (CJ.s [(0, _), (1, _), (2, _)] ⟨rfl, rfl, rfl, trivial⟩ (cj_reg (jM rfl rfl (jM rfl rfl (jM rfl rfl ?_)))))))
  refine j_callB (D' := D ++ numB tag n) (Fr.refl _ _ w) h call124 rfl rfl (fun w1 hf hB => uint64_c B w1 bb D _ _ ht hn hB hl) fun v w2 hB2 hF2 => ?_
  refine j_nil ?_
  refine ?_
  exact ej_end0 results129 fun w' hH hf => ⟨by rw [optB, if_neg (by omega)]; exact hB2.fr hf, frQ hF2 hf⟩
theorem bool_c (B : Nat) (w : World) (bb : Nat) (D : List Nat) (tag : Nat) (h : Bf B w bb D) (ht : tag < 1048576) (hl : D.length + 20 ≤ 100000000000) :
  Calls Tryz.prog 131 #[ptr bb, .int .i64 (tag : Nat), .bool true] w (Ret fun _ w' => Bf B w' bb (D ++ numB tag 1) ∧ Fr B wE w w') := by
 refine startJ (args := [_, _, _]) [(0, _), (1, _), (2, _)] 0 [] [] func131 rfl ntmps131 rfl rfl .nil ?_
 refine cj_seqF fun K1 hK1 => cj_reg (jM rfl rfl (j_nil (ej_then (hK1 _ _ _ (CJ.s [(0, _), (1, _), (6, _)] ⟨rfl, rfl, rfl, trivial⟩ ?_)))))
 refine cj_if_t rfl ?_
 refine cj_reg (jM rfl rfl (jM rfl rfl ?_))
 refine j_callB (D' := D ++ numB tag 1) (Fr.refl _ _ w) h call124 rfl rfl (fun w1 hf hB => uint64_c B w1 bb D tag 1 ht (by omega) hB hl) fun v w2 hB2 hF2 => ?_
 refine j_nil ?_
 refine ?_
 exact ej_end0 results131 fun w' hH hf => ⟨hB2.fr hf, frQ hF2 hf⟩
def bnat (b : Bool) : Nat := if b then 1 else 0
theorem boolOpt_c (B : Nat) (w : World) (bb : Nat) (D : List Nat) (tag : Nat) (b : Bool) (ht : tag < 1048576) (h : Bf B w bb D) (hl : D.length + 20 ≤ 100000000000) :
  Calls Tryz.prog 130 #[ptr bb, .int .i64 (tag : Nat), .bool b] w (Ret fun _ w' => Bf B w' bb (D ++ optB tag (bnat b)) ∧ Fr B wE w w') := by
 refine startJ (args := [_, _, _]) [(0, _), (1, _), (2, _)] 0 [] [] func130 rfl ntmps130 rfl rfl .nil ?_
 refine cj_seqF fun K1 hK1 => cj_seqF fun K2 hK2 => cj_reg (jM rfl rfl (j_val rfl (fun _ _ h => r_not rfl h) (j_nil (ej_then (hK2 _ _ _ (CJ.s [(0, _), (1, _), (2, _), (7, _)] ⟨rfl, rfl, rfl, rfl, trivial⟩ ?_))))))
 refine cj_if rfl (fun h7 => ?_) (fun h7 => ?_)
 ·obtain rfl : b = false := by simpa using h7
  refine cj_ret (ej_then_ret (?_))
  exact ej_ret0 results130 fun w' hH hf => ⟨by rw [show optB tag (bnat false) = [] from rfl, List.append_nil]; exact h.fr hf, hf.quiet _ _⟩
 ·obtain rfl : b = true := by simpa using h7
  refine cj_skip (ej_then (hK1 _ _ _ (CJ.s [(0, _), (1, _), (2, _)] ⟨rfl, rfl, rfl, trivial⟩ (cj_reg (jM rfl rfl (jM rfl rfl (jM rfl rfl ?_)))))))
  refine j_callB (D' := D ++ numB tag 1) (Fr.refl _ _ w) h call131 rfl rfl (fun w1 hf hB => bool_c B w1 bb D _ hB ht hl) fun v w2 hB2 hF2 => ?_
  refine j_nil ?_
  refine ?_
  exact ej_end0 results130 fun w' hH hf => ⟨by rw [show optB tag (bnat true) = numB tag 1 from rfl]; exact hB2.fr hf, frQ hF2 hf⟩
theorem fc_string {s : ByteArray} (w : World) : (Builtin.firstCells 1 s.size (.string s)).run Tryz.prog w = .ok ((sB s).map bv).toArray w := by
 have h : s.extract 0 s.size = s := by simp
 simp only [Builtin.firstCells, h]
 have h2 : (s.data.map fun b => (Value.int .u8 (b.toNat : Int))) = ((sB s).map bv).toArray := by
  apply Array.toList_inj.1
  simp [sB, Function.comp_def]
 rw [← h2]; rfl
theorem string_c (B : Nat) (w : World) (bb : Nat) (D : List Nat) (tag : Nat) (s : ByteArray) (ht : tag < 1048576) (h : Bf B w bb D) (hl : D.length + s.size + 20 ≤ 100000000000) :
  Calls Tryz.prog 121 #[ptr bb, .int .i64 (tag : Nat), .string s] w (Ret fun _ w' => Bf B w' bb (D ++ encF (.bys tag (sB s))) ∧ Fr B wE w w') := by
 have hll := lenB_len (len := s.size) ht (by omega)
 refine startJ (args := [_, _, _]) [(0, _), (1, _), (2, _)] 0 [] [] func121 rfl ntmps121 rfl rfl .nil ?_
 refine cj_seqF fun K1 hK1 => cj_reg (jM rfl rfl (jM rfl rfl (jM rfl rfl (j_val rfl (fun _ _ h => r_slen runUnderlying9 rfl h) ?_))))
 refine j_callB (D' := D ++ lenB s.size tag) (Fr.refl _ _ w) h call120 rfl rfl (fun w1 hf hB => length_c B w1 bb D _ _ ht (by omega) hB (by omega)) fun v w2 hB2 hF2 => ?_
 obtain ⟨f, t, u, p, c, tmp, y, h1, h2, h3, h4, h5⟩ := hB2.ex
 refine fun w3 hH3 hf3 => ?_
 refine J.begin ⟨w3, B, wE⟩ _ ok_refl (hpBf hB2.ge (hf3.blk h1 (.inr (by simp))) h4 fun ho => ⟨(h5 ho).1, hf3.blk (h5 ho).2 (.inr (by simp))⟩) ?_
 refine j_nil (ej_then (hK1 _ _ _ (CJ.s [(0, _), (2, _)] ⟨rfl, rfl, trivial⟩ (cj_reg (jM rfl rfl (jM rfl rfl (jN rfl rfl (j_val rfl (fun _ _ h => r_fl (q := 3) (ft := 35) runUnderlying169 rfl sizeOf35 rfl h) (j_valw rfl (fun a w ha hH hf => r_ldH 0 rfl rfl isAgg35 rfl rfl ha hH) (jM rfl rfl ?_))))))))))
 refine j_append 1 rfl h4.hT h4.ho h4.hw runUnderlying35 runUnderlying9 (.inr rfl) el5 rfl rfl rfl h4.sl (lenOf_string s) (fun w1 w2 hH hf k => fc_string w2) (by simp [sB_len]) (by simp [List.all_eq_true, scal]) (by simp; omega) rfl fun y17 p17 c17 q1 q2 q3 q4 => ?_
 refine jN rfl rfl (j_val rfl (fun _ _ h => r_fl (q := 3) (ft := 35) runUnderlying169 rfl sizeOf35 rfl h) ?_)
 refine j_storeN (cs' := (_ :: _ :: _ :: _ :: _)) (H' := [_, _]) 0 rfl rfl rfl rfl sizeOf35 rfl rfl rfl rfl rfl rfl rfl ?_
 refine j_nil ?_
 refine ?_
 refine ej_end0 results121 fun w' hH hf => ?_
 have hD : D ++ encF (.bys tag (sB s)) = (D ++ lenB s.size tag) ++ sB s := by simp [encF, lenB, sB_len]
 have hl : (D ++ lenB s.size tag).length + s.size = ((D ++ lenB s.size tag) ++ sB s).length := by simp [sB_len]; omega
 rw [hl] at hH
 have hO2 : Own tU8 1 y17 p17 ((D ++ lenB s.size tag) ++ sB s).length c17 (((D ++ lenB s.size tag) ++ sB s).map bv) := by
  rw [hl] at q4
  exact ⟨q1, q2, q3, by rw [List.map_append]; exact q4⟩
 rw [hD]
 exact ⟨bfHp (Nat.le_trans h.size (Nat.le_trans hF2.size hf3.size)) h.ge ⟨h2, h3⟩ hO2 (i := 0) (j := 1) hH rfl rfl, frE (frQ hF2 hf3) hf⟩
end Go.Proofs.YtifnhinopjgfaaaGreat
