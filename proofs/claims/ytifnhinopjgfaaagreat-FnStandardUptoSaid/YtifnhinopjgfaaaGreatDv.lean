/-
  The specification reads numbers. Conditions: the bytes begin with such a number.
-/
import Derived.Test.YtifnhinopjgfaaaGreatPq
namespace Go.Fw
open Go
section
variable {P : Program} {n : Nat} {e : Env} {d ty : Nat} {pos : String} {af : Array Edge}
theorem r_mul {t t' : Nat} {x y : Operand} {kd : IntKind} {p q : Int} (hx : ev e x = some (.int kd p)) (hy : ev e y = some (.int kd q)) {a : Act} {w : World} (ha : Sat n e a) :
  (execOp a.eval ⟨some d, .binOp .mul t x y t', ty, pos, af, none⟩).run P w = .ok (.value (.int kd (kd.wrap (p * q)))) w := by (simp only [execOp, ha.ev hx, ha.ev hy]; simp [eqGuard, binOp, Op.intArith])
end
section
variable {P : Program} {n : Nat} {f : Fm} {e : Env} {H : Heap}
/-- a function's three results -/
theorem ej_ret3 {fn : Func} {R : Value → World → Prop} {t s r : Nat} {v u z : Value} (hres : fn.results = #[.tmp t, .tmp s, .tmp r]) (ht : look e t = some v) (hs : look e s = some u) (hr : look e r = some z) (h : ∀ w, Hp f w H → f.ok w → R (.tuple #[v, u, z]) w) :
  EJ (bodyPost P fn (Ret R)) .ret n f e H := fun w hH hf a ha => by
 refine ⟨ha.defs, _, ?_, h w hH hf⟩
 have h1 := ha.has t v ht
 have h2 := ha.has s u hs
 have h3 := ha.has r z hr
 simp only [results, hres]
 simp [Array.getD_eq_getD_getElem?, h1, h2, h3]
end
end Go.Fw
namespace Go.Proofs.YtifnhinopjgfaaaGreat
open Go Go.Fw Go.Proofs Go.Proofs.Tryz
/-- bytes in memory, from a place on -/
structure Bys (w : World) (b o c : Nat) (D : List Nat) : Prop where
 le : D.length ≤ c
 row : ∃ cs, Blk w b tU8 cs ∧ ∀ (j : Nat) d, D[j]? = some d → cs[o + j]? = some (bv d)
theorem Bys.at_ {w : World} {b o c : Nat} {D : List Nat} (h : Bys w b o c D) (j : Nat) (d : Nat) (hd : D[j]? = some d) : w.cell? ⟨b, o + j, none⟩ = some (bv d) := by
 obtain ⟨cs, h1, h2⟩ := h.row
 rw [h1.cell]; exact h2 j d hd
theorem Bys.mono {w w' : World} {b o c : Nat} {D : List Nat} (h : Bys w b o c D) (k : ∀ b cs, Blk w b tU8 cs → Blk w' b tU8 cs) : Bys w' b o c D := by
 obtain ⟨cs, h1, h2⟩ := h.row
 exact ⟨h.le, cs, k _ _ h1, h2⟩
theorem Bys.keep {w w' : World} {b o c : Nat} {D : List Nat} (h : Bys w b o c D) (k : Fr 0 [] w w') : Bys w' b o c D := h.mono fun b cs hb => k.blk hb (.inr (by simp))
theorem Bys.drop {w : World} {b o c : Nat} {D : List Nat} (h : Bys w b o c D) {i : Nat} (hi : i ≤ D.length) : Bys w b (cut o c i 1) (c - i) (D.drop i) := by
 have hc := h.le
 obtain ⟨cs, h1, h2⟩ := h.row
 refine ⟨by simp; omega, cs, h1, fun j d hd => ?_⟩
 rw [List.getElem?_drop] at hd
 have hl := (List.getElem?_eq_some_iff.1 hd).1
 have := h2 _ _ hd
 rw [cut, if_neg (by omega), Nat.mul_one, Nat.add_assoc]; exact this
theorem Bys.take {w : World} {b o c : Nat} {D : List Nat} (h : Bys w b o c D) (i : Nat) : Bys w b o c (D.take i) := by
 obtain ⟨cs, h1, h2⟩ := h.row
 refine ⟨by have := h.le; simp; omega, cs, h1, fun j d hd => h2 j d ?_⟩
 rw [List.getElem?_take] at hd
 split at hd
 ·exact hd
 ·cases hd
theorem vint_drop : ∀ (i n : Nat), i < (vint n).length → (vint n).drop i = vint (n / 128 ^ i)
 | 0, n, _ => by simp
 | i + 1, n, h => by
  by_cases hn : n < 128
  ·rw [vint_lt hn] at h; simp at h
  ·rw [vint_ge hn] at h ⊢
   rw [List.drop_succ_cons, vint_drop i (n / 128) (by simpa using h), Nat.div_div_eq_div_mul, Nat.pow_succ, Nat.mul_comm]
theorem vint_head (m : Nat) : (vint m)[0]? = some (if m < 128 then m else m % 128 + 128) := by
 by_cases h : m < 128
 ·rw [vint_lt h]; simp [h]
 ·rw [vint_ge h]; simp [h]
set_option maxRecDepth 20000 in
theorem and127 : ∀ x : Fin 256, (x.val &&& 127) = x.val % 128 := by decide
theorem bits_low {d : Nat} (h : d < 256) : IntKind.u8.wrap ((BitVec.ofInt 8 (d : Int) &&& BitVec.ofInt 8 127).toNat : Nat) = ((d % 128 : Nat) : Int) := by
 have h1 : (BitVec.ofInt 8 (d : Int)).toNat = d := by
  rw [BitVec.ofInt_natCast, BitVec.toNat_ofNat]; exact Nat.mod_eq_of_lt (by omega)
 have h2 : (BitVec.ofInt 8 (127 : Int)).toNat = 127 := rfl
 rw [BitVec.toNat_and, h1, h2, and127 ⟨d, h⟩]
 simp [IntKind.wrap, IntKind.bits, IntKind.signed]; omega
theorem wrapU {z : Nat} (h : z < 18446744073709551616) : IntKind.u64.wrap (z : Int) = (z : Int) := by simp [IntKind.wrap, IntKind.bits, IntKind.signed]; omega
theorem bits_join {a m i : Nat} (ha : a < 128 ^ i) (hs : m * 128 ^ i + a < 18446744073709551616) : IntKind.u64.wrap ((BitVec.ofInt 64 (a : Int) ||| BitVec.ofInt 64 ((m * 128 ^ i : Nat) : Int)).toNat : Nat) = ((a + m * 128 ^ i : Nat) : Int) := by
 have h1 : (BitVec.ofInt 64 (a : Int)).toNat = a := by
  rw [BitVec.ofInt_natCast, BitVec.toNat_ofNat]; exact Nat.mod_eq_of_lt (by omega)
 have h2 : (BitVec.ofInt 64 ((m * 128 ^ i : Nat) : Int)).toNat = m * 128 ^ i := by
  rw [BitVec.ofInt_natCast, BitVec.toNat_ofNat]; exact Nat.mod_eq_of_lt (by omega)
 rw [BitVec.toNat_or, h1, h2, Nat.or_comm]
 have h3 : (128 : Nat) ^ i = 2 ^ (7 * i) := by rw [Nat.pow_mul]
 have h4 := Nat.two_pow_add_eq_or_of_lt (i := 7 * i) (b := a) (by rw [← h3]; exact ha) m
 have h5 : m * 128 ^ i ||| a = m * 128 ^ i + a := by rw [h3, Nat.mul_comm]; exact h4.symm
 rw [h5, wrapU hs]
 omega
theorem acc_step (n i : Nat) : n % 128 ^ i + n / 128 ^ i % 128 * 128 ^ i = n % 128 ^ (i + 1) := by
 rw [Nat.mod_pow_succ, Nat.mul_comm (128 ^ i)]
theorem mod_le' (n i : Nat) : n / 128 ^ i % 128 * 128 ^ i + n % 128 ^ i ≤ n := by
 have h1 : n / 128 ^ i % 128 * 128 ^ i ≤ n / 128 ^ i * 128 ^ i := Nat.mul_le_mul_right _ (Nat.mod_le _ _)
 have h2 := Nat.div_add_mod n (128 ^ i)
 rw [Nat.mul_comm] at h2
 omega
set_option maxHeartbeats 1000000 in
theorem rvarint_c (w : World) (b o c n : Nat) (R : List Nat) (hn : n < 18446744073709551616) (h : Bys w b o c (vint n ++ R)) (hc : (vint n ++ R).length ≤ 1000000000000) :
  Calls Tryz.prog 44 #[.slice (some ⟨b, o, none⟩) (vint n ++ R).length c] w (Ret fun v w' => v = .tuple #[.int .u64 (n : Nat), .slice (some ⟨b, cut o c (vint n).length 1, none⟩) R.length (c - (vint n).length), .bool true] ∧ Fr 0 [] w w') := by
 have hl10 := vint_len hn
 have hlpos := vint_pos n
 have hle := h.le
 refine startJ (args := [_]) [(0, _)] 0 [] [] Tryz.func44 rfl Tryz.ntmps44 rfl rfl .nil ?_
 refine cj_seqF fun K1 hK1 => cj_reg (jA rfl rfl (jA rfl rfl (jA rfl rfl (j_nil (ej_then (hK1 _ _ _ (CJ.s [(0, _)] ⟨rfl, trivial⟩ (cj_seqF fun K2 hK2 => cj_reg (jA rfl rfl (j_nil (ej_then (hK2 _ _ _ (CJ.s [(0, _), (5, _)] ⟨rfl, rfl, trivial⟩ ?_)))))))))))))
 refine cj_seqF fun K3 hK3 => cj_seqF fun K4 hK4 => cj_reg (jA rfl rfl (j_nil (ej_then (hK4 _ _ _ (CJ.s [(0, _), (5, _), (6, _)] ⟨rfl, rfl, rfl, trivial⟩ (cj_block ?_))))))
 -- LOOP 0 live [0, 5, 6]
 intro w1 hH1 hf1
 refine c_loop (σ := Nat) (fun i => [(0, .slice (some ⟨b, o, none⟩) (vint n ++ R).length c), (5, .int .u64 ((n % 128 ^ i : Nat) : Int)), (6, .int .i64 (i : Nat))]) (fun i w' => i < (vint n).length ∧ Fr 0 [] w w') (fun i => (vint n).length - i) 0 ⟨rfl, by simp [Nat.mod_one]; rfl, rfl, trivial⟩ ⟨hlpos, hf1⟩ ?_
 rintro i w2 ⟨hi, hf2⟩ KL hKL
 have hdr := vint_drop i n hi
 have hd : (vint n ++ R)[i]? = some (if n / 128 ^ i < 128 then n / 128 ^ i else n / 128 ^ i % 128 + 128) := by
  rw [List.getElem?_append_left hi]
  have := vint_head (n / 128 ^ i)
  rw [← hdr, List.getElem?_drop] at this
  simpa using this
 have hlen : (vint n ++ R).length = (vint n).length + R.length := List.length_append
 have hml := mod_le' n i
 have hmlt : n % 128 ^ i < 128 ^ i := Nat.mod_lt _ (Nat.pow_pos (by omega))
 obtain ⟨dg, hdg⟩ : ∃ dg, dg = if n / 128 ^ i < 128 then n / 128 ^ i else n / 128 ^ i % 128 + 128 := ⟨_, rfl⟩
 rw [← hdg] at hd
 have hdg2 : dg < 256 ∧ dg % 128 = n / 128 ^ i % 128 ∧ (dg < 128 ↔ n / 128 ^ i < 128) := by
  subst hdg
  split <;> omega
 have hcell : ∀ w', Fm.ok ⟨w2, 0, []⟩ w' → ∀ (j : Nat) (u : Value), [bv dg][j]? = some u → w'.cell? ⟨b, o + i * 1 + j, none⟩ = some u := fun w' hf j u hu => by
  cases j with
  | zero =>
   simp at hu; subst hu
   have := ((h.keep hf2).keep hf).at_ i dg hd
   simpa using this
  | succ j => simp at hu
 refine C.begin ⟨w2, 0, []⟩ [] ok_refl .nil ?_
 refine CJ.s [(0, .slice (some ⟨b, o, none⟩) (vint n ++ R).length c), (5, .int .u64 ((n % 128 ^ i : Nat) : Int)), (6, .int .i64 (i : Nat))] ⟨rfl, rfl, rfl, trivial⟩ (cj_seqF fun K5 hK5 => cj_seqF fun K6 hK6 => cj_reg (jM rfl rfl (jM rfl rfl (j_val rfl (fun _ _ h => r_len Tryz.runUnderlying35 rfl h) (j_val rfl (fun _ _ h => r_lss rfl rfl h) ?_)))))
 refine j_eqv (u := .bool true) (by simp; omega) ?_
 refine jM rfl rfl (j_gt rfl rfl (jM rfl rfl (j_gt rfl rfl (j_val rfl (fun _ _ h => r_lss rfl rfl h) ?_))))
 refine j_eqv (u := .bool true) (by simp; omega) ?_
 refine j_val rfl (fun _ _ h => r_pick_t rfl rfl h) (j_nil (ej_then (hK6 _ _ _ (CJ.s [(0, _), (5, _), (6, _), (14, _)] ⟨rfl, rfl, rfl, rfl, trivial⟩ ?_))))
 refine cj_if_t rfl ?_
 refine cj_skip (ej_then (hK5 _ _ _ (CJ.s [(0, _), (5, _), (6, _)] ⟨rfl, rfl, rfl, trivial⟩ (cj_seqF fun K7 hK7 => cj_block (cj_seqF fun K8 hK8 => cj_reg (jM rfl rfl (jM rfl rfl (jM rfl rfl (j_val rfl (fun _ _ h => r_idx Tryz.runUnderlying35 Tryz.sizeOf5 rfl rfl (by omega) h) (j_valw rfl (fun a w ha hH hf => r_load Tryz.isAgg5 rfl (hcell w (hf) 0 _ rfl) ha) (j_val rfl (fun _ _ h => r_and rfl rfl h) ?_)))))))))))
 refine j_eqv (u := .int .u8 ((dg % 128 : Nat) : Int)) (congrArg (Value.int .u8) (bits_low hdg2.1)) ?_
 refine j_val rfl (fun _ _ h => r_conv Tryz.runUnderlying5 Tryz.runUnderlying59 rfl h) ?_
 refine j_eqv (u := .int .u64 ((dg % 128 : Nat) : Int)) (congrArg (Value.int .u64) (conv64 (by omega))) ?_
 refine jM rfl rfl (j_val rfl (fun _ _ h => r_mul rfl rfl h) ?_)
 refine j_eqv (u := .int .i64 ((7 * i : Nat) : Int)) (congrArg (Value.int .i64) (by rw [wrap64_small (by omega) (by omega)]; simp)) ?_
 refine j_val rfl (fun _ _ h => r_shl rfl rfl h) ?_
 refine j_eqv (u := .int .u64 ((n / 128 ^ i % 128 * 128 ^ i : Nat) : Int)) (congrArg (Value.int .u64) (by
  rw [hdg2.2.1, show min (7 * i) IntKind.u64.bits = 7 * i from Nat.min_eq_left (by show 7 * i ≤ 64; omega)]
  have e : ((n / 128 ^ i % 128 : Nat) : Int) * 2 ^ (7 * i) = ((n / 128 ^ i % 128 * 128 ^ i : Nat) : Int) := by
   rw [Int.natCast_mul, show (128 : Nat) ^ i = 2 ^ (7 * i) by rw [Nat.pow_mul]]; simp
  rw [e]; exact wrapU (by omega))) ?_
 refine j_val rfl (fun _ _ h => r_or rfl rfl h) ?_
 refine j_eqv (u := .int .u64 ((n % 128 ^ (i + 1) : Nat) : Int)) (congrArg (Value.int .u64) (by rw [← acc_step n i]; exact bits_join hmlt (by omega))) ?_
 refine jA rfl rfl (j_nil (ej_then (hK8 _ _ _ (CJ.s [(0, _), (5, _), (6, _)] ⟨rfl, rfl, rfl, trivial⟩ (cj_seqF fun K9 hK9 => cj_reg (jM rfl rfl (jM rfl rfl (j_val rfl (fun _ _ h => r_idx Tryz.runUnderlying35 Tryz.sizeOf5 rfl rfl (by omega) h) (j_valw rfl (fun a w ha hH hf => r_load Tryz.isAgg5 rfl (hcell w (hf) 0 _ rfl) ha) (j_val rfl (fun _ _ h => r_lss rfl rfl h) (j_nil (ej_then (hK9 _ _ _ (CJ.s [(0, _), (5, _), (6, _), (32, _)] ⟨rfl, rfl, rfl, rfl, trivial⟩ ?_))))))))))))))
 refine cj_dec rfl (fun h32 => ?_) (fun h32 => ?_)
 ·have hm : n / 128 ^ i < 128 := hdg2.2.2.1 (by omega)
  have hil : (vint n).length = i + 1 := by
   have h1 := congrArg List.length hdr
   rw [vint_lt hm] at h1
   simp at h1
   omega
  have hfull : n % 128 ^ (i + 1) = n := Nat.mod_eq_of_lt (by
   rw [Nat.pow_succ]
   exact (Nat.div_lt_iff_lt_mul (Nat.pow_pos (by omega))).1 hm |> fun h => by rwa [Nat.mul_comm] at h)
  refine cj_seqF fun K10 hK10 => ?_
  refine cj_drawI 8 [(0, true), (1, true), (2, true), (3, true), (4, true), (5, true), (6, true), (7, true)] [] rfl (by kernel_rfl) (by kernel_rfl) ?_
  refine dj_val rfl rfl (sub_of [] rfl) (fun _ _ h => r_move rfl h) (dj_val rfl rfl (sub_of [] rfl) (fun _ _ h => r_move rfl h) (dj_val rfl rfl (sub_of [] rfl) (fun _ _ h => r_move rfl h) (dj_val rfl rfl (sub_of [] rfl) (fun _ _ h => r_inc (by omega) rfl rfl h) (dj_val rfl rfl (sub_of [] rfl) (fun _ _ h => r_slcut (i := i + 1) Tryz.runUnderlying35 Tryz.sizeOf5 rfl rfl (by omega) h) (dj_val rfl rfl (sub_of [] rfl) (fun _ _ h => r_assign rfl h) (dj_val rfl rfl (sub_of [] rfl) (fun _ _ h => r_assign rfl h) (dj_val rfl rfl (sub_of [] rfl) (fun _ _ h => r_assign rfl h) (dj_end (ej_then (hK10 _ _ _ (CJ.s [(2, _), (3, _), (4, _)] ⟨rfl, rfl, rfl, trivial⟩ (cj_ret (ej_blk_ret (ej_then_ret (ej_then_ret (ej_blk_ret (ej_then_ret (?_))))))))))))))))))
  exact ej_ret3 Tryz.results44 rfl rfl rfl fun w' hH hf => ⟨by rw [hfull, hil, show (vint n ++ R).length - (i + 1) = R.length by omega], frQ hf2 hf⟩
 ·have hm : ¬ n / 128 ^ i < 128 := fun hc => by have := hdg2.2.2.2 hc; omega
  have hil : i + 1 < (vint n).length := by
   have h1 := congrArg List.length hdr
   rw [vint_ge hm] at h1
   have := vint_pos (n / 128 ^ i / 128)
   simp at h1
   omega
  refine cj_skip (ej_blk (ej_then (hK7 _ _ _ (CJ.s [(0, _), (5, _), (6, _)] ⟨rfl, rfl, rfl, trivial⟩ (cj_reg (jM rfl rfl (j_val rfl (fun _ _ h => r_inc (by omega) rfl rfl h) (jA rfl rfl (j_nil (ej_then ?_))))))))))
  exact fun w' hH hf => hKL (i + 1) _ w' ⟨hil, frQ hf2 hf⟩ (by omega) ⟨rfl, rfl, rfl, trivial⟩
end Go.Proofs.YtifnhinopjgfaaaGreat
