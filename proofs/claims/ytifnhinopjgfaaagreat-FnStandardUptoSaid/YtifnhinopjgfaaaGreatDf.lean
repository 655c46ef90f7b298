/-
  The specification reads fields. Conditions: the bytes are fields, one behind the other.
-/
import Derived.Test.YtifnhinopjgfaaaGreatDv
namespace Go.Proofs.YtifnhinopjgfaaaGreat
open Go Go.Fw Go.Proofs Go.Proofs.Tryz
abbrev tFld : Nat := 61
def fkey : Fld → Nat
 | .num k _ => k
 | .bys k _ => k
def fwire : Fld → Nat
 | .num _ _ => 0
 | .bys _ _ => 2
def fnum : Fld → Nat
 | .num _ n => n
 | .bys _ _ => 0
def fbytes : Fld → List Nat
 | .num _ _ => []
 | .bys _ B => B
def cFld (q : Fld × Value) : List Value := [.int .i64 (fkey q.1 : Nat), .int .i64 (fwire q.1 : Nat), .int .u64 (fnum q.1 : Nat), q.2]
def fbOK (w : World) (f : Fld) (fb : Value) : Prop := ∃ b o c, fb = .slice (some ⟨b, o, none⟩) (fbytes f).length c ∧ Bys w b o c (fbytes f) ∧ (fbytes f).length ≤ 1000000000000
theorem fbOK.mono {w w' : World} {f : Fld} {fb : Value} (h : fbOK w f fb) (k : ∀ b cs, Blk w b tU8 cs → Blk w' b tU8 cs) : fbOK w' f fb := by
 obtain ⟨b, o, c, h1, h2, h3⟩ := h
 exact ⟨b, o, c, h1, h2.mono k, h3⟩
theorem fbOK.keep {w w' : World} {f : Fld} {fb : Value} (h : fbOK w f fb) (k : Fr 0 [] w w') : fbOK w' f fb := h.mono fun b cs hb => k.blk hb (.inr (by simp))
/-- a message's fields in memory -/
structure Flds (w : World) (lv : Value) (fs : List Fld) : Prop where
 ex : ∃ qs : List (Fld × Value), qs.map (·.1) = fs ∧ OS tFld 4 w lv (qs.flatMap cFld) ∧ ∀ q ∈ qs, fbOK w q.1 q.2
theorem Flds.mono {w w' : World} {lv : Value} {fs : List Fld} (h : Flds w lv fs) (k1 : ∀ b cs, Blk w b tFld cs → Blk w' b tFld cs) (k2 : ∀ b cs, Blk w b tU8 cs → Blk w' b tU8 cs) : Flds w' lv fs := by
 obtain ⟨qs, h1, h2, h3⟩ := h.ex
 exact ⟨qs, h1, h2.mono k1, fun q hq => (h3 q hq).mono k2⟩
theorem Flds.keep {w w' : World} {lv : Value} {fs : List Fld} (h : Flds w lv fs) (k : Fr 0 [] w w') : Flds w' lv fs := by
 obtain ⟨qs, h1, h2, h3⟩ := h.ex
 exact ⟨qs, h1, h2.mono fun b cs hb => k.blk hb (.inr (by simp)), fun q hq => (h3 q hq).keep k⟩
theorem tag_shr {k t : Nat} (ht : t < 8) : ((8 * k + t : Nat) : Int).fdiv (2 ^ (min 3 IntKind.u64.bits)) = (k : Int) := by
 have : min 3 IntKind.u64.bits = 3 := rfl
 rw [this, Int.fdiv_eq_ediv_of_nonneg _ (by omega)]
 simp; omega
theorem tag_and {k t : Nat} (hk : k < 1048576) (ht : t < 8) : IntKind.u64.wrap ((BitVec.ofInt 64 ((8 * k + t : Nat) : Int) &&& BitVec.ofInt 64 7).toNat : Nat) = (t : Int) := by
 have h1 : (BitVec.ofInt 64 ((8 * k + t : Nat) : Int)).toNat = 8 * k + t := by
  rw [BitVec.ofInt_natCast, BitVec.toNat_ofNat]; exact Nat.mod_eq_of_lt (by omega)
 have h2 : (BitVec.ofInt 64 (7 : Int)).toNat = 7 := rfl
 rw [BitVec.toNat_and, h1, h2]
 have h3 : (8 * k + t) &&& 7 = (8 * k + t) % 2 ^ 3 := Nat.and_two_pow_sub_one_eq_mod _ 3
 rw [h3]
 have h4 : (8 * k + t) % 2 ^ 3 = t := by omega
 rw [h4]; exact wrapU (by omega)
/-- a field's bytes: its tag, and what stands behind -/
def ftail : Fld → List Nat
 | .num _ n => vint n
 | .bys _ B => vint B.length ++ B
theorem encF_tag (f : Fld) : encF f = vint (8 * fkey f + fwire f) ++ ftail f := by
 cases f <;> simp [encF, fkey, fwire, ftail]
theorem fldKey {f : Fld} (h : FldOK f) : fkey f < 1048576 := by
 cases f with
 | num k n => exact h.ok.1
 | bys k B => exact h.ok.1
set_option maxHeartbeats 1000000 in
theorem fields_c (w : World) (b o c : Nat) (fs : List Fld) (hfs : ∀ f ∈ fs, FldOK f) (h : Bys w b o c (encFs fs)) (hc : (encFs fs).length ≤ 1000000000000) (hl : fs.length ≤ 10000000000) :
  Calls Tryz.prog 43 #[.slice (some ⟨b, o, none⟩) (encFs fs).length c] w (Ret fun v w' => (∃ lv, v = .tuple #[lv, .bool true] ∧ Flds w' lv fs) ∧ Fr 0 [] w w') := by
 refine startJ (args := [_]) [(0, _)] 0 [] [] func43 rfl ntmps43 rfl rfl .nil ?_
 refine cj_seqF fun K1 hK1 => cj_reg (jA rfl rfl (jA rfl rfl (j_nil (ej_then (hK1 _ _ _ (CJ.s [(0, _)] ⟨rfl, trivial⟩ (cj_seqF fun K2 hK2 => cj_reg (jA rfl rfl (j_nil (ej_then (hK2 _ _ _ (CJ.s [(0, _), (4, _)] ⟨rfl, rfl, trivial⟩ (cj_seqF fun K3 hK3 => ?_)))))))))))))
 refine cj_block ?_
 -- LOOP 0 live [0, 4]
 refine cj_loop (σ := Nat × Nat × Nat × List (Fld × Value) × Ent × Option Addr × Nat) (fun s => [(0, .slice (some ⟨b, s.2.1, none⟩) (encFs (fs.drop s.1)).length s.2.2.1), (4, .slice s.2.2.2.2.2.1 s.1 s.2.2.2.2.2.2)]) (fun s => [s.2.2.2.2.1])
  (fun s _ => s.1 ≤ fs.length ∧ Bys w b s.2.1 s.2.2.1 (encFs (fs.drop s.1)) ∧ (encFs (fs.drop s.1)).length ≤ 1000000000000 ∧ s.2.2.2.1.map (·.1) = fs.take s.1 ∧ Own tFld 4 s.2.2.2.2.1 s.2.2.2.2.2.1 s.1 s.2.2.2.2.2.2 (s.2.2.2.1.flatMap cFld) ∧ ∀ q ∈ s.2.2.2.1, fbOK w q.1 q.2) (fun s => fs.length - s.1)
  (0, o, c, [], nilE tFld, none, 0) ⟨rfl, rfl, trivial⟩ (fun w' hH hf => ⟨Hp.off .nil, Nat.zero_le _, h, hc, by simp, Own.nil, by simp⟩) ?_
 rintro ⟨k, o1, c1, qs, y, p, cc⟩ w1 ⟨hk, hB, hc1, hqs, hO, hqok⟩ hf1 hH1 KL hKL
 have hk : k ≤ fs.length := hk
 have hB : Bys w b o1 c1 (encFs (fs.drop k)) := hB
 have hc1 : (encFs (fs.drop k)).length ≤ 1000000000000 := hc1
 have hqs : qs.map (·.1) = fs.take k := hqs
 have hO : Own tFld 4 y p k cc (qs.flatMap cFld) := hO
 have hqok : ∀ q ∈ qs, fbOK w q.1 q.2 := hqok
 refine C.begin _ [y] hf1 hH1 ?_
 refine CJ.s [(0, .slice (some ⟨b, o1, none⟩) (encFs (fs.drop k)).length c1), (4, .slice p k cc)] ⟨rfl, rfl, trivial⟩ (cj_seqF fun K4 hK4 => cj_seqF fun K5 hK5 => cj_reg (jM rfl rfl (j_val rfl (fun _ _ h => r_len runUnderlying35 rfl h) (j_val rfl (fun _ _ h => r_gtr rfl rfl h) (j_nil (ej_then (hK5 _ _ _ (CJ.s [(0, _), (4, _), (12, _)] ⟨rfl, rfl, rfl, trivial⟩ ?_))))))))
 refine cj_dec rfl (fun h12 => ?_) (fun h12 => ?_)
 ·have hk' : k < fs.length := by
   rcases Nat.lt_or_ge k fs.length with h | h
   ·exact h
   ·rw [List.drop_eq_nil_of_le h] at h12; simp [encFs] at h12
  have hdr : fs.drop k = fs[k] :: fs.drop (k + 1) := List.drop_eq_getElem_cons hk'
  have hok := hfs _ (List.getElem_mem hk')
  have hkey := fldKey hok
  have hD : encFs (fs.drop k) = vint (8 * fkey fs[k] + fwire fs[k]) ++ (ftail fs[k] ++ encFs (fs.drop (k + 1))) := by rw [hdr, encFs_cons, encF_tag, List.append_assoc]
  have hB0 := hB
  rw [hD] at hB0
  have hlA : (fbytes fs[k] ++ encFs (fs.drop (k + 1))).length = (fbytes fs[k]).length + (encFs (fs.drop (k + 1))).length := List.length_append
  have hw8 : fwire fs[k] < 8 := by cases fs[k] <;> simp [fwire]
  have hB1 : Bys w b (cut o1 c1 (vint (8 * fkey fs[k] + fwire fs[k])).length 1) (c1 - (vint (8 * fkey fs[k] + fwire fs[k])).length) (ftail fs[k] ++ encFs (fs.drop (k + 1))) := by
   have := hB0.drop (i := (vint (8 * fkey fs[k] + fwire fs[k])).length) (by simp)
   rwa [List.drop_left] at this
  have hc2 : (ftail fs[k] ++ encFs (fs.drop (k + 1))).length ≤ 1000000000000 := by
   have := congrArg List.length hD
   rw [List.length_append] at this
   omega
  have hc1' := hc1
  rw [hD] at hc1'
  refine cj_skip (ej_then (hK4 _ _ _ (CJ.s [(0, _), (4, _)] ⟨rfl, rfl, trivial⟩ (cj_block (cj_seqF fun K6 hK6 => cj_reg (jM rfl rfl ?_))))))
  refine j_callQ (φ := fun v => v = .tuple #[.int .u64 ((8 * fkey fs[k] + fwire fs[k] : Nat) : Int), .slice (some ⟨b, cut o1 c1 (vint (8 * fkey fs[k] + fwire fs[k])).length 1, none⟩) (ftail fs[k] ++ encFs (fs.drop (k + 1))).length (c1 - (vint (8 * fkey fs[k] + fwire fs[k])).length), .bool true]) call44 rfl rfl (fun w2 hH hf => by
    rw [hD]
    exact rvarint_c w2 b o1 c1 _ _ (by omega) (hB0.keep hf) hc1') fun v hv => ?_
  subst hv
  generalize cut o1 c1 (vint (8 * fkey fs[k] + fwire fs[k])).length 1 = o2 at *
  generalize c1 - (vint (8 * fkey fs[k] + fwire fs[k])).length = c2 at *
  refine jM rfl rfl (j_val rfl (fun _ _ h => r_extract rfl rfl h) (j_val rfl (fun _ _ h => r_extract rfl rfl h) (j_val rfl (fun _ _ h => r_extract rfl rfl h) (jA rfl rfl (jA rfl rfl (jA rfl rfl (j_nil (ej_then (hK6 _ _ _ (CJ.s [(4, _), (5, _), (6, _), (7, _)] ⟨rfl, rfl, rfl, rfl, trivial⟩ (cj_seqF fun K7 hK7 => cj_seqF fun K8 hK8 => cj_reg (jM rfl rfl ?_))))))))))))
  refine j_val rfl (fun _ _ h => r_not rfl h) (j_nil (ej_then (hK8 _ _ _ (CJ.s [(4, _), (5, _), (6, _), (7, _), (20, _)] ⟨rfl, rfl, rfl, rfl, rfl, trivial⟩ ?_))))
  refine cj_if_f rfl ?_
  refine cj_skip (ej_then (hK7 _ _ _ (CJ.s [(4, _), (5, _), (6, _), (7, _)] ⟨rfl, rfl, rfl, rfl, trivial⟩ (cj_seqF fun K9 hK9 => cj_reg (jM rfl rfl (j_val rfl (fun _ _ h => r_shr (q := 3) rfl rfl h) ?_))))))
  refine j_eqv (u := .int .u64 (fkey fs[k] : Nat)) (congrArg (Value.int .u64) (tag_shr hw8)) ?_
  refine j_val rfl (fun _ _ h => r_conv runUnderlying59 runUnderlying3 rfl h) ?_
  refine j_eqv (u := .int .i64 (fkey fs[k] : Nat)) (congrArg (Value.int .i64) (wrap64_small (by omega) (by omega))) ?_
  refine jM rfl rfl (j_val rfl (fun _ _ h => r_and rfl rfl h) ?_)
  refine j_eqv (u := .int .u64 (fwire fs[k] : Nat)) (congrArg (Value.int .u64) (tag_and hkey hw8)) ?_
  refine j_val rfl (fun _ _ h => r_conv runUnderlying59 runUnderlying3 rfl h) ?_
  refine j_eqv (u := .int .i64 (fwire fs[k] : Nat)) (congrArg (Value.int .i64) (wrap64_small (by omega) (by omega))) ?_
  refine j_val rfl (fun _ _ h => r_build (cs := [_, _, (.int .u64 0), (.slice none 0 0)]) bt61 rfl rfl h) ?_
  refine j_allocA (zs := [(.int .i64 0), (.int .i64 0), (.int .u64 0), (.slice none 0 0)]) zeroValue61 rfl fun b8 => ?_
  refine j_storeN (cs' := [_, _, _, _]) (H' := [_, _]) 0 rfl rfl rfl rfl sizeOf61 rfl rfl rfl rfl rfl rfl rfl ?_
  refine j_nil (ej_then (hK9 _ _ _ (CJ.s [(4, _), (6, _), (7, _), (8, _)] ⟨rfl, rfl, rfl, rfl, trivial⟩ (cj_seqF fun K10 hK10 => cj_reg (jA rfl rfl (j_nil (ej_then (hK10 _ _ _ (CJ.s [(4, _), (6, _), (7, _), (8, _), (9, _)] ⟨rfl, rfl, rfl, rfl, rfl, trivial⟩ (cj_seqF fun K11 hK11 => cj_reg (jM rfl rfl (jA rfl rfl (j_nil ?_)))))))))))))
  refine ej_then (hK11 _ _ _ (CJ.s [(0, _), (4, _), (7, _), (8, _), (9, _)] ⟨rfl, rfl, rfl, rfl, rfl, trivial⟩ (cj_seqF fun K12 hK12 => cj_seqF fun K13 hK13 => cj_reg (j_val rfl (fun _ _ h => r_fl (q := 1) (ft := 3) runUnderlying61 rfl sizeOf3 rfl h) (j_valw rfl (fun a w ha hH hf => r_ldH 0 rfl rfl isAgg3 rfl rfl ha hH) (j_nil (ej_then (hK13 _ _ _ (CJ.s [(0, _), (4, _), (7, _), (8, _), (9, _), (30, _)] ⟨rfl, rfl, rfl, rfl, rfl, rfl, trivial⟩ (cj_block (cj_seqF fun K14 hK14 => cj_reg (j_val rfl (fun _ _ h => r_eql rfl rfl h) ?_))))))))))))
  refine jA rfl rfl (j_nil (ej_then (hK14 _ _ _ (CJ.s [(0, _), (4, _), (7, _), (8, _), (9, _), (30, _), (31, _)] ⟨rfl, rfl, rfl, rfl, rfl, rfl, rfl, trivial⟩ ?_))))
  refine cj_dec rfl (fun h31 => ?_) (fun h31 => ?_)
  ·obtain ⟨kk, n, hfe⟩ : ∃ kk n, fs[k] = .num kk n := by
    cases hf : fs[k] with
    | num kk n => exact ⟨kk, n, rfl⟩
    | bys kk n => rw [hf] at h31; simp [fwire] at h31
   have hft : ftail fs[k] ++ encFs (fs.drop (k + 1)) = vint n ++ encFs (fs.drop (k + 1)) := by rw [hfe]; rfl
   have hn : n < 18446744073709551616 := by have := hok; rw [hfe] at this; exact this.ok.2
   have hB2 := hB1
   rw [hft] at hB2
   have hB3 : Bys w b (cut o2 c2 (vint n).length 1) (c2 - (vint n).length) (fbytes fs[k] ++ encFs (fs.drop (k + 1))) := by
    have := hB2.drop (i := (vint n).length) (by simp)
    rw [List.drop_left] at this
    rw [hfe]; exact this
   have hc2' := hc2
   rw [hft] at hc2'
   have hc3 : (fbytes fs[k] ++ encFs (fs.drop (k + 1))).length ≤ 1000000000000 := by
    rw [List.length_append] at hc2'
    rw [hfe]; simp only [fbytes, List.nil_append]; omega
   refine cj_reg (jM rfl rfl ?_)
   refine j_callQ (φ := fun v => v = .tuple #[.int .u64 (fnum fs[k] : Nat), .slice (some ⟨b, cut o2 c2 (vint n).length 1, none⟩) (fbytes fs[k] ++ encFs (fs.drop (k + 1))).length (c2 - (vint n).length), .bool true]) call44 rfl rfl (fun w2 hH hf => by
     rw [hft, hfe]
     exact rvarint_c w2 b o2 c2 n _ hn (hB2.keep hf) hc2') fun v hv => ?_
   subst hv
   generalize cut o2 c2 (vint n).length 1 = oS at *
   generalize c2 - (vint n).length = cS at *
   refine jM rfl rfl (j_val rfl (fun _ _ h => r_extract rfl rfl h) (j_val rfl (fun _ _ h => r_extract rfl rfl h) (j_val rfl (fun _ _ h => r_extract rfl rfl h) (j_val rfl (fun _ _ h => r_fl (q := 2) (ft := 59) runUnderlying61 rfl sizeOf59 rfl h) ?_))))
   refine j_storeN (cs' := [_, _, _, _]) (H' := [_, _]) 0 rfl rfl rfl rfl sizeOf59 rfl rfl rfl rfl rfl rfl rfl ?_
   refine jA rfl rfl (jA rfl rfl (j_nil (ej_blk (ej_then (hK12 _ _ _ (CJ.s [(0, _), (4, _), (7, _), (8, _), (9, _)] ⟨rfl, rfl, rfl, rfl, rfl, trivial⟩ (cj_seqF fun K15 hK15 => cj_seqF fun K16 hK16 => cj_reg (jM rfl rfl (j_val rfl (fun _ _ h => r_not rfl h) ?_)))))))))
   refine j_eqv (u := .bool false) rfl ?_
   refine jM rfl rfl (j_gt rfl rfl (jM rfl rfl ?_))
   refine j_eqv (u := .int .u64 ((fbytes fs[k]).length : Nat)) (by first | rfl | (rw [hfe]; rfl)) ?_
   refine j_gt rfl rfl (jM rfl rfl (j_gt rfl rfl (j_val rfl (fun _ _ h => r_len runUnderlying35 rfl h) (j_gt rfl rfl (j_val rfl (fun _ _ h => r_conv runUnderlying3 runUnderlying59 rfl h) ?_)))))
   refine j_eqv (u := .int .u64 ((fbytes fs[k] ++ encFs (fs.drop (k + 1))).length : Nat)) (congrArg (Value.int .u64) (wrapU (by omega))) ?_
   refine j_gt rfl rfl (j_val rfl (fun _ _ h => r_gtr rfl rfl h) ?_)
   refine j_eqv (u := .bool false) (congrArg Value.bool (decide_eq_false (by have := hlA; omega))) ?_
   refine j_val rfl (fun _ _ h => r_pick_f rfl rfl h) (j_nil (ej_then (hK16 _ _ _ (CJ.s [(0, _), (4, _), (8, _), (9, _), (60, _)] ⟨rfl, rfl, rfl, rfl, rfl, trivial⟩ ?_))))
   refine cj_if_f rfl ?_
   refine cj_skip (ej_then (hK15 _ _ _ (CJ.s [(0, _), (4, _), (8, _), (9, _)] ⟨rfl, rfl, rfl, rfl, trivial⟩ (cj_seqF fun K17 hK17 => cj_reg (jM rfl rfl (jM rfl rfl ?_))))))
   refine j_eqv (u := .int .u64 ((fbytes fs[k]).length : Nat)) (by first | rfl | (rw [hfe]; rfl)) ?_
   refine j_val rfl (fun _ _ h => r_slhi (c := cS) (l := (fbytes fs[k] ++ encFs (fs.drop (k + 1))).length) (i := (fbytes fs[k]).length) runUnderlying35 sizeOf5 rfl rfl (by have := hB3.le; have h2 := hlA; omega) h) ?_
   refine j_val rfl (fun _ _ h => r_fl (q := 3) (ft := 35) runUnderlying61 rfl sizeOf35 rfl h) ?_
   refine j_storeN (cs' := [_, _, _, _]) (H' := [_, _]) 0 rfl rfl rfl rfl sizeOf35 rfl rfl rfl rfl rfl rfl rfl ?_
   refine j_nil (ej_then (hK17 _ _ _ (CJ.s [(0, _), (4, _), (8, _), (9, _)] ⟨rfl, rfl, rfl, rfl, trivial⟩ (cj_seqF fun K18 hK18 => cj_reg (jM rfl rfl (jM rfl rfl ?_))))))
   refine j_eqv (u := .int .u64 ((fbytes fs[k]).length : Nat)) (by first | rfl | (rw [hfe]; rfl)) ?_
   refine j_val rfl (fun _ _ h => r_slcut (c := cS) (l := (fbytes fs[k] ++ encFs (fs.drop (k + 1))).length) (i := (fbytes fs[k]).length) runUnderlying35 sizeOf5 rfl rfl (by omega) h) ?_
   refine j_eqv (u := .slice (some ⟨b, cut oS cS (fbytes fs[k]).length 1, none⟩) (encFs (fs.drop (k + 1))).length (cS - (fbytes fs[k]).length)) (by rw [List.length_append, Nat.add_sub_cancel_left]) ?_
   refine jA rfl rfl (j_nil (ej_then (hK18 _ _ _ (CJ.s [(0, _), (4, _), (8, _)] ⟨rfl, rfl, rfl, trivial⟩ (cj_reg (jM rfl rfl (j_valw rfl (fun a w ha hH hf => r_ldA (vs := [_, _, _, _]) 0 rfl rfl isAgg61 sizeOf61 rfl rfl rfl ha hH) ?_)))))))
   refine j_bslice1 runUnderlying52 sizeOf61 zeroValue61 rfl rfl rfl rfl rfl fun b70 => ?_
   refine j_appO 1 rfl hO runUnderlying52 el61 rfl rfl rfl rfl rfl (by omega) rfl fun y71 p71 c71 hO71 => ?_
   refine jA rfl rfl (j_nil (ej_blk (ej_then ?_)))
   have hB4 : Bys w b (cut oS cS (fbytes fs[k]).length 1) (cS - (fbytes fs[k]).length) (encFs (fs.drop (k + 1))) := by
    have := hB3.drop (i := (fbytes fs[k]).length) (by simp)
    rwa [List.drop_left] at this
   have hfb : fbOK w fs[k] (.slice (some ⟨b, oS, none⟩) (fbytes fs[k]).length cS) := ⟨b, oS, cS, rfl, by have := hB3.take (fbytes fs[k]).length; rwa [List.take_left] at this, by omega⟩
   have hOq : Own tFld 4 y71 p71 (k + 1) c71 (qs.flatMap cFld ++ cFld (fs[k], .slice (some ⟨b, oS, none⟩) (fbytes fs[k]).length cS)) := by
    first
    | exact hO71
    | (rw [show cFld (fs[k], .slice (some ⟨b, oS, none⟩) (fbytes fs[k]).length cS) = [.int .i64 (fkey fs[k] : Nat), .int .i64 (fwire fs[k] : Nat), .int .u64 0, .slice (some ⟨b, oS, none⟩) (fbytes fs[k]).length cS] from by simp [cFld, hfe, fnum]]; exact hO71)
   exact fun w' hH hf => hKL (k + 1, _, _, qs ++ [(fs[k], .slice (some ⟨b, oS, none⟩) (fbytes fs[k]).length cS)], y71, p71, c71) _ w' ⟨hk', hB4, by simp only; omega, by simp only [List.map_append, hqs]; rw [← List.take_append_getElem hk']; rfl, by rw [List.flatMap_append, List.flatMap_singleton]; exact hOq, fun q hq => by
    rcases List.mem_append.1 hq with hq | hq
    ·exact hqok q hq
    ·simp at hq; subst hq; exact hfb⟩ hf (hH.drop 0) (by simp only; omega) ⟨rfl, rfl, trivial⟩
  ·obtain ⟨kk, Bb, hfe⟩ : ∃ kk n, fs[k] = .bys kk n := by
    cases hf : fs[k] with
    | num kk n => rw [hf] at h31; simp [fwire] at h31
    | bys kk n => exact ⟨kk, n, rfl⟩
   have hft : ftail fs[k] ++ encFs (fs.drop (k + 1)) = vint (fbytes fs[k]).length ++ (fbytes fs[k] ++ encFs (fs.drop (k + 1))) := by rw [hfe]; simp [ftail, fbytes]
   have hn : (fbytes fs[k]).length < 18446744073709551616 := by have := hok; rw [hfe] at this ⊢; exact this.ok.2.1
   have hB2 := hB1
   rw [hft] at hB2
   have hB3 : Bys w b (cut o2 c2 (vint (fbytes fs[k]).length).length 1) (c2 - (vint (fbytes fs[k]).length).length) (fbytes fs[k] ++ encFs (fs.drop (k + 1))) := by
    have := hB2.drop (i := (vint (fbytes fs[k]).length).length) (by simp)
    rwa [List.drop_left] at this
   have hc2' := hc2
   rw [hft] at hc2'
   have hc3 : (fbytes fs[k] ++ encFs (fs.drop (k + 1))).length ≤ 1000000000000 := by
    rw [List.length_append] at hc2'; omega
   refine cj_seqF fun K19 hK19 => cj_reg (j_val rfl (fun _ _ h => r_eql rfl rfl h) ?_)
   refine j_eqv (u := .bool false) (by simp [hfe, fwire]) ?_
   refine jA rfl rfl (j_nil (ej_then (hK19 _ _ _ (CJ.s [(0, _), (4, _), (7, _), (8, _), (9, _), (30, _), (40, _)] ⟨rfl, rfl, rfl, rfl, rfl, rfl, rfl, trivial⟩ ?_))))
   refine cj_if_f rfl ?_
   refine cj_seqF fun K20 hK20 => cj_reg (j_val rfl (fun _ _ h => r_eql rfl rfl h) ?_)
   refine j_eqv (u := .bool true) (by simp [hfe, fwire]) ?_
   refine jA rfl rfl (j_nil (ej_then (hK20 _ _ _ (CJ.s [(0, _), (4, _), (7, _), (8, _), (9, _), (30, _), (42, _)] ⟨rfl, rfl, rfl, rfl, rfl, rfl, rfl, trivial⟩ ?_))))
   refine cj_if_t rfl ?_
   refine cj_reg (jM rfl rfl ?_)
   refine j_callQ (φ := fun v => v = .tuple #[.int .u64 ((fbytes fs[k]).length : Nat), .slice (some ⟨b, cut o2 c2 (vint (fbytes fs[k]).length).length 1, none⟩) (fbytes fs[k] ++ encFs (fs.drop (k + 1))).length (c2 - (vint (fbytes fs[k]).length).length), .bool true]) call44 rfl rfl (fun w2 hH hf => by
     rw [hft]
     exact rvarint_c w2 b o2 c2 _ _ hn (hB2.keep hf) hc2') fun v hv => ?_
   subst hv
   generalize cut o2 c2 (vint (fbytes fs[k]).length).length 1 = oS at *
   generalize c2 - (vint (fbytes fs[k]).length).length = cS at *
   refine jM rfl rfl (j_val rfl (fun _ _ h => r_extract rfl rfl h) (j_val rfl (fun _ _ h => r_extract rfl rfl h) (j_val rfl (fun _ _ h => r_extract rfl rfl h) (jA rfl rfl (jA rfl rfl (jA rfl rfl (j_nil (ej_blk (ej_then (hK12 _ _ _ (CJ.s [(0, _), (4, _), (7, _), (8, _), (9, _)] ⟨rfl, rfl, rfl, rfl, rfl, trivial⟩ (cj_seqF fun K21 hK21 => cj_seqF fun K22 hK22 => cj_reg (jM rfl rfl ?_)))))))))))))
   refine j_val rfl (fun _ _ h => r_not rfl h) ?_
   refine j_eqv (u := .bool false) rfl ?_
   refine jM rfl rfl (j_gt rfl rfl (jM rfl rfl ?_))
   refine j_eqv (u := .int .u64 ((fbytes fs[k]).length : Nat)) (by first | rfl | (rw [hfe]; rfl)) ?_
   refine j_gt rfl rfl (jM rfl rfl (j_gt rfl rfl (j_val rfl (fun _ _ h => r_len runUnderlying35 rfl h) (j_gt rfl rfl (j_val rfl (fun _ _ h => r_conv runUnderlying3 runUnderlying59 rfl h) ?_)))))
   refine j_eqv (u := .int .u64 ((fbytes fs[k] ++ encFs (fs.drop (k + 1))).length : Nat)) (congrArg (Value.int .u64) (wrapU (by omega))) ?_
   refine j_gt rfl rfl (j_val rfl (fun _ _ h => r_gtr rfl rfl h) ?_)
   refine j_eqv (u := .bool false) (congrArg Value.bool (decide_eq_false (by have := hlA; omega))) ?_
   refine j_val rfl (fun _ _ h => r_pick_f rfl rfl h) (j_nil (ej_then (hK22 _ _ _ (CJ.s [(0, _), (4, _), (8, _), (9, _), (60, _)] ⟨rfl, rfl, rfl, rfl, rfl, trivial⟩ ?_))))
   refine cj_if_f rfl ?_
   refine cj_skip (ej_then (hK21 _ _ _ (CJ.s [(0, _), (4, _), (8, _), (9, _)] ⟨rfl, rfl, rfl, rfl, trivial⟩ (cj_seqF fun K23 hK23 => cj_reg (jM rfl rfl (jM rfl rfl ?_))))))
   refine j_eqv (u := .int .u64 ((fbytes fs[k]).length : Nat)) (by first | rfl | (rw [hfe]; rfl)) ?_
   refine j_val rfl (fun _ _ h => r_slhi (c := cS) (l := (fbytes fs[k] ++ encFs (fs.drop (k + 1))).length) (i := (fbytes fs[k]).length) runUnderlying35 sizeOf5 rfl rfl (by have := hB3.le; have h2 := hlA; omega) h) ?_
   refine j_val rfl (fun _ _ h => r_fl (q := 3) (ft := 35) runUnderlying61 rfl sizeOf35 rfl h) ?_
   refine j_storeN (cs' := [_, _, _, _]) (H' := [_, _]) 0 rfl rfl rfl rfl sizeOf35 rfl rfl rfl rfl rfl rfl rfl ?_
   refine j_nil (ej_then (hK23 _ _ _ (CJ.s [(0, _), (4, _), (8, _), (9, _)] ⟨rfl, rfl, rfl, rfl, trivial⟩ (cj_seqF fun K24 hK24 => cj_reg (jM rfl rfl (jM rfl rfl ?_))))))
   refine j_eqv (u := .int .u64 ((fbytes fs[k]).length : Nat)) (by first | rfl | (rw [hfe]; rfl)) ?_
   refine j_val rfl (fun _ _ h => r_slcut (c := cS) (l := (fbytes fs[k] ++ encFs (fs.drop (k + 1))).length) (i := (fbytes fs[k]).length) runUnderlying35 sizeOf5 rfl rfl (by omega) h) ?_
   refine j_eqv (u := .slice (some ⟨b, cut oS cS (fbytes fs[k]).length 1, none⟩) (encFs (fs.drop (k + 1))).length (cS - (fbytes fs[k]).length)) (by rw [List.length_append, Nat.add_sub_cancel_left]) ?_
   refine jA rfl rfl (j_nil (ej_then (hK24 _ _ _ (CJ.s [(0, _), (4, _), (8, _)] ⟨rfl, rfl, rfl, trivial⟩ (cj_reg (jM rfl rfl (j_valw rfl (fun a w ha hH hf => r_ldA (vs := [_, _, _, _]) 0 rfl rfl isAgg61 sizeOf61 rfl rfl rfl ha hH) ?_)))))))
   refine j_bslice1 runUnderlying52 sizeOf61 zeroValue61 rfl rfl rfl rfl rfl fun b70 => ?_
   refine j_appO 1 rfl hO runUnderlying52 el61 rfl rfl rfl rfl rfl (by omega) rfl fun y71 p71 c71 hO71 => ?_
   refine jA rfl rfl (j_nil (ej_blk (ej_then ?_)))
   have hB4 : Bys w b (cut oS cS (fbytes fs[k]).length 1) (cS - (fbytes fs[k]).length) (encFs (fs.drop (k + 1))) := by
    have := hB3.drop (i := (fbytes fs[k]).length) (by simp)
    rwa [List.drop_left] at this
   have hfb : fbOK w fs[k] (.slice (some ⟨b, oS, none⟩) (fbytes fs[k]).length cS) := ⟨b, oS, cS, rfl, by have := hB3.take (fbytes fs[k]).length; rwa [List.take_left] at this, by omega⟩
   have hOq : Own tFld 4 y71 p71 (k + 1) c71 (qs.flatMap cFld ++ cFld (fs[k], .slice (some ⟨b, oS, none⟩) (fbytes fs[k]).length cS)) := by
    first
    | exact hO71
    | (rw [show cFld (fs[k], .slice (some ⟨b, oS, none⟩) (fbytes fs[k]).length cS) = [.int .i64 (fkey fs[k] : Nat), .int .i64 (fwire fs[k] : Nat), .int .u64 0, .slice (some ⟨b, oS, none⟩) (fbytes fs[k]).length cS] from by simp [cFld, hfe, fnum]]; exact hO71)
   exact fun w' hH hf => hKL (k + 1, _, _, qs ++ [(fs[k], .slice (some ⟨b, oS, none⟩) (fbytes fs[k]).length cS)], y71, p71, c71) _ w' ⟨hk', hB4, by simp only; omega, by simp only [List.map_append, hqs]; rw [← List.take_append_getElem hk']; rfl, by rw [List.flatMap_append, List.flatMap_singleton]; exact hOq, fun q hq => by
    rcases List.mem_append.1 hq with hq | hq
    ·exact hqok q hq
    ·simp at hq; subst hq; exact hfb⟩ hf (hH.drop 0) (by simp only; omega) ⟨rfl, rfl, trivial⟩
 ·have hke : k = fs.length := by
   rcases Nat.lt_or_ge k fs.length with h | h
   ·rw [List.drop_eq_getElem_cons h, encFs_cons, encF_tag] at h12
    have := vint_pos (8 * fkey fs[k] + fwire fs[k])
    simp at h12
    omega
   ·omega
  refine cj_exit (ej_then_exit (ej_then_exit (ej_blk_hit (ej_then (hK3 _ _ _ (CJ.s [(4, _)] ⟨rfl, trivial⟩ (cj_seqF fun K25 hK25 => cj_reg (jM rfl rfl (jA rfl rfl (jA rfl rfl (j_nil (ej_then (hK25 _ _ _ (CJ.s [(2, _), (3, _)] ⟨rfl, rfl, trivial⟩ (cj_ret (?_))))))))))))))))
  exact ej_ret2 results43 rfl rfl fun w' hH hf => ⟨⟨_, rfl, qs, by rw [hqs, hke, List.take_of_length_le (Nat.le_refl _)], hO.os hH (i := 0) rfl, fun q hq => (hqok q hq).keep hf⟩, hf⟩
end Go.Proofs.YtifnhinopjgfaaaGreat
