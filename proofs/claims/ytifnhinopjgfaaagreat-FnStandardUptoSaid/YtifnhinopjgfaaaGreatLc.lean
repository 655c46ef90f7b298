/-
  The decoder's labels: each put in by its key. Conditions: the labels ascend by their keys, texts and numbers apart.
-/
import Derived.Test.YtifnhinopjgfaaaGreatLa
namespace Go.Proofs.YtifnhinopjgfaaaGreat
open Go Go.Fw Go.Proofs Go.Proofs.Tryz
/-- messages in memory, one by one -/
theorem Msgs.cells {w : World} {v : Value} {gss : List (List Fld)} (h : Msgs w v gss) : ∃ p c, v = .slice p gss.length c ∧ ∀ (i : Nat) gs, gss[i]? = some gs → ∃ b pl ll cl, p = some ⟨b, 0, none⟩ ∧ Flds w (.slice pl ll cl) gs ∧ ∀ (W : List Nat), W.all (fun t => !Nat.beq t tMsg) = true → ∀ w', Fr 0 W w w' → ∀ (j : Nat) (u : Value), ([.slice pl ll cl, .bool true] : List Value)[j]? = some u → w'.cell? ⟨b, 0 + i * 2 + j, none⟩ = some u := by
 obtain ⟨qs, h1, h2, h3⟩ := h.ex
 obtain ⟨p, l, c, rfl, hl, -, hx⟩ := h2.openF
 have hql : qs.length = gss.length := by have := congrArg List.length h1; simpa using this
 have hfl : (qs.flatMap cMsg).length = qs.length * 2 := flatMap_len (sz := 2) (fun _ => rfl) _
 obtain rfl : l = gss.length := by omega
 refine ⟨p, c, rfl, fun i gs hg => ?_⟩
 have hi := (List.getElem?_eq_some_iff.1 hg).1
 obtain ⟨b, rfl, hcell⟩ := hx (by omega)
 have hq : qs[i]? = some (qs[i]'(by omega)) := List.getElem?_eq_getElem _
 have hqf : (qs[i]'(by omega)).2 = gs := by
  have : (qs.map (·.2))[i]? = some gs := by rw [h1]; exact hg
  rw [List.getElem?_map, hq] at this
  exact Option.some.inj this
 have hok := h3 _ (List.mem_of_getElem? hq)
 rw [hqf] at hok
 obtain ⟨pl, cl, hv, -⟩ := hok.cells
 refine ⟨b, pl, gs.length, cl, rfl, by rw [← hv]; exact hok, fun W hW w' hF j u hu => ?_⟩
 rw [Nat.zero_add]
 refine hcell ⟨w, 0, W⟩ rfl hW w' hF _ u (flatMap_get (c := cMsg) (sz := 2) (fun _ => rfl) hq j u ?_)
 rw [show cMsg (qs[i]'(by omega)) = [(qs[i]'(by omega)).1, .bool true] from rfl, hv]; exact hu
theorem Msgs.mono {w w' : World} {v : Value} {gss : List (List Fld)} (h : Msgs w v gss) (k1 : ∀ b cs, Blk w b tMsg cs → Blk w' b tMsg cs) (k2 : ∀ b cs, Blk w b tFld cs → Blk w' b tFld cs) (k3 : ∀ b cs, Blk w b tU8 cs → Blk w' b tU8 cs) : Msgs w' v gss := by
 obtain ⟨qs, h1, h2, h3⟩ := h.ex
 exact ⟨qs, h1, h2.mono k1, fun q hq => (h3 q hq).mono k2 k3⟩
/-- the label that a message is -/
def LbM (T : List ByteArray) (gs : List Fld) (e : LE) : Prop := T[oneN 1 gs]? = some e.1 ∧ match e.2.1 with
 | some t => oneN 2 gs ≠ 0 ∧ T[oneN 2 gs]? = some t
 | none => oneN 2 gs = 0 ∧ IntKind.i64.wrap (oneN 3 gs : Nat) = e.2.2
structure LbsOK (T : List ByteArray) (gss : List (List Fld)) (es : List LE) : Prop where
 len : es.length = gss.length
 at_ : ∀ (i : Nat) gs e, gss[i]? = some gs → es[i]? = some e → LbM T gs e ∧ gs.length ≤ 10000000000
 kT : ∀ (i : Nat) e t, es[i]? = some e → e.2.1 = some t → KeyOK (foldT (es.take i)) e.1
 kN : ∀ (i : Nat) e, es[i]? = some e → e.2.1 = none → KeyOK (foldN (es.take i)) e.1
 few : es.length ≤ 1000000
abbrev encZ : Int → Value := .int .i64
abbrev wL : List Nat := [tSm, tTx, tNu, tStr, tI64]
theorem SdR.keys {T T2 : Nat} {α : Type} {enc : α → Value} {w : World} {v : Value} {g : List (ByteArray × List α)} (h : SdR T T2 enc w v g) : ∃ ks : List (ByteArray × Value), OS T 2 w v (ks.flatMap cKey) ∧ ks.map (·.1) = g.map (·.1) ∧ ∀ q ∈ ks, ∃ p l c, q.2 = .slice p l c := by
 obtain ⟨qs, h1, h2, h3⟩ := h
 refine ⟨qs.map fun q => (q.1, q.2.1), ?_, by rw [← h1]; simp, fun q hq => ?_⟩
 ·rw [List.flatMap_map]; exact h2
 ·obtain ⟨z, hz, rfl⟩ := List.mem_map.1 hq
  obtain ⟨p, l, c, h4, -⟩ := (h3 z hz).scal
  exact ⟨p, l, c, h4⟩
theorem keys_at {α : Type} {ks : List (ByteArray × Value)} {g : List (ByteArray × List α)} (h : ks.map (·.1) = g.map (·.1)) {i : Nat} {q : ByteArray × Value} (hq : ks[i]? = some q) : ∃ z, g[i]? = some z ∧ z.1 = q.1 := by
 have h1 : (g.map (·.1))[i]? = some q.1 := by rw [← h, List.getElem?_map, hq]; rfl
 rw [List.getElem?_map] at h1
 obtain ⟨z, h2, h3⟩ := Option.map_eq_some_iff.1 h1
 exact ⟨z, h2, h3⟩
theorem Own.same {T sz : Nat} {y : Ent} {p : Option Addr} {l c : Nat} {xs ys : List Value} (h : Own T sz y p l c xs) (k : Own T sz y p l c ys) : xs = ys := by
 obtain ⟨-, -, -, a1, a2, a3⟩ := h
 obtain ⟨-, -, -, b1, -, b3⟩ := k
 rcases a3 with ⟨h1, -, ⟨ex, h2⟩, -⟩ | ⟨h1, -, h2⟩
 ·rcases b3 with ⟨k1, -, ⟨ex', k2⟩, -⟩ | ⟨k1, -, -⟩
  ·rw [h2] at k2
   exact (List.append_inj k2 (by omega)).1
  ·rw [h1] at k1; cases k1
 ·obtain rfl : l = 0 := by omega
  rw [Nat.zero_mul] at a1 b1
  rw [List.eq_nil_of_length_eq_zero a1, List.eq_nil_of_length_eq_zero b1]
theorem permT (a b c d e f z : Ent) (R : Heap) : (a :: b :: c :: d :: z :: e :: f :: R).Perm (c :: d :: b :: a :: e :: f :: z :: R) :=
 (List.Perm.append_left [a, b, c, d] (List.perm_middle (a := z) (l₁ := [e, f]) (l₂ := R)).symm).trans ((List.Perm.cons a (List.perm_middle (a := b) (l₁ := [c, d]) (l₂ := e :: f :: z :: R)).symm).trans (List.perm_middle (a := a) (l₁ := [c, d, b]) (l₂ := e :: f :: z :: R)).symm)
theorem permN (a b c d e f z : Ent) (R : Heap) : (a :: b :: c :: d :: e :: f :: z :: R).Perm (c :: d :: e :: f :: b :: a :: z :: R) :=
 (List.Perm.cons a (List.perm_middle (a := b) (l₁ := [c, d, e, f]) (l₂ := z :: R)).symm).trans (List.perm_middle (a := a) (l₁ := [c, d, e, f, b]) (l₂ := z :: R)).symm
set_option maxHeartbeats 2000000 in
theorem labels_c (w : World) (sb d : Nat) (T : List ByteArray) (stk vals mv : Value) (gss : List (List Fld)) (es : List LE) (hD : Dcd w d T) (hM : Msgs w mv gss) (hS : Blk w sb tSm [stk, vals, .slice none 0 0, .slice none 0 0]) (hs1 : scal stk = true) (hs2 : scal vals = true) (hLO : LbsOK T gss es) (hTl : T.length ≤ 1000000000) :
  Calls Tryz.prog 26 #[ptr d, ptr sb, mv] w (Ret fun _ w' => ∃ vT vN, Blk w' sb tSm [stk, vals, vT, vN] ∧ SdR tTx tStr .string w' vT (foldT es) ∧ SdR tNu tI64 encZ w' vN (foldN es) ∧ KeepX [sb] w w') := by
 obtain ⟨pm, cm, rfl, hcm⟩ := hM.cells
 have hlen := hLO.len
 refine startJ (args := [_, _, _]) [(0, _), (1, _), (2, _)] 0 wL _ func26 rfl ntmps26 rfl rfl (Hp.one hS (Nat.zero_le _) rfl) ?_
 refine cj_seqF fun K1 hK1 => cj_reg (jM rfl rfl (j_val rfl (fun _ _ h => r_len runUnderlying64 rfl h) (jM rfl rfl (j_nil (ej_then (hK1 _ _ _ (CJ.s [(0, _), (1, _), (13, _), (14, _), (15, _)] ⟨rfl, rfl, rfl, rfl, rfl, trivial⟩ (cj_block ?_))))))))
 -- LOOP 0 live [0, 1, 13, 14, 15]
 refine cj_loop (σ := Nat × Ent × Ent × Ent × Ent × Value × Value × Heap) (fun s => [(0, ptr d), (1, ptr sb), (13, .slice pm gss.length cm), (14, .int .i64 (gss.length : Nat)), (15, .int .i64 (s.1 : Nat))])
  (fun s => ⟨sb, tSm, [stk, vals, s.2.2.2.2.2.1, s.2.2.2.2.2.2.1], true, true, none⟩ :: s.2.1 :: s.2.2.1 :: s.2.2.2.1 :: s.2.2.2.2.1 :: s.2.2.2.2.2.2.2)
  (fun s _ => s.1 ≤ gss.length ∧ (∀ w', Hp ⟨w, 0, wL⟩ w' s.2.2.2.2.2.2.2 → Hp ⟨w, 0, wL⟩ w' (restH w [sb])) ∧ Sd ⟨w, 0, wL⟩ tTx tStr .string s.2.2.2.2.2.2.2 s.2.1 s.2.2.1 s.2.2.2.2.2.1 (foldT (es.take s.1)) ∧ Sd ⟨w, 0, wL⟩ tNu tI64 encZ s.2.2.2.2.2.2.2 s.2.2.2.1 s.2.2.2.2.1 s.2.2.2.2.2.2.1 (foldN (es.take s.1))) (fun s => gss.length - s.1)
  (0, nilE tTx, nilE tStr, nilE tNu, nilE tI64, .slice none 0 0, .slice none 0 0, restH w [sb]) ⟨rfl, rfl, rfl, rfl, rfl, trivial⟩ (fun w' hH hf => ⟨Hp.perm (List.perm_middle (l₁ := [nilE tTx, nilE tStr, nilE tNu, nilE tI64])) (Hp.off (Hp.off (Hp.off (Hp.off hH)))), Nat.zero_le _, fun _ h => h, Sd.nil, Sd.nil⟩) ?_
 rintro ⟨i, y, z, yn, zn, vT, vN, R⟩ w1 ⟨hi, hR, hST, hSN⟩ hf1 hH1 KL hKL
 replace hi : i ≤ gss.length := hi
 replace hR : ∀ w', Hp ⟨w, 0, wL⟩ w' R → Hp ⟨w, 0, wL⟩ w' (restH w [sb]) := hR
 replace hST : Sd ⟨w, 0, wL⟩ tTx tStr .string R y z vT (foldT (es.take i)) := hST
 replace hSN : Sd ⟨w, 0, wL⟩ tNu tI64 encZ R yn zn vN (foldN (es.take i)) := hSN
 obtain ⟨pT, cT, qsT, rfl, hOT, -⟩ := hST.own
 obtain ⟨pN, cN, qsN, rfl, hON, -⟩ := hSN.own
 have hfT := foldT_few es i (by omega)
 have hfN := foldN_few es i (by omega)
 have hll := hLO.few
 obtain ⟨gT, hgT⟩ : ∃ gT, gT = foldT (es.take i) := ⟨_, rfl⟩
 obtain ⟨gN, hgN⟩ : ∃ gN, gN = foldN (es.take i) := ⟨_, rfl⟩
 rw [← hgT] at hST hOT hfT
 rw [← hgN] at hSN hON hfN
 rw [← hgT, ← hgN] at hH1
 rw [← hgT, ← hgN]
 obtain ⟨nT, hnT⟩ : ∃ nT, nT = gT.length := ⟨_, rfl⟩
 obtain ⟨nN, hnN⟩ : ∃ nN, nN = gN.length := ⟨_, rfl⟩
 rw [← hnT] at hST hOT
 rw [← hnN] at hSN hON
 rw [← hnT, ← hnN] at hH1
 rw [← hnT, ← hnN]
 have kx : ∀ w', Hp ⟨w, 0, wL⟩ w' R → Fm.ok ⟨w, 0, wL⟩ w' → KeepX [sb] w w' := fun w' hH hf => Hp.keepX (f := ⟨w, 0, wL⟩) (hR w' hH) hf
 have hDk : ∀ w', Hp ⟨w, 0, wL⟩ w' R → Fm.ok ⟨w, 0, wL⟩ w' → Dcd w' d T := fun w' hH hf => hD.mono (fr_row hf rfl) fun b cs hb => (kx w' hH hf).blkT hS rfl hb
 refine C.begin ⟨w, 0, wL⟩ (⟨sb, tSm, [stk, vals, .slice pT nT cT, .slice pN nN cN], true, true, none⟩ :: y :: z :: yn :: zn :: R) hf1 hH1 ?_
 refine CJ.s [(0, ptr d), (1, ptr sb), (13, .slice pm gss.length cm), (14, .int .i64 (gss.length : Nat)), (15, .int .i64 (i : Nat))] ⟨rfl, rfl, rfl, rfl, rfl, trivial⟩ (cj_seqF fun K2 hK2 => cj_reg (j_val rfl (fun _ _ h => r_lss rfl rfl h) (j_nil (ej_then (hK2 _ _ _ (CJ.s [(0, _), (1, _), (13, _), (14, _), (15, _), (16, _)] ⟨rfl, rfl, rfl, rfl, rfl, rfl, trivial⟩ (cj_seqF fun K3 hK3 => ?_)))))))
 refine cj_dec rfl (fun h16 => ?_) (fun h16 => ?_)
 ·have hi' : i < gss.length := by omega
  have hie : i < es.length := by omega
  obtain ⟨bm, pl, ll, cl, rfl, hFg0, hcell0⟩ := hcm i gss[i] (List.getElem?_eq_getElem hi')
  have hcell : ∀ w', Fm.ok ⟨w, 0, wL⟩ w' → ∀ (j : Nat) (u : Value), ([.slice pl ll cl, .bool true] : List Value)[j]? = some u → w'.cell? ⟨bm, 0 + i * 2 + j, none⟩ = some u := fun w' hf => hcell0 wL rfl w' hf
  have hFg : ∀ w', Fm.ok ⟨w, 0, wL⟩ w' → Flds w' (.slice pl ll cl) gss[i] := fun w' hf => hFg0.mono (fr_row hf rfl) (fr_row hf rfl)
  obtain ⟨⟨hkey, hval⟩, hgl⟩ := hLO.at_ i _ _ (List.getElem?_eq_getElem hi') (List.getElem?_eq_getElem hie)
  obtain ⟨ky, hky⟩ : ∃ ky, ky = es[i].1 := ⟨_, rfl⟩
  rw [← hky] at hkey
  refine cj_skip (ej_then (hK3 _ _ _ (CJ.s [(0, _), (1, _), (13, _), (14, _), (15, _)] ⟨rfl, rfl, rfl, rfl, rfl, trivial⟩ (cj_seqF fun K4 hK4 => cj_block (cj_seqF fun K5 hK5 => cj_reg (j_val rfl (fun _ _ h => r_idx runUnderlying64 sizeOf54 rfl rfl (by omega) h) (j_valw rfl (fun a w ha hH hf => r_loadA isAgg54 sizeOf54 rfl rfl (hcell w (hf)) ha) ?_)))))))
  refine j_allocA (zs := [(.slice none 0 0), (.bool false)]) zeroValue54 rfl fun b7 => ?_
  refine j_storeN (cs' := [_, _]) (H' := (_ :: _ :: _ :: _ :: _ :: _ :: _)) 0 rfl rfl rfl rfl sizeOf54 rfl rfl rfl rfl rfl rfl rfl ?_
  refine j_nil (ej_then (hK5 _ _ _ (CJ.s [(0, _), (1, _), (7, _), (13, _), (14, _), (15, _)] ⟨rfl, rfl, rfl, rfl, rfl, rfl, trivial⟩ (cj_seqF fun K6 hK6 => cj_reg (jM rfl rfl (j_valw rfl (fun a w ha hH hf => r_ldA (vs := [_, _]) 0 rfl rfl isAgg54 sizeOf54 rfl rfl rfl ha hH) ?_))))))
  refine j_callQ (φ := fun v => v = .int .u64 (oneN 1 gss[i] : Nat)) call21 rfl rfl (fun w3 hH hf => one_c w3 _ true 1 gss[i] (hFg w3 hf) hgl) fun v hv => ?_
  subst hv
  refine j_callQ (φ := fun v => v = .string ky) call20 rfl rfl (fun w3 hH hf => text_c w3 d _ T _ (hDk w3 (Hp.dropN 6 hH) hf) hkey hTl) fun v hv => ?_
  subst hv
  refine jA rfl rfl (j_nil (ej_then (hK6 _ _ _ (CJ.s [(0, _), (1, _), (7, _), (8, _), (13, _), (14, _), (15, _)] ⟨rfl, rfl, rfl, rfl, rfl, rfl, rfl, trivial⟩ (cj_seqF fun K7 hK7 => cj_seqF fun K8 hK8 => cj_reg (j_valw rfl (fun a w ha hH hf => r_ldA (vs := [_, _]) 0 rfl rfl isAgg54 sizeOf54 rfl rfl rfl ha hH) ?_))))))
  refine j_callQ (φ := fun v => v = .int .u64 (oneN 2 gss[i] : Nat)) call21 rfl rfl (fun w3 hH hf => one_c w3 _ true 2 gss[i] (hFg w3 hf) hgl) fun v hv => ?_
  subst hv
  refine j_val rfl (fun _ _ h => r_neq rfl rfl h) (j_nil (ej_then (hK8 _ _ _ (CJ.s [(0, _), (1, _), (7, _), (8, _), (13, _), (14, _), (15, _), (25, _)] ⟨rfl, rfl, rfl, rfl, rfl, rfl, rfl, rfl, trivial⟩ ?_))))
  refine cj_dec rfl (fun h25 => ?_) (fun h25 => ?_)
  ·obtain ⟨tx, het⟩ : ∃ tx, es[i].2.1 = some tx := by
    cases h : es[i].2.1 with
    | none => rw [h] at hval; exact absurd (by rw [hval.1]; rfl) h25
    | some tx => exact ⟨tx, rfl⟩
   have hval' : T[oneN 2 gss[i]]? = some tx := by rw [het] at hval; exact hval.2
   have hKO := hLO.kT i _ tx (List.getElem?_eq_getElem hie) het
   rw [← hgT, ← hky] at hKO
   have hsT : foldT (es.take (i + 1)) = gAdd gT ky tx := by rw [foldT_step hie, addT, het, hgT, hky]
   have hsN : foldN (es.take (i + 1)) = gN := by rw [foldN_step hie, addN, het, hgN]
   obtain ⟨m, fnd, hm, hm1, hm2, hm3⟩ := hKO.bs
   refine cj_seqF fun K9 hK9 => cj_reg (jM rfl rfl (jN rfl rfl (j_val rfl (fun _ _ h => r_fl (q := 2) (ft := 47) runUnderlying50 rfl sizeOf47 rfl h) (j_valw rfl (fun a w ha hH hf => r_ldH 1 rfl rfl isAgg47 rfl rfl ha hH) (jM rfl rfl ?_)))))
   refine j_callQ (φ := fun v => v = .tuple #[.int .i64 (m : Nat), .bool fnd]) call46 rfl rfl (fun w3 hH hf => by
     obtain ⟨ks, hk1, hk2, hk3⟩ := SdR.keys (hST.toR (i := 2) (j := 3) hH rfl rfl (Hp.dropN 6 hH))
     have hkl : ks.length = gT.length := by have := congrArg List.length hk2; simpa using this
     refine bs1_c w3 _ ks ky m fnd hk1 hk3 (by have := hfT.1; omega) (by omega) (fun i q hq hi => ?_) (fun i q hq hi => ?_) ?_
     ·obtain ⟨z0, hz1, hz2⟩ := keys_at hk2 hq
      rw [← hz2]; exact hm1 _ _ hz1 hi
     ·obtain ⟨z0, hz1, hz2⟩ := keys_at hk2 hq
      rw [← hz2]; exact hm2 _ _ hz1 hi
     ·rcases hm3 with ⟨h1, g0, l, h2, h3⟩ | ⟨h1, h2, -⟩
      ·rw [if_pos h1]
       have hmk : m < ks.length := by rw [hkl, h2, h3]; simp
       refine ⟨ks[m], List.getElem?_eq_getElem hmk, ?_⟩
       obtain ⟨z0, hz1, hz2⟩ := keys_at hk2 (List.getElem?_eq_getElem hmk)
       rw [← hz2]
       rw [h2, h3] at hz1
       simp at hz1
       rw [← hz1]
      ·rw [if_neg (by simp [h1])]; omega) fun v hv => ?_
   subst hv
   refine jM rfl rfl (j_val rfl (fun _ _ h => r_extract rfl rfl h) (j_val rfl (fun _ _ h => r_extract rfl rfl h) (jA rfl rfl (jA rfl rfl (j_nil (ej_then (hK9 _ _ _ (CJ.s [(0, _), (1, _), (7, _), (8, _), (9, _), (10, _), (13, _), (14, _), (15, _)] ⟨rfl, rfl, rfl, rfl, rfl, rfl, rfl, rfl, rfl, trivial⟩ (cj_seqF fun K10 hK10 => cj_seqF fun K11 hK11 => cj_reg (jM rfl rfl (j_val rfl (fun _ _ h => r_not rfl h) (j_nil ?_))))))))))))
   refine ej_then (hK11 _ _ _ (CJ.s [(0, _), (1, _), (7, _), (8, _), (9, _), (13, _), (14, _), (15, _), (36, _)] ⟨rfl, rfl, rfl, rfl, rfl, rfl, rfl, rfl, rfl, trivial⟩ ?_))
   refine cj_if rfl (fun h36 => ?_) (fun h36 => ?_)
   ·obtain ⟨hmg, hall⟩ : m = nT ∧ ∀ q ∈ gT, ltB q.1 ky = true := by
     rcases hm3 with ⟨h1, -⟩ | ⟨-, h2, h3⟩
     ·rw [h1] at h36; cases h36
     ·exact ⟨by omega, h3⟩
    subst hmg
    refine cj_reg (jM rfl rfl (jM rfl rfl (jN rfl rfl (j_val rfl (fun _ _ h => r_fl (q := 2) (ft := 47) runUnderlying50 rfl sizeOf47 rfl h) (j_valw rfl (fun a w ha hH hf => r_ldH 1 rfl rfl isAgg47 rfl rfl ha hH) (jM rfl rfl (jM rfl rfl (j_val rfl (fun _ _ h => r_build (cs := [_, (.slice none 0 0)]) bt96 rfl rfl h) ?_))))))))
    refine j_bslice1 runUnderlying47 sizeOf96 zeroValue96 rfl rfl rfl rfl rfl fun b45 => ?_
    refine j_callE (R := fun w3 v w4 => (∃ y' p' c', v = .slice p' (m + 1) c' ∧ (∀ xs, Own tTx 2 y pT m cT xs → Own tTx 2 y' p' (m + 1) c' (xs ++ [.string ky, .slice none 0 0])) ∧ (y'.on = true → Blk w4 y'.b tTx y'.cs) ∧ (y'.b ∈ offE y ++ [b45] ∨ w3.heap.size ≤ y'.b)) ∧ KeepX (offE y ++ [b45]) w3 w4 ∧ Fr 0 [tTx] w3 w4) call49 rfl rfl (fun w3 hH hf => by
      have := ins1_c w3 y pT m cT (qsT.flatMap cK) ky b45 hOT (fun ho => by have := hH.get (i := 3) rfl ho; rw [hOT.hT] at this; exact this) (hH.get (i := 0) rfl rfl) (fun ho => hH.2.2.1 rfl y (by simp) (by simp [Ent.ex, ho])) (by have := hfT.1; omega)
      refine Calls.mono this fun e w' he => ?_
      cases e with
      | returned v =>
       obtain ⟨⟨y', p', c', h1, h2, h3, h4⟩, h5, h6⟩ := he
       exact ⟨⟨y', p', c', h1, fun xs hx => by rw [Own.same hx hOT]; exact h2, h3, h4⟩, h5, h6⟩
      | panicked c => exact he.elim
      | outgrown => exact he.elim) fun w3 v w4 hH3 hf3 hRr => ?_
    obtain ⟨⟨y', p', c', rfl, hO', hb', hn'⟩, hk34, hfr34⟩ := hRr
    have hf4 : Fm.ok ⟨w, 0, wL⟩ w4 := Fr.trans hf3 hfr34 (.inr ⟨Nat.le_refl _, fun x hx => by simp at hx; subst hx; simp⟩)
    have hOy' := hO' _ hOT
    obtain ⟨l, hl0⟩ : ∃ l : List ByteArray, l = [] := ⟨_, rfl⟩
    obtain ⟨g0, hg0⟩ : ∃ g0, g0 = gT := ⟨_, rfl⟩
    obtain ⟨R2, hR2⟩ : ∃ R2, R2 = z :: R := ⟨_, rfl⟩
    have hRR : ∀ w', Hp ⟨w, 0, wL⟩ w' R2 → Hp ⟨w, 0, wL⟩ w' R := fun w' h => by rw [hR2] at h; exact h.2.2.2
    have hSd : Sd ⟨w, 0, wL⟩ tTx tStr .string R2 y' (nilE tStr) (.slice p' (m + 1) c') (g0 ++ [(ky, l)]) := by
     rw [hR2, hg0, hl0]
     have := Sd.push (y' := y') (p' := p') (c' := c') (key := ky) (qs := qsT) (p := pT) (c := cT) (by rw [← hnT]; exact hST) (fun xs hx => by rw [← hnT] at hx ⊢; exact hO' xs hx)
     rw [← hnT] at this
     exact this
    have hg' : gAdd gT ky tx = g0 ++ [(ky, l ++ [tx])] := by rw [hg0, hl0, gAdd_new hall]; rfl
    have hb0 : g0.length + 1 ≤ 10000000000 ∧ l.length + 1 ≤ 10000000000 := by rw [hg0, hl0]; have := hfT.1; simp; omega
    have hng : m = g0.length := by rw [hg0]; exact hnT
    have hH4 : Hp ⟨w, 0, wL⟩ w4 (⟨b7, tMsg, [.slice pl ll cl, .bool true], true, true, none⟩ :: ⟨sb, tSm, [stk, vals, .slice pT m cT, .slice pN nN cN], true, true, none⟩ :: y' :: nilE tStr :: yn :: zn :: R2) := by
     rw [hR2]
     have h1 := Hp.perm (List.perm_middle (a := y) (l₁ := [_, _, _]) |>.trans (List.Perm.swap _ _ _)) hH3
     have h2 := Hp.off (T := tStr) (Hp.chg h1 hk34 hf3 (fun ho => by have := hb' ho; rw [hOy'.hT]; exact this) hOy'.ho hOT.ho hn' (by rw [hOy'.hT, hOT.hT]) hOT.hw rfl (by rw [hOT.hT]) rfl rfl)
     exact Hp.perm (permT _ _ _ _ _ _ _ _) h2
    clear hO'
    obtain ⟨yb, ycs, p2, c2, c3, rfl, hve, hcl, hOz, hupd, hyl⟩ := hSd.last
    injection hve with e1 e2 e3
    subst e1; subst e3; subst hng
    refine J.begin ⟨w, 0, wL⟩ _ hf4 hH4 ?_
    refine jN rfl rfl (j_val rfl (fun _ _ h => r_fl (q := 2) (ft := 47) runUnderlying50 rfl sizeOf47 rfl h) ?_)
    refine j_storeN (cs' := [_, _, _, _]) (H' := (_ :: _ :: _ :: _ :: _ :: _ :: _)) 1 rfl rfl rfl rfl sizeOf47 rfl rfl rfl rfl rfl rfl rfl ?_
    refine j_nil (ej_then (hK10 _ _ _ (CJ.s [(0, _), (1, _), (7, _), (9, _), (13, _), (14, _), (15, _)] ⟨rfl, rfl, rfl, rfl, rfl, rfl, rfl, trivial⟩ (cj_seqF fun K12 hK12 => ?_))))
    refine cj_drawI 21 [(0, true), (1, true), (2, true), (3, true), (4, true), (5, true), (6, true), (7, true), (8, true), (9, true), (10, true), (11, true), (12, true), (13, true), (14, true), (15, false), (16, false), (17, false), (18, false), (19, true), (20, true), (21, false)] [0, 1, 2] rfl (by kernel_rfl) (by kernel_rfl) ?_
    refine dj_val rfl rfl (sub_of [0, 1, 2] rfl) (fun _ _ h => r_move rfl h) (dj_val rfl rfl (sub_of [0, 1, 2] rfl) (fun _ _ h => r_nil rfl h) (dj_val rfl rfl (sub_of [0, 1, 2] rfl) (fun _ _ h => r_fl (q := 2) (ft := 47) runUnderlying50 rfl sizeOf47 rfl h) (dj_ld rfl rfl (sub_of [0, 1, 2] rfl) (fun a w ha hS => r_ldS 1 rfl rfl isAgg47 rfl rfl ha hS) (dj_val rfl rfl (sub_of [0, 1, 2] rfl) (fun _ _ h => r_move rfl h) (dj_val rfl rfl (sub_of [0, 1, 2] rfl) (fun _ _ h => r_move rfl h) (dj_val rfl rfl (sub_of [0, 1, 2] rfl) (fun _ _ h => r_nil rfl h) (dj_val rfl rfl (sub_of [0, 1, 2] rfl) (fun _ _ h => r_fl (q := 2) (ft := 47) runUnderlying50 rfl sizeOf47 rfl h) (dj_ld rfl rfl (sub_of [0, 1, 2] rfl) (fun a w ha hS => r_ldS 1 rfl rfl isAgg47 rfl rfl ha hS) (dj_val rfl rfl (sub_of [0, 1, 2] rfl) (fun _ _ h => r_move rfl h) (dj_val rfl rfl (sub_of [0, 1, 2] rfl) (fun _ _ h => r_idx runUnderlying47 sizeOf96 rfl rfl (by omega) h) (dj_val rfl rfl (sub_of [0, 1, 2] rfl) (fun _ _ h => r_fl (q := 1) (ft := 27) runUnderlying96 rfl sizeOf27 rfl h) (dj_ld rfl rfl (sub_of [0, 1, 2] rfl) (fun a w ha hS => r_ldS 2 rfl rfl isAgg27 rfl hcl ha hS) (dj_val rfl rfl (sub_of [0, 1, 2] rfl) (fun _ _ h => r_move rfl h) ?_)))))))))))))
    refine dj_ld rfl rfl (sub_of [0, 1, 2] rfl) (fun a w ha hS => r_ldSA (vs := [_, _]) 0 rfl rfl isAgg54 sizeOf54 rfl rfl rfl ha hS) (dj_eff rfl fun K2 hK2 => ?_)
    refine j_callQ (φ := fun v => v = .int .u64 (oneN 2 gss[i] : Nat)) call21 rfl rfl (fun w3 hH hf => one_c w3 _ true 2 gss[i] (hFg w3 hf) hgl) fun v hv => ?_
    subst hv
    refine j_nil (ej_then (hK2 _ _ (.inr (sub_of [0, 1, 2] rfl)) ?_)); clear hK2 K2
    refine dj_eff rfl fun K2 hK2 => ?_
    refine j_callQ (φ := fun v => v = .string tx) call20 rfl rfl (fun w3 hH hf => text_c w3 d _ T _ (hDk w3 (hRR w3 (Hp.dropN 6 hH)) hf) hval' hTl) fun v hv => ?_
    subst hv
    refine j_nil (ej_then (hK2 _ _ (.inr (sub_of [0, 1, 2] rfl)) ?_)); clear hK2 K2
    refine dj_eff rfl fun K2 hK2 => ?_
    refine j_bslice1 runUnderlying27 sizeOf9 zeroValue9 rfl rfl rfl rfl rfl fun b66 => ?_
    refine j_nil (ej_then (hK2 _ _ (.inr (sub_of [1, 2, 3] rfl)) ?_)); clear hK2 K2
    refine dj_eff rfl fun K2 hK2 => ?_
    refine j_appO 3 rfl hOz runUnderlying27 el9 rfl rfl rfl rfl rfl (by omega) rfl fun y67 p67 c67 hO67 => ?_
    refine j_nil (ej_then (hK2 _ _ (.inr (sub_of [0, 1, 2] rfl)) ?_)); clear hK2 K2
    refine dj_val rfl rfl (sub_of [0, 1, 2] rfl) (fun _ _ h => r_idx runUnderlying47 sizeOf96 rfl rfl (by omega) h) (dj_val rfl rfl (sub_of [0, 1, 2] rfl) (fun _ _ h => r_fl (q := 1) (ft := 27) runUnderlying96 rfl sizeOf27 rfl h) (dj_eff rfl fun K2 hK2 => ?_))
    refine j_store (y := ⟨yb, tTx, ycs, true, true, none⟩) (o := 0 + g0.length * 2 + 1) 2 rfl rfl rfl rfl sizeOf27 rfl rfl rfl rfl (Nat.ble_eq_true_of_le (show 0 + g0.length * 2 + 1 + 1 ≤ ycs.length by omega)) ?_
    refine j_nil (ej_then (hK2 _ _ (.inl rfl) ?_)); clear hK2 K2
    refine dj_end (ej_then (hK12 _ _ _ (CJ.s [(0, _), (1, _), (13, _), (14, _), (15, _)] ⟨rfl, rfl, rfl, rfl, rfl, trivial⟩ (cj_exit (ej_then_exit (ej_blk_hit (ej_then (hK4 _ _ _ (CJ.s [(0, _), (1, _), (13, _), (14, _), (15, _)] ⟨rfl, rfl, rfl, rfl, rfl, trivial⟩ (cj_reg (j_val rfl (fun _ _ h => r_inc (by omega) rfl rfl h) (jM rfl rfl (j_nil (ej_then ?_))))))))))))))
    first
    | (exact fun w' hH hf => hKL (i + 1, ⟨yb, tTx, setL ycs (0 + g0.length * 2 + 1) [.slice p67 (l.length + 1) c67], true, true, none⟩, y67, yn, zn, .slice (some ⟨yb, 0, none⟩) (g0.length + 1) _, .slice pN nN cN, _) _ w' ⟨hi', fun w' h => hR w' (hRR w' h), by simp only; rw [hsT, hg']; exact hupd y67 p67 c67 tx hO67, by simp only; rw [hsN]; exact hSN.more hRR⟩ hf (hH.drop 0) (by simp only; omega) ⟨rfl, rfl, rfl, rfl, rfl, trivial⟩)
    | (exact fun w' hH hf => hKL (i + 1, y, z, ⟨yb, tNu, setL ycs (0 + g0.length * 2 + 1) [.slice p110 (l.length + 1) c110], true, true, none⟩, y110, .slice pT nT cT, .slice (some ⟨yb, 0, none⟩) (g0.length + 1) _, _) _ w' ⟨hi', fun w' h => hR w' (hRR w' h), by simp only; rw [hsT]; exact hST.more hRR, by simp only; rw [hsN, hg']; exact hupd y110 p110 c110 _ hO110⟩ hf (hH.drop 0) (by simp only; omega) ⟨rfl, rfl, rfl, rfl, rfl, trivial⟩)
   ·obtain ⟨g0, l, hg0, hmg⟩ : ∃ g0 l, gT = g0 ++ [(ky, l)] ∧ m = g0.length := by
     rcases hm3 with ⟨-, g0, l, h2, h3⟩ | ⟨h1, -⟩
     ·exact ⟨g0, l, h2, h3⟩
     ·rw [h1] at h36; simp at h36
    subst hmg
    have hSd : Sd ⟨w, 0, wL⟩ tTx tStr .string R y z (.slice pT nT cT) (g0 ++ [(ky, l)]) := by rw [← hg0]; exact hST
    have hg' : gAdd gT ky tx = g0 ++ [(ky, l ++ [tx])] := by rw [hg0, gAdd_last]
    have hb0 : g0.length + 1 ≤ 10000000000 ∧ l.length + 1 ≤ 10000000000 := by
     have h1 := hfT.1
     have h2 := hfT.2 (ky, l) (by rw [hg0]; simp)
     rw [hg0] at h1
     simp at h1 h2
     omega
    obtain ⟨yb, ycs, p2, c2, c3, rfl, hve, hcl, hOz, hupd, hyl⟩ := hSd.last
    injection hve with e1 e2 e3
    subst e1; subst e3; subst e2
    have hRR : ∀ w', Hp ⟨w, 0, wL⟩ w' R → Hp ⟨w, 0, wL⟩ w' R := fun _ h => h
    refine cj_skip (ej_then (hK10 _ _ _ (CJ.s [(0, _), (1, _), (7, _), (9, _), (13, _), (14, _), (15, _)] ⟨rfl, rfl, rfl, rfl, rfl, rfl, rfl, trivial⟩ (cj_seqF fun K13 hK13 => ?_))))
    refine cj_drawI 21 [(0, true), (1, true), (2, true), (3, true), (4, true), (5, true), (6, true), (7, true), (8, true), (9, true), (10, true), (11, true), (12, true), (13, true), (14, true), (15, false), (16, false), (17, false), (18, false), (19, true), (20, true), (21, false)] [0, 1, 2] rfl (by kernel_rfl) (by kernel_rfl) ?_
    refine dj_val rfl rfl (sub_of [0, 1, 2] rfl) (fun _ _ h => r_move rfl h) (dj_val rfl rfl (sub_of [0, 1, 2] rfl) (fun _ _ h => r_nil rfl h) (dj_val rfl rfl (sub_of [0, 1, 2] rfl) (fun _ _ h => r_fl (q := 2) (ft := 47) runUnderlying50 rfl sizeOf47 rfl h) (dj_ld rfl rfl (sub_of [0, 1, 2] rfl) (fun a w ha hS => r_ldS 1 rfl rfl isAgg47 rfl rfl ha hS) (dj_val rfl rfl (sub_of [0, 1, 2] rfl) (fun _ _ h => r_move rfl h) (dj_val rfl rfl (sub_of [0, 1, 2] rfl) (fun _ _ h => r_move rfl h) (dj_val rfl rfl (sub_of [0, 1, 2] rfl) (fun _ _ h => r_nil rfl h) (dj_val rfl rfl (sub_of [0, 1, 2] rfl) (fun _ _ h => r_fl (q := 2) (ft := 47) runUnderlying50 rfl sizeOf47 rfl h) (dj_ld rfl rfl (sub_of [0, 1, 2] rfl) (fun a w ha hS => r_ldS 1 rfl rfl isAgg47 rfl rfl ha hS) (dj_val rfl rfl (sub_of [0, 1, 2] rfl) (fun _ _ h => r_move rfl h) (dj_val rfl rfl (sub_of [0, 1, 2] rfl) (fun _ _ h => r_idx runUnderlying47 sizeOf96 rfl rfl (by omega) h) (dj_val rfl rfl (sub_of [0, 1, 2] rfl) (fun _ _ h => r_fl (q := 1) (ft := 27) runUnderlying96 rfl sizeOf27 rfl h) (dj_ld rfl rfl (sub_of [0, 1, 2] rfl) (fun a w ha hS => r_ldS 2 rfl rfl isAgg27 rfl hcl ha hS) (dj_val rfl rfl (sub_of [0, 1, 2] rfl) (fun _ _ h => r_move rfl h) ?_)))))))))))))
    refine dj_ld rfl rfl (sub_of [0, 1, 2] rfl) (fun a w ha hS => r_ldSA (vs := [_, _]) 0 rfl rfl isAgg54 sizeOf54 rfl rfl rfl ha hS) (dj_eff rfl fun K2 hK2 => ?_)
    refine j_callQ (φ := fun v => v = .int .u64 (oneN 2 gss[i] : Nat)) call21 rfl rfl (fun w3 hH hf => one_c w3 _ true 2 gss[i] (hFg w3 hf) hgl) fun v hv => ?_
    subst hv
    refine j_nil (ej_then (hK2 _ _ (.inr (sub_of [0, 1, 2] rfl)) ?_)); clear hK2 K2
    refine dj_eff rfl fun K2 hK2 => ?_
    refine j_callQ (φ := fun v => v = .string tx) call20 rfl rfl (fun w3 hH hf => text_c w3 d _ T _ (hDk w3 (hRR w3 (Hp.dropN 6 hH)) hf) hval' hTl) fun v hv => ?_
    subst hv
    refine j_nil (ej_then (hK2 _ _ (.inr (sub_of [0, 1, 2] rfl)) ?_)); clear hK2 K2
    refine dj_eff rfl fun K2 hK2 => ?_
    refine j_bslice1 runUnderlying27 sizeOf9 zeroValue9 rfl rfl rfl rfl rfl fun b66 => ?_
    refine j_nil (ej_then (hK2 _ _ (.inr (sub_of [1, 2, 3] rfl)) ?_)); clear hK2 K2
    refine dj_eff rfl fun K2 hK2 => ?_
    refine j_appO 3 rfl hOz runUnderlying27 el9 rfl rfl rfl rfl rfl (by omega) rfl fun y67 p67 c67 hO67 => ?_
    refine j_nil (ej_then (hK2 _ _ (.inr (sub_of [0, 1, 2] rfl)) ?_)); clear hK2 K2
    refine dj_val rfl rfl (sub_of [0, 1, 2] rfl) (fun _ _ h => r_idx runUnderlying47 sizeOf96 rfl rfl (by omega) h) (dj_val rfl rfl (sub_of [0, 1, 2] rfl) (fun _ _ h => r_fl (q := 1) (ft := 27) runUnderlying96 rfl sizeOf27 rfl h) (dj_eff rfl fun K2 hK2 => ?_))
    refine j_store (y := ⟨yb, tTx, ycs, true, true, none⟩) (o := 0 + g0.length * 2 + 1) 2 rfl rfl rfl rfl sizeOf27 rfl rfl rfl rfl (Nat.ble_eq_true_of_le (show 0 + g0.length * 2 + 1 + 1 ≤ ycs.length by omega)) ?_
    refine j_nil (ej_then (hK2 _ _ (.inl rfl) ?_)); clear hK2 K2
    refine dj_end (ej_then (hK13 _ _ _ (CJ.s [(0, _), (1, _), (13, _), (14, _), (15, _)] ⟨rfl, rfl, rfl, rfl, rfl, trivial⟩ (cj_exit (ej_then_exit (ej_blk_hit (ej_then (hK4 _ _ _ (CJ.s [(0, _), (1, _), (13, _), (14, _), (15, _)] ⟨rfl, rfl, rfl, rfl, rfl, trivial⟩ (cj_reg (j_val rfl (fun _ _ h => r_inc (by omega) rfl rfl h) (jM rfl rfl (j_nil (ej_then ?_))))))))))))))
    first
    | (exact fun w' hH hf => hKL (i + 1, ⟨yb, tTx, setL ycs (0 + g0.length * 2 + 1) [.slice p67 (l.length + 1) c67], true, true, none⟩, y67, yn, zn, .slice (some ⟨yb, 0, none⟩) (g0.length + 1) _, .slice pN nN cN, _) _ w' ⟨hi', fun w' h => hR w' (hRR w' h), by simp only; rw [hsT, hg']; exact hupd y67 p67 c67 tx hO67, by simp only; rw [hsN]; exact hSN.more hRR⟩ hf (hH.drop 0) (by simp only; omega) ⟨rfl, rfl, rfl, rfl, rfl, trivial⟩)
    | (exact fun w' hH hf => hKL (i + 1, y, z, ⟨yb, tNu, setL ycs (0 + g0.length * 2 + 1) [.slice p110 (l.length + 1) c110], true, true, none⟩, y110, .slice pT nT cT, .slice (some ⟨yb, 0, none⟩) (g0.length + 1) _, _) _ w' ⟨hi', fun w' h => hR w' (hRR w' h), by simp only; rw [hsT]; exact hST.more hRR, by simp only; rw [hsN, hg']; exact hupd y110 p110 c110 _ hO110⟩ hf (hH.drop 0) (by simp only; omega) ⟨rfl, rfl, rfl, rfl, rfl, trivial⟩)
  ·have het : es[i].2.1 = none := by
    cases h : es[i].2.1 with
    | none => rfl
    | some tx => rw [h] at hval; exact absurd (Decidable.byContradiction fun h => h25 h) (fun h => hval.1 (by omega))
   have hval' : IntKind.i64.wrap (oneN 3 gss[i] : Nat) = es[i].2.2 := by rw [het] at hval; exact hval.2
   have hKO := hLO.kN i _ (List.getElem?_eq_getElem hie) het
   rw [← hgN, ← hky] at hKO
   have hsN : foldN (es.take (i + 1)) = gAdd gN ky es[i].2.2 := by rw [foldN_step hie, addN, het, hgN, hky]
   have hsT : foldT (es.take (i + 1)) = gT := by rw [foldT_step hie, addT, het, hgT]
   obtain ⟨m, fnd, hm, hm1, hm2, hm3⟩ := hKO.bs
   refine cj_skip (ej_then (hK7 _ _ _ (CJ.s [(0, _), (1, _), (7, _), (8, _), (13, _), (14, _), (15, _)] ⟨rfl, rfl, rfl, rfl, rfl, rfl, rfl, trivial⟩ (cj_seqF fun K14 hK14 => cj_reg (jM rfl rfl (jN rfl rfl (j_val rfl (fun _ _ h => r_fl (q := 3) (ft := 48) runUnderlying50 rfl sizeOf48 rfl h) (j_valw rfl (fun a w ha hH hf => r_ldH 1 rfl rfl isAgg48 rfl rfl ha hH) (jM rfl rfl ?_)))))))))
   refine j_callQ (φ := fun v => v = .tuple #[.int .i64 (m : Nat), .bool fnd]) call50 rfl rfl (fun w3 hH hf => by
     obtain ⟨ks, hk1, hk2, hk3⟩ := SdR.keys (hSN.toR (i := 4) (j := 5) hH rfl rfl (Hp.dropN 6 hH))
     have hkl : ks.length = gN.length := by have := congrArg List.length hk2; simpa using this
     refine bs2_c w3 _ ks ky m fnd hk1 hk3 (by have := hfN.1; omega) (by omega) (fun i q hq hi => ?_) (fun i q hq hi => ?_) ?_
     ·obtain ⟨z0, hz1, hz2⟩ := keys_at hk2 hq
      rw [← hz2]; exact hm1 _ _ hz1 hi
     ·obtain ⟨z0, hz1, hz2⟩ := keys_at hk2 hq
      rw [← hz2]; exact hm2 _ _ hz1 hi
     ·rcases hm3 with ⟨h1, g0, l, h2, h3⟩ | ⟨h1, h2, -⟩
      ·rw [if_pos h1]
       have hmk : m < ks.length := by rw [hkl, h2, h3]; simp
       refine ⟨ks[m], List.getElem?_eq_getElem hmk, ?_⟩
       obtain ⟨z0, hz1, hz2⟩ := keys_at hk2 (List.getElem?_eq_getElem hmk)
       rw [← hz2]
       rw [h2, h3] at hz1
       simp at hz1
       rw [← hz1]
      ·rw [if_neg (by simp [h1])]; omega) fun v hv => ?_
   subst hv
   refine jM rfl rfl (j_val rfl (fun _ _ h => r_extract rfl rfl h) (j_val rfl (fun _ _ h => r_extract rfl rfl h) (jA rfl rfl (jA rfl rfl (j_nil (ej_then (hK14 _ _ _ (CJ.s [(0, _), (1, _), (7, _), (8, _), (11, _), (12, _), (13, _), (14, _), (15, _)] ⟨rfl, rfl, rfl, rfl, rfl, rfl, rfl, rfl, rfl, trivial⟩ (cj_seqF fun K15 hK15 => cj_seqF fun K16 hK16 => cj_reg (jM rfl rfl (j_val rfl (fun _ _ h => r_not rfl h) (j_nil ?_))))))))))))
   refine ej_then (hK16 _ _ _ (CJ.s [(0, _), (1, _), (7, _), (8, _), (11, _), (13, _), (14, _), (15, _), (80, _)] ⟨rfl, rfl, rfl, rfl, rfl, rfl, rfl, rfl, rfl, trivial⟩ ?_))
   refine cj_if rfl (fun h80 => ?_) (fun h80 => ?_)
   ·obtain ⟨hmg, hall⟩ : m = nN ∧ ∀ q ∈ gN, ltB q.1 ky = true := by
     rcases hm3 with ⟨h1, -⟩ | ⟨-, h2, h3⟩
     ·rw [h1] at h80; cases h80
     ·exact ⟨by omega, h3⟩
    subst hmg
    refine cj_reg (jM rfl rfl (jM rfl rfl (jN rfl rfl (j_val rfl (fun _ _ h => r_fl (q := 3) (ft := 48) runUnderlying50 rfl sizeOf48 rfl h) (j_valw rfl (fun a w ha hH hf => r_ldH 1 rfl rfl isAgg48 rfl rfl ha hH) (jM rfl rfl (jM rfl rfl (j_val rfl (fun _ _ h => r_build (cs := [_, (.slice none 0 0)]) bt99 rfl rfl h) ?_))))))))
    refine j_bslice1 runUnderlying48 sizeOf99 zeroValue99 rfl rfl rfl rfl rfl fun b89 => ?_
    refine j_callE (R := fun w3 v w4 => (∃ y' p' c', v = .slice p' (m + 1) c' ∧ (∀ xs, Own tNu 2 yn pN m cN xs → Own tNu 2 y' p' (m + 1) c' (xs ++ [.string ky, .slice none 0 0])) ∧ (y'.on = true → Blk w4 y'.b tNu y'.cs) ∧ (y'.b ∈ offE yn ++ [b89] ∨ w3.heap.size ≤ y'.b)) ∧ KeepX (offE yn ++ [b89]) w3 w4 ∧ Fr 0 [tNu] w3 w4) call52 rfl rfl (fun w3 hH hf => by
      have := ins2_c w3 yn pN m cN (qsN.flatMap cK) ky b89 hON (fun ho => by have := hH.get (i := 5) rfl ho; rw [hON.hT] at this; exact this) (hH.get (i := 0) rfl rfl) (fun ho => hH.2.2.1 rfl yn (by simp) (by simp [Ent.ex, ho])) (by have := hfN.1; omega)
      refine Calls.mono this fun e w' he => ?_
      cases e with
      | returned v =>
       obtain ⟨⟨y', p', c', h1, h2, h3, h4⟩, h5, h6⟩ := he
       exact ⟨⟨y', p', c', h1, fun xs hx => by rw [Own.same hx hON]; exact h2, h3, h4⟩, h5, h6⟩
      | panicked c => exact he.elim
      | outgrown => exact he.elim) fun w3 v w4 hH3 hf3 hRr => ?_
    obtain ⟨⟨y', p', c', rfl, hO', hb', hn'⟩, hk34, hfr34⟩ := hRr
    have hf4 : Fm.ok ⟨w, 0, wL⟩ w4 := Fr.trans hf3 hfr34 (.inr ⟨Nat.le_refl _, fun x hx => by simp at hx; subst hx; simp⟩)
    have hOy' := hO' _ hON
    obtain ⟨l, hl0⟩ : ∃ l : List Int, l = [] := ⟨_, rfl⟩
    obtain ⟨g0, hg0⟩ : ∃ g0, g0 = gN := ⟨_, rfl⟩
    obtain ⟨R2, hR2⟩ : ∃ R2, R2 = zn :: R := ⟨_, rfl⟩
    have hRR : ∀ w', Hp ⟨w, 0, wL⟩ w' R2 → Hp ⟨w, 0, wL⟩ w' R := fun w' h => by rw [hR2] at h; exact h.2.2.2
    have hSd : Sd ⟨w, 0, wL⟩ tNu tI64 encZ R2 y' (nilE tI64) (.slice p' (m + 1) c') (g0 ++ [(ky, l)]) := by
     rw [hR2, hg0, hl0]
     have := Sd.push (y' := y') (p' := p') (c' := c') (key := ky) (qs := qsN) (p := pN) (c := cN) (by rw [← hnN]; exact hSN) (fun xs hx => by rw [← hnN] at hx ⊢; exact hO' xs hx)
     rw [← hnN] at this
     exact this
    have hg' : gAdd gN ky es[i].2.2 = g0 ++ [(ky, l ++ [es[i].2.2])] := by rw [hg0, hl0, gAdd_new hall]; rfl
    have hb0 : g0.length + 1 ≤ 10000000000 ∧ l.length + 1 ≤ 10000000000 := by rw [hg0, hl0]; have := hfN.1; simp; omega
    have hng : m = g0.length := by rw [hg0]; exact hnN
    have hH4 : Hp ⟨w, 0, wL⟩ w4 (⟨b7, tMsg, [.slice pl ll cl, .bool true], true, true, none⟩ :: ⟨sb, tSm, [stk, vals, .slice pT nT cT, .slice pN m cN], true, true, none⟩ :: y :: z :: y' :: nilE tI64 :: R2) := by
     rw [hR2]
     have h1 := Hp.perm (List.perm_middle (a := yn) (l₁ := [_, _, _, _, _]) |>.trans (List.Perm.swap _ _ _)) hH3
     have h2 := Hp.off (T := tI64) (Hp.chg h1 hk34 hf3 (fun ho => by have := hb' ho; rw [hOy'.hT]; exact this) hOy'.ho hON.ho hn' (by rw [hOy'.hT, hON.hT]) hON.hw rfl (by rw [hON.hT]) rfl rfl)
     exact Hp.perm (permN _ _ _ _ _ _ _ _) h2
    clear hO'
    obtain ⟨yb, ycs, p2, c2, c3, rfl, hve, hcl, hOz, hupd, hyl⟩ := hSd.last
    injection hve with e1 e2 e3
    subst e1; subst e3; subst hng
    refine J.begin ⟨w, 0, wL⟩ _ hf4 hH4 ?_
    refine jN rfl rfl (j_val rfl (fun _ _ h => r_fl (q := 3) (ft := 48) runUnderlying50 rfl sizeOf48 rfl h) ?_)
    refine j_storeN (cs' := [_, _, _, _]) (H' := (_ :: _ :: _ :: _ :: _ :: _ :: _)) 1 rfl rfl rfl rfl sizeOf48 rfl rfl rfl rfl rfl rfl rfl ?_
    refine j_nil (ej_then (hK15 _ _ _ (CJ.s [(0, _), (1, _), (7, _), (11, _), (13, _), (14, _), (15, _)] ⟨rfl, rfl, rfl, rfl, rfl, rfl, rfl, trivial⟩ ?_)))
    refine cj_drawI 20 [(0, true), (1, true), (2, true), (3, true), (4, true), (5, true), (6, true), (7, true), (8, true), (9, true), (10, true), (11, true), (12, true), (13, true), (14, false), (15, true), (16, false), (17, false), (18, true), (19, true), (20, false)] [0, 1, 4] rfl (by kernel_rfl) (by kernel_rfl) ?_
    refine dj_val rfl rfl (sub_of [0, 1, 4] rfl) (fun _ _ h => r_move rfl h) (dj_val rfl rfl (sub_of [0, 1, 4] rfl) (fun _ _ h => r_nil rfl h) (dj_val rfl rfl (sub_of [0, 1, 4] rfl) (fun _ _ h => r_fl (q := 3) (ft := 48) runUnderlying50 rfl sizeOf48 rfl h) (dj_ld rfl rfl (sub_of [0, 1, 4] rfl) (fun a w ha hS => r_ldS 1 rfl rfl isAgg48 rfl rfl ha hS) (dj_val rfl rfl (sub_of [0, 1, 4] rfl) (fun _ _ h => r_move rfl h) (dj_val rfl rfl (sub_of [0, 1, 4] rfl) (fun _ _ h => r_move rfl h) (dj_val rfl rfl (sub_of [0, 1, 4] rfl) (fun _ _ h => r_nil rfl h) (dj_val rfl rfl (sub_of [0, 1, 4] rfl) (fun _ _ h => r_fl (q := 3) (ft := 48) runUnderlying50 rfl sizeOf48 rfl h) (dj_ld rfl rfl (sub_of [0, 1, 4] rfl) (fun a w ha hS => r_ldS 1 rfl rfl isAgg48 rfl rfl ha hS) (dj_val rfl rfl (sub_of [0, 1, 4] rfl) (fun _ _ h => r_move rfl h) (dj_val rfl rfl (sub_of [0, 1, 4] rfl) (fun _ _ h => r_idx runUnderlying48 sizeOf99 rfl rfl (by omega) h) (dj_val rfl rfl (sub_of [0, 1, 4] rfl) (fun _ _ h => r_fl (q := 1) (ft := 46) runUnderlying99 rfl sizeOf46 rfl h) (dj_ld rfl rfl (sub_of [0, 1, 4] rfl) (fun a w ha hS => r_ldS 2 rfl rfl isAgg46 rfl hcl ha hS) (dj_ld rfl rfl (sub_of [0, 1, 4] rfl) (fun a w ha hS => r_ldSA (vs := [_, _]) 0 rfl rfl isAgg54 sizeOf54 rfl rfl rfl ha hS) ?_)))))))))))))
    refine dj_eff rfl fun K2 hK2 => ?_
    refine j_callQ (φ := fun v => v = .int .u64 (oneN 3 gss[i] : Nat)) call21 rfl rfl (fun w3 hH hf => one_c w3 _ true 3 gss[i] (hFg w3 hf) hgl) fun v hv => ?_
    subst hv
    refine j_nil (ej_then (hK2 _ _ (.inr (sub_of [0, 1, 4] rfl)) ?_)); clear hK2 K2
    refine dj_val rfl rfl (sub_of [0, 1, 4] rfl) (fun _ _ h => r_conv runUnderlying59 runUnderlying2 rfl h) ?_
    refine dj_eqv (u := .int .i64 es[i].2.2) (congrArg (Value.int .i64) hval') ?_
    refine dj_eff rfl fun K2 hK2 => ?_
    refine j_bslice1 runUnderlying46 sizeOf2 zeroValue2 rfl rfl rfl rfl rfl fun b109 => ?_
    refine j_nil (ej_then (hK2 _ _ (.inr (sub_of [1, 2, 5] rfl)) ?_)); clear hK2 K2
    refine dj_eff rfl fun K2 hK2 => ?_
    refine j_appO 5 rfl hOz runUnderlying46 el2 rfl rfl rfl rfl rfl (by omega) rfl fun y110 p110 c110 hO110 => ?_
    refine j_nil (ej_then (hK2 _ _ (.inr (sub_of [0, 1, 4] rfl)) ?_)); clear hK2 K2
    refine dj_val rfl rfl (sub_of [0, 1, 4] rfl) (fun _ _ h => r_idx runUnderlying48 sizeOf99 rfl rfl (by omega) h) (dj_val rfl rfl (sub_of [0, 1, 4] rfl) (fun _ _ h => r_fl (q := 1) (ft := 46) runUnderlying99 rfl sizeOf46 rfl h) (dj_eff rfl fun K2 hK2 => ?_))
    refine j_store (y := ⟨yb, tNu, ycs, true, true, none⟩) (o := 0 + g0.length * 2 + 1) 4 rfl rfl rfl rfl sizeOf46 rfl rfl rfl rfl (Nat.ble_eq_true_of_le (show 0 + g0.length * 2 + 1 + 1 ≤ ycs.length by omega)) ?_
    refine j_nil (ej_then (hK2 _ _ (.inl rfl) ?_)); clear hK2 K2
    refine dj_end (ej_blk (ej_then (hK4 _ _ _ (CJ.s [(0, _), (1, _), (13, _), (14, _), (15, _)] ⟨rfl, rfl, rfl, rfl, rfl, trivial⟩ (cj_reg (j_val rfl (fun _ _ h => r_inc (by omega) rfl rfl h) (jM rfl rfl (j_nil (ej_then ?_)))))))))
    first
    | (exact fun w' hH hf => hKL (i + 1, ⟨yb, tTx, setL ycs (0 + g0.length * 2 + 1) [.slice p67 (l.length + 1) c67], true, true, none⟩, y67, yn, zn, .slice (some ⟨yb, 0, none⟩) (g0.length + 1) _, .slice pN nN cN, _) _ w' ⟨hi', fun w' h => hR w' (hRR w' h), by simp only; rw [hsT, hg']; exact hupd y67 p67 c67 tx hO67, by simp only; rw [hsN]; exact hSN.more hRR⟩ hf (hH.drop 0) (by simp only; omega) ⟨rfl, rfl, rfl, rfl, rfl, trivial⟩)
    | (exact fun w' hH hf => hKL (i + 1, y, z, ⟨yb, tNu, setL ycs (0 + g0.length * 2 + 1) [.slice p110 (l.length + 1) c110], true, true, none⟩, y110, .slice pT nT cT, .slice (some ⟨yb, 0, none⟩) (g0.length + 1) _, _) _ w' ⟨hi', fun w' h => hR w' (hRR w' h), by simp only; rw [hsT]; exact hST.more hRR, by simp only; rw [hsN, hg']; exact hupd y110 p110 c110 _ hO110⟩ hf (hH.drop 0) (by simp only; omega) ⟨rfl, rfl, rfl, rfl, rfl, trivial⟩)
   ·obtain ⟨g0, l, hg0, hmg⟩ : ∃ g0 l, gN = g0 ++ [(ky, l)] ∧ m = g0.length := by
     rcases hm3 with ⟨-, g0, l, h2, h3⟩ | ⟨h1, -⟩
     ·exact ⟨g0, l, h2, h3⟩
     ·rw [h1] at h80; simp at h80
    subst hmg
    have hSd : Sd ⟨w, 0, wL⟩ tNu tI64 encZ R yn zn (.slice pN nN cN) (g0 ++ [(ky, l)]) := by rw [← hg0]; exact hSN
    have hg' : gAdd gN ky es[i].2.2 = g0 ++ [(ky, l ++ [es[i].2.2])] := by rw [hg0, gAdd_last]
    have hb0 : g0.length + 1 ≤ 10000000000 ∧ l.length + 1 ≤ 10000000000 := by
     have h1 := hfN.1
     have h2 := hfN.2 (ky, l) (by rw [hg0]; simp)
     rw [hg0] at h1
     simp at h1 h2
     omega
    obtain ⟨yb, ycs, p2, c2, c3, rfl, hve, hcl, hOz, hupd, hyl⟩ := hSd.last
    injection hve with e1 e2 e3
    subst e1; subst e3; subst e2
    have hRR : ∀ w', Hp ⟨w, 0, wL⟩ w' R → Hp ⟨w, 0, wL⟩ w' R := fun _ h => h
    refine cj_skip (ej_then (hK15 _ _ _ (CJ.s [(0, _), (1, _), (7, _), (11, _), (13, _), (14, _), (15, _)] ⟨rfl, rfl, rfl, rfl, rfl, rfl, rfl, trivial⟩ ?_)))
    refine cj_drawI 20 [(0, true), (1, true), (2, true), (3, true), (4, true), (5, true), (6, true), (7, true), (8, true), (9, true), (10, true), (11, true), (12, true), (13, true), (14, false), (15, true), (16, false), (17, false), (18, true), (19, true), (20, false)] [0, 1, 4] rfl (by kernel_rfl) (by kernel_rfl) ?_
    refine dj_val rfl rfl (sub_of [0, 1, 4] rfl) (fun _ _ h => r_move rfl h) (dj_val rfl rfl (sub_of [0, 1, 4] rfl) (fun _ _ h => r_nil rfl h) (dj_val rfl rfl (sub_of [0, 1, 4] rfl) (fun _ _ h => r_fl (q := 3) (ft := 48) runUnderlying50 rfl sizeOf48 rfl h) (dj_ld rfl rfl (sub_of [0, 1, 4] rfl) (fun a w ha hS => r_ldS 1 rfl rfl isAgg48 rfl rfl ha hS) (dj_val rfl rfl (sub_of [0, 1, 4] rfl) (fun _ _ h => r_move rfl h) (dj_val rfl rfl (sub_of [0, 1, 4] rfl) (fun _ _ h => r_move rfl h) (dj_val rfl rfl (sub_of [0, 1, 4] rfl) (fun _ _ h => r_nil rfl h) (dj_val rfl rfl (sub_of [0, 1, 4] rfl) (fun _ _ h => r_fl (q := 3) (ft := 48) runUnderlying50 rfl sizeOf48 rfl h) (dj_ld rfl rfl (sub_of [0, 1, 4] rfl) (fun a w ha hS => r_ldS 1 rfl rfl isAgg48 rfl rfl ha hS) (dj_val rfl rfl (sub_of [0, 1, 4] rfl) (fun _ _ h => r_move rfl h) (dj_val rfl rfl (sub_of [0, 1, 4] rfl) (fun _ _ h => r_idx runUnderlying48 sizeOf99 rfl rfl (by omega) h) (dj_val rfl rfl (sub_of [0, 1, 4] rfl) (fun _ _ h => r_fl (q := 1) (ft := 46) runUnderlying99 rfl sizeOf46 rfl h) (dj_ld rfl rfl (sub_of [0, 1, 4] rfl) (fun a w ha hS => r_ldS 2 rfl rfl isAgg46 rfl hcl ha hS) (dj_ld rfl rfl (sub_of [0, 1, 4] rfl) (fun a w ha hS => r_ldSA (vs := [_, _]) 0 rfl rfl isAgg54 sizeOf54 rfl rfl rfl ha hS) ?_)))))))))))))
    refine dj_eff rfl fun K2 hK2 => ?_
    refine j_callQ (φ := fun v => v = .int .u64 (oneN 3 gss[i] : Nat)) call21 rfl rfl (fun w3 hH hf => one_c w3 _ true 3 gss[i] (hFg w3 hf) hgl) fun v hv => ?_
    subst hv
    refine j_nil (ej_then (hK2 _ _ (.inr (sub_of [0, 1, 4] rfl)) ?_)); clear hK2 K2
    refine dj_val rfl rfl (sub_of [0, 1, 4] rfl) (fun _ _ h => r_conv runUnderlying59 runUnderlying2 rfl h) ?_
    refine dj_eqv (u := .int .i64 es[i].2.2) (congrArg (Value.int .i64) hval') ?_
    refine dj_eff rfl fun K2 hK2 => ?_
    refine j_bslice1 runUnderlying46 sizeOf2 zeroValue2 rfl rfl rfl rfl rfl fun b109 => ?_
    refine j_nil (ej_then (hK2 _ _ (.inr (sub_of [1, 2, 5] rfl)) ?_)); clear hK2 K2
    refine dj_eff rfl fun K2 hK2 => ?_
    refine j_appO 5 rfl hOz runUnderlying46 el2 rfl rfl rfl rfl rfl (by omega) rfl fun y110 p110 c110 hO110 => ?_
    refine j_nil (ej_then (hK2 _ _ (.inr (sub_of [0, 1, 4] rfl)) ?_)); clear hK2 K2
    refine dj_val rfl rfl (sub_of [0, 1, 4] rfl) (fun _ _ h => r_idx runUnderlying48 sizeOf99 rfl rfl (by omega) h) (dj_val rfl rfl (sub_of [0, 1, 4] rfl) (fun _ _ h => r_fl (q := 1) (ft := 46) runUnderlying99 rfl sizeOf46 rfl h) (dj_eff rfl fun K2 hK2 => ?_))
    refine j_store (y := ⟨yb, tNu, ycs, true, true, none⟩) (o := 0 + g0.length * 2 + 1) 4 rfl rfl rfl rfl sizeOf46 rfl rfl rfl rfl (Nat.ble_eq_true_of_le (show 0 + g0.length * 2 + 1 + 1 ≤ ycs.length by omega)) ?_
    refine j_nil (ej_then (hK2 _ _ (.inl rfl) ?_)); clear hK2 K2
    refine dj_end (ej_blk (ej_then (hK4 _ _ _ (CJ.s [(0, _), (1, _), (13, _), (14, _), (15, _)] ⟨rfl, rfl, rfl, rfl, rfl, trivial⟩ (cj_reg (j_val rfl (fun _ _ h => r_inc (by omega) rfl rfl h) (jM rfl rfl (j_nil (ej_then ?_)))))))))
    first
    | (exact fun w' hH hf => hKL (i + 1, ⟨yb, tTx, setL ycs (0 + g0.length * 2 + 1) [.slice p67 (l.length + 1) c67], true, true, none⟩, y67, yn, zn, .slice (some ⟨yb, 0, none⟩) (g0.length + 1) _, .slice pN nN cN, _) _ w' ⟨hi', fun w' h => hR w' (hRR w' h), by simp only; rw [hsT, hg']; exact hupd y67 p67 c67 tx hO67, by simp only; rw [hsN]; exact hSN.more hRR⟩ hf (hH.drop 0) (by simp only; omega) ⟨rfl, rfl, rfl, rfl, rfl, trivial⟩)
    | (exact fun w' hH hf => hKL (i + 1, y, z, ⟨yb, tNu, setL ycs (0 + g0.length * 2 + 1) [.slice p110 (l.length + 1) c110], true, true, none⟩, y110, .slice pT nT cT, .slice (some ⟨yb, 0, none⟩) (g0.length + 1) _, _) _ w' ⟨hi', fun w' h => hR w' (hRR w' h), by simp only; rw [hsT]; exact hST.more hRR, by simp only; rw [hsN, hg']; exact hupd y110 p110 c110 _ hO110⟩ hf (hH.drop 0) (by simp only; omega) ⟨rfl, rfl, rfl, rfl, rfl, trivial⟩)
 ·have hie : i = gss.length := by omega
  have hti : es.take i = es := List.take_of_length_le (by omega)
  refine cj_exit (ej_then_exit (ej_then_exit (ej_blk_hit (?_))))
  exact ej_end0 results26 fun w' hH hf => ⟨_, _, hH.get (i := 0) rfl rfl, by rw [← hti, ← hgT]; exact hST.toR (i := 1) (j := 2) hH rfl rfl (Hp.dropN 5 hH), by rw [← hti, ← hgN]; exact hSN.toR (i := 3) (j := 4) hH rfl rfl (Hp.dropN 5 hH), kx w' (Hp.dropN 5 hH) hf⟩
end Go.Proofs.YtifnhinopjgfaaaGreat
