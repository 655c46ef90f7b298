/-
  impl.Write: the bytes of a profile. Conditions: the profile is plain data in memory, and well formed; its texts are together not too long.
-/
import Derived.Test.YtifnhinopjgfaaaGreatWp
namespace Go.Proofs.YtifnhinopjgfaaaGreat
open Go Go.Fw Go.Proofs Go.Proofs.Tryz
theorem me_Prof (v a : Value) (w : World) : (callMethod (.iface 81 v) encN #[a]).run Tryz.prog w = .ok (.enter 116 #[v, a]) w := by kernel_rfl
theorem All2.all {α : Type} {xs : List α} {Ms : List (List Nat)} {R : α → List Nat → Prop} {φ : List Nat → Prop} (h : All2 xs Ms R) (hp : ∀ a M, a ∈ xs → R a M → φ M) : ∀ M ∈ Ms, φ M := by
 intro M hM
 obtain ⟨i, hi⟩ := List.mem_iff_getElem?.1 hM
 have hl := (List.getElem?_eq_some_iff.1 hi).1
 have ha : xs[i]? = some (xs[i]'(by rw [← h.1]; exact hl)) := List.getElem?_eq_getElem _
 exact hp _ M (List.mem_of_getElem? ha) (h.2 i _ M ha hi)
section
variable {B B0 bb : Nat} {w0 u : World} {x : PProf} {g : G} {T : List ByteArray} {q : PIn}
theorem pf_len (h : PR x T q) (hr : Rng x) (hx : WellP x) (hT : sumS T ≤ 100000000) : (pfB q).length ≤ 2000000000 := by
 have hl : T.length ≤ 100000000 := Nat.le_trans len_sumS hT
 have n1 := hx.ntyp
 have n2 := hx.nsam
 have n3 := hx.tab.m.2.2
 have n5 := hx.tab.f.2.2
 have n4 := hx.tab.l.2.2
 simp only [List.length_map] at n3 n4 n5
 have b1 := msB_len (tag := 1) (c := 40) (by omega) (by omega) (h.ts.all fun t M _ hM => by
  obtain ⟨n, m, rfl, h1, h2⟩ := hM
  exact vtB_len n m (h1.wrap hl) (h2.wrap hl))
 have b2 := msB_len (tag := 2) (c := 600000) (by omega) (by omega) (h.ss.all fun t M ht hM => by
  obtain ⟨lbs, hlb, rfl⟩ := hM
  obtain ⟨r1, r2, r3, r4, r5⟩ := hx.samples t ht
  have hw := hlb.wraps hl (hr.nums t ht)
  have hll : lbs.length ≤ 7200 := by rw [hlb.1]; exact labE_len r4
  have o1 := usB_len (tag := 1) (ns := t.stack.map fun z => (lid x z).toNat) (by omega) (fun n hn => by
   obtain ⟨z, hz, rfl⟩ := List.mem_map.1 hn
   have := hr.lid z
   omega) (by simp; omega)
  have o2 := zsB_len (tag := 2) (by omega) t.values
  have o3 := msB_len (tag := 3) (c := 60) (Ms := lbs.map fun q => lbB q.1 q.2.1 q.2.2) (by omega) (by omega) fun M hM => by
   obtain ⟨q, hq, rfl⟩ := List.mem_map.1 hM
   exact lbB_len _ _ _ (hw q hq).1 (hw q hq).2.1 (hw q hq).2.2
  simp only [List.length_map] at o1 o3
  have := hx.ntyp
  simp only [smB, List.length_append]
  omega)
 have b3 := msB_len (tag := 3) (c := 200) (by omega) (by omega) (h.ms.all fun t M ht hM => by
  obtain ⟨n, k, rfl, h1, h2⟩ := hM
  obtain ⟨r1, r2, r3, r4⟩ := hr.maps t ht
  have q1 := u64_range r1
  have q2 := u64_range r2
  have q3 := u64_range r3
  have q4 := u64_range r4
  exact mpB_len _ _ _ _ _ _ _ _ _ _ (by omega) (by omega) (by omega) (by omega) (h1.wrap hl) (h2.wrap hl))
 have b4 := msB_len (tag := 4) (c := 5000) (by omega) (by omega) (h.ls.all fun t M ht hM => by
  unfold ML at hM
  subst hM
  obtain ⟨r1, r2, r3⟩ := hr.locs t ht
  have q1 := u64_range r1
  have q2 := u64_range r2
  have q3 := hr.mid t.mapping
  have hlen := (hx.tab.locs t ht).2.1
  have o1 := optB_len (k := 1) (n := t.id.toNat) (by omega) (by omega)
  have o2 := optB_len (k := 2) (n := (mid x t.mapping).toNat) (by omega) (by omega)
  have o3 := optB_len (k := 3) (n := t.addr.toNat) (by omega) (by omega)
  have o4 := msB_len (tag := 4) (c := 40) (Ms := t.lines.map fun n => lnB (fnid x n.fn).toNat n.line) (by omega) (by omega) fun M hM => by
   obtain ⟨n, hn, rfl⟩ := List.mem_map.1 hM
   have := hr.fnid n.fn
   exact lnB_len _ _ (by omega) (r3 n hn)
  simp only [List.length_map] at o4
  simp only [List.length_append]
  omega)
 have b5 := msB_len (tag := 5) (c := 100) (by omega) (by omega) (h.fs.all fun t M ht hM => by
  obtain ⟨n, k, i, rfl, h1, h2, h3⟩ := hM
  obtain ⟨r1, r2⟩ := hr.funs t ht
  have q1 := u64_range r1
  exact fnB_len _ _ _ _ _ (by omega) (h1.wrap hl) (h2.wrap hl) (h3.wrap hl) r2)
 have b6 := strsB_len (tag := 6) (by omega) hT
 have o7 := optB_len (k := 7) (n := u64 q.dx) (by omega) (u64_lt _)
 have o8 := optB_len (k := 8) (n := u64 q.kx) (by omega) (u64_lt _)
 have o9 := optB_len (k := 9) (n := u64 q.ti) (by omega) (u64_lt _)
 have o10 := optB_len (k := 10) (n := u64 q.du) (by omega) (u64_lt _)
 have o12 := optB_len (k := 12) (n := u64 q.pe) (by omega) (u64_lt _)
 have o11 : (if q.tx ≠ 0 ∨ q.ux ≠ 0 then encF (.bys 11 (vtB q.tx q.ux)) else []).length ≤ 51 := by
  split
  ·have h1 := vtB_len q.tx q.ux (h.tx.wrap hl) (h.ux.wrap hl)
   have := encF_len (tag := 11) (M := vtB q.tx q.ux) (by omega) (by omega)
   omega
  ·simp
 have e1 := h.ts.1
 have e2 := h.ss.1
 have e3 := h.ms.1
 have e4 := h.ls.1
 have e5 := h.fs.1
 have e6 := h.tab
 rw [← e6] at b6 hT
 simp only [pfB, List.length_append]
 omega
theorem enc_prof (hE : PreE B0 w0 u x g T) (hr : Rng x) (hx : WellP x) (hT : sumS T ≤ 100000000) (bb : Nat) : ∃ q, PR x T q ∧ Enc B bb u 116 (ptr g.pb) (pfB q) := by
 have hl : T.length ≤ 100000000 := Nat.le_trans len_sumS hT
 have n3 := hx.tab.m.2.2
 have n5 := hx.tab.f.2.2
 have n4 := hx.tab.l.2.2
 simp only [List.length_map] at n3 n4 n5
 obtain ⟨ty, sa, ma, lo, fu, co, dx, kx, sx, hb, h1, h2, h3, h4, h5, h6, hdx, hkx⟩ := hE.prof
 obtain ⟨tx, ux, hper, htx, hux⟩ := hE.per
 have f := hE.fr
 obtain ⟨ts, a1, e1⟩ := enc_types (B := B) (bb := bb) hE hl hx.ntyp
 obtain ⟨ss, a2, e2⟩ := enc_sams (B := B) (bb := bb) hE hr hx hl hx.nsam
 obtain ⟨ms, a3, e3⟩ := enc_maps (B := B) (bb := bb) hE hr hl n3
 obtain ⟨ls, a4, e4⟩ := enc_locs (B := B) (bb := bb) hE hr hx n4
 obtain ⟨fs, a5, e5⟩ := enc_funs (B := B) (bb := bb) hE hr hl n5
 refine ⟨⟨ts, ss, ms, ls, fs, T, dx, kx, x.time, x.dur, x.period, tx, ux⟩, ⟨a1, a2, a3, a4, a5, rfl, hE.zero, hE.sub, hE.nd, hdx, hkx, rfl, rfl, rfl, htx, hux⟩, ?_⟩
 exact pfEnc_c B u bb g.pb g.per ⟨ts, ss, ms, ls, fs, T, dx, kx, x.time, x.dur, x.period, tx, ux⟩ _ _ _ _ _ _ _ _ _ _ _ _ sx 0 _ _ _ _ _ ⟨hdx.wrap hl, hkx.wrap hl, hr.time, hr.dur, hr.period, htx.wrap hl, hux.wrap hl⟩ hb hper
  (h1.mono (fr_row f rfl)) (h2.mono (fr_row f rfl)) (h3.mono (fr_row f rfl)) (h4.mono (fr_row f rfl)) (h5.mono (fr_row f rfl)) h6 e1 e2 e3 e4 e5
end
theorem OfP.keep' {B : Nat} {w w' : World} {x : PProf} {g : G} (h : OfP B w x g) (k : Fr 0 [] w w') : OfP B w' x g := by
 have kr := fun (b T : Nat) (cs : List Value) (hb : Blk w b T cs) => k.blk hb (.inr (by simp))
 have km := fun (b : Nat) es ck (hb : w.heap[b]? = some (.map es ck)) => k.keep _ _ hb (.inr (by simp))
 obtain ⟨ty, sa, ma, lo, fu, co, h1, h2, h3, h4, h5, h6, h7⟩ := h.prof
 exact { prof := ⟨ty, sa, ma, lo, fu, co, kr _ _ _ h1, h2.mono fun b cs => kr _ _ cs, h3.mono fun b cs => kr _ _ cs, h4.mono fun b cs => kr _ _ cs, h5.mono fun b cs => kr _ _ cs, h6.mono fun b cs => kr _ _ cs, h7.mono fun b cs => kr _ _ cs⟩, per := kr _ _ _ h.per, types := h.types.mono fun b t => kr _ _ _, maps := h.maps.mono fun b t => kr _ _ _, funs := h.funs.mono fun b t => kr _ _ _, locs := h.locs.mono fun b l hl => hl.mono (fun b cs => kr _ _ cs) (fun b cs => kr _ _ cs), sams := h.sams.mono fun b l hl => hl.mono (fun b cs => kr _ _ cs) (fun b cs => kr _ _ cs) (fun b cs => kr _ _ cs) (fun b cs => kr _ _ cs) (fun b es ck => km _ _ _), ntypes := h.ntypes, nmaps := h.nmaps, nfuns := h.nfuns, nlocs := h.nlocs, nsams := h.nsams, fresh := h.fresh, rows := fun b hb => (h.rows b hb).mono fun b cs => kr _ _ cs }
theorem marshal_c (w : World) (v0 : Value) (φ : List Nat → Prop) (he : ∀ bb, ∃ M, φ M ∧ Enc w.heap.size bb w 116 v0 M ∧ M.length ≤ 2000000000) :
  Calls Tryz.prog 56 #[.iface 81 v0] w (Ret fun v w' => (∃ M, φ M ∧ OS tU8 1 w' v (M.map bv)) ∧ Fr 0 [] w w') := by
 refine startJ (args := [_]) [(0, _)] 0 [] [] func56 rfl ntmps56 rfl rfl .nil ?_
 refine cj_seqF fun K1 hK1 => cj_reg (jA rfl rfl (j_nil (ej_then (hK1 _ _ _ (CJ.s [(0, _)] ⟨rfl, trivial⟩ (cj_seqF fun K2 hK2 => cj_reg ?_))))))
 refine j_allocA (zs := [(.int .i64 0), (.int .i64 0), (.int .u64 0), (.slice none 0 0), (.int .u8 0), (.int .u8 0), (.int .u8 0), (.int .u8 0), (.int .u8 0), (.int .u8 0), (.int .u8 0), (.int .u8 0), (.int .u8 0), (.int .u8 0), (.int .u8 0), (.int .u8 0), (.int .u8 0), (.int .u8 0), (.int .u8 0), (.int .u8 0)]) zeroValue169 rfl fun b3 => ?_
 refine j_nil (ej_then (hK2 _ _ _ (CJ.s [(0, _), (3, _)] ⟨rfl, rfl, trivial⟩ (cj_seqF fun K3 hK3 => cj_reg (jM rfl rfl ?_)))))
 refine j_callI (R := fun w1 _ w2 => (∃ M, φ M ∧ Bf w.heap.size w2 b3 M) ∧ Fr w.heap.size wE w1 w2) (g := 116) (as' := [v0, ptr b3]) (fun w => me_Prof v0 (ptr b3) w) rfl rfl rfl (fun w1 hH hf => by
   obtain ⟨M, h1, h2, h3⟩ := he b3
   refine Calls.mono (h2 w1 [] (hf.quiet _ _) ⟨hH.fresh (i := 0) rfl rfl rfl, _, _, _, _, _, _, nilE tU8, hH.get (i := 0) rfl rfl, rfl, rfl, Own.nil, fun h => by simp [nilE] at h⟩ (by simp; omega)) fun e w2 hR => ?_
   cases e with
   | returned v => exact ⟨⟨M, h1, by simpa using hR.1⟩, hR.2⟩
   | panicked c => exact hR.elim
   | outgrown => exact hR.elim) fun w1 v w2 hH1 hf1 hR => ?_
 obtain ⟨⟨M, hφ, hB2⟩, hF2⟩ := hR
 obtain ⟨f, t, u, p, c, tmp, y, hblk, htl, hts, hO, hy⟩ := hB2.ex
 have hfr : Fr 0 [] w w2 := Fr.trans hf1 hF2 (.inl (Nat.le_refl _))
 refine J.begin ⟨w2, 0, []⟩ [⟨b3, tBuf, cBuf f t u (.slice p M.length c) tmp, false, true, none⟩] ok_refl (Hp.add trivial hblk (fun h => by cases h) (by simp)) ?_
 refine j_nil (ej_then (hK3 _ _ _ (CJ.s [(3, _)] ⟨rfl, trivial⟩ (cj_seqF fun K4 hK4 => cj_reg (j_val rfl (fun _ _ h => r_fl (q := 3) (ft := 35) runUnderlying169 rfl sizeOf35 rfl h) (j_valw rfl (fun a w ha hH hf => r_ldH 0 rfl rfl isAgg35 rfl rfl ha hH) (jA rfl rfl (j_nil (ej_then (hK4 _ _ _ (CJ.s [(2, _)] ⟨rfl, trivial⟩ (cj_ret (?_)))))))))))))
 exact ej_ret1 results56 rfl fun w' hH hf => ⟨⟨M, hφ, y, p, M.length, c, rfl, hO, fun ho => hf.blk (hy ho).2 (.inr (by simp))⟩, hfr.trans hf (.inr ⟨Nat.le_refl _, fun _ h => h⟩)⟩
theorem bytes_c (B : Nat) (w : World) (x : PProf) (g : G) (hG : OfP B w x g) (hx : WellP x) (hr : Rng x) (hS : sumS (allS x) ≤ 100000000) :
  Calls Tryz.prog 28 #[ptr g.pb] w (Ret fun v w' => (∃ T q, PR x T q ∧ OS tU8 1 w' v ((pfB q).map bv)) ∧ Fr B (tProf :: wP) w w') := by
 have hSl : (allS x).length ≤ 100000000 := Nat.le_trans len_sumS hS
 refine startJ (args := [_]) [(0, _)] 0 [] [] func28 rfl ntmps28 rfl rfl .nil ?_
 refine cj_seqF fun K1 hK1 => cj_reg (jA rfl rfl (j_nil (ej_then (hK1 _ _ _ (CJ.s [(0, _)] ⟨rfl, trivial⟩ (cj_seqF fun K2 hK2 => cj_reg (jM rfl rfl ?_)))))))
 refine j_callE (R := fun w1 _ w2 => ∃ T, PreE B w1 w2 x g T) call55 rfl rfl (fun w1 hH hf => preEncode_c B w1 x g (hG.keep' hf) hx hSl) fun w1 v w2 hH1 hf1 hR => ?_
 obtain ⟨T, hE⟩ := hR
 have hT : sumS T ≤ 100000000 := Nat.le_trans (sumS_sub hE.nd hE.sub) hS
 have hfr : Fr B (tProf :: wP) w w2 := Fr.trans (hf1.quiet B (tProf :: wP)) hE.fr (.inr ⟨Nat.le_refl _, fun _ h => h⟩)
 refine J.begin ⟨w2, 0, []⟩ [] ok_refl .nil ?_
 refine j_nil (ej_then (hK2 _ _ _ (CJ.s [(0, _)] ⟨rfl, trivial⟩ (cj_seqF fun K3 hK3 => cj_reg (jM rfl rfl (j_val rfl (fun _ _ h => r_mki runUnderlying81 rfl rfl h) ?_))))))
 refine j_callE (R := fun w3 v w4 => (∃ M, (∃ q, PR x T q ∧ M = pfB q) ∧ OS tU8 1 w4 v (M.map bv)) ∧ Fr 0 [] w3 w4) call56 rfl rfl (fun w3 hH hf => marshal_c w3 (ptr g.pb) (fun M => ∃ q, PR x T q ∧ M = pfB q) fun bb => by
   obtain ⟨q, h1, h2⟩ := enc_prof (B := w3.heap.size) hE hr hx hT bb
   exact ⟨_, ⟨q, h1, rfl⟩, h2.later (hf.quiet _ _), pf_len h1 hr hx hT⟩) fun w3 v w4 hH3 hf3 hR => ?_
 obtain ⟨⟨_, ⟨q, hq, rfl⟩, hos⟩, hf4⟩ := hR
 have hfr4 : Fr B (tProf :: wP) w w4 := Fr.trans (Fr.trans hfr (hf3.quiet B (tProf :: wP)) (.inr ⟨Nat.le_refl _, fun _ h => h⟩)) (hf4.quiet B (tProf :: wP)) (.inr ⟨Nat.le_refl _, fun _ h => h⟩)
 refine J.begin ⟨w4, 0, []⟩ [] ok_refl .nil ?_
 refine jA rfl rfl (j_nil (ej_then (hK3 _ _ _ (CJ.s [(2, _)] ⟨rfl, trivial⟩ (cj_ret (?_))))))
 exact ej_ret1 results28 rfl fun w' hH hf => ⟨⟨T, q, hq, hos.mono fun b cs h => hf.blk h (.inr (by simp))⟩, Fr.trans hfr4 (hf.quiet B (tProf :: wP)) (.inr ⟨Nat.le_refl _, fun _ h => h⟩)⟩
theorem write_c (w : World) (cs : List Value) (x : PProf) (h : RProf w cs x) (hx : WellP x) (hS : sumS (allS x) ≤ 100000000) :
  Calls Tryz.prog 8 #[.agg cs.toArray] w (Ret fun v w' => (∃ T q, PR x T q ∧ OS tU8 1 w' v ((pfB q).map bv)) ∧ Fr 0 [] w w') := by
 have hP := h
 obtain ⟨la, lsa, lm, ll, lf, lcm, rfl, -⟩ := h
 refine startJ (args := [_]) [(0, _)] 0 [] [] func8 rfl ntmps8 rfl rfl .nil ?_
 refine cj_seqF fun K1 hK1 => cj_reg ?_
 refine j_boxA (vs := [_, _, _, _, _, _, _, _, _, _, _, _, _, _]) rfl rfl fun b1 => ?_
 refine jA rfl rfl (j_nil (ej_then (hK1 _ _ _ (CJ.s [(1, _)] ⟨rfl, trivial⟩ (cj_seqF fun K2 hK2 => cj_reg (j_valw rfl (fun a w ha hH hf => r_ldA (vs := [_, _, _, _, _, _, _, _, _, _, _, _, _, _]) 0 rfl rfl isAgg31 sizeOf31 rfl rfl rfl ha hH) ?_))))))
 refine j_callE (R := fun w1 v w2 => (∃ g, v = ptr g.pb ∧ OfP w1.heap.size w2 x g) ∧ Fr 0 [] w1 w2) call27 rfl rfl (fun w1 hH hf => of_c w1 _ x (RProf.keep (hf.keepAll (.inr rfl)) _ _ hP) hx) fun w1 v w2 hH1 hf1 hR => ?_
 obtain ⟨⟨g, rfl, hG⟩, hq2⟩ := hR
 have hfr : Fr 0 [] w w2 := Fr.trans hf1 hq2 (.inr ⟨Nat.le_refl _, fun _ h => h⟩)
 refine J.begin ⟨w2, 0, []⟩ [] ok_refl .nil ?_
 refine j_callE (R := fun w3 v w4 => (∃ T q, PR x T q ∧ OS tU8 1 w4 v ((pfB q).map bv)) ∧ Fr w1.heap.size (tProf :: wP) w3 w4) call28 rfl rfl (fun w3 hH hf => bytes_c w1.heap.size w3 x g (hG.keep' hf) hx (RProf.rng hP) hS) fun w3 v w4 hH3 hf3 hR => ?_
 obtain ⟨⟨T, q, hq, hos⟩, hf4⟩ := hR
 have hfr4 : Fr 0 [] w w4 := Fr.trans (Fr.trans hfr hf3 (.inr ⟨Nat.le_refl _, fun _ h => h⟩)) hf4 (.inl hf1.size)
 refine J.begin ⟨w4, 0, []⟩ [] ok_refl .nil ?_
 refine jA rfl rfl (j_nil (ej_then (hK2 _ _ _ (CJ.s [(2, _)] ⟨rfl, trivial⟩ (cj_ret (?_))))))
 exact ej_ret1 results8 rfl fun w' hH hf => ⟨⟨T, q, hq, hos.mono fun b cs h => hf.blk h (.inr (by simp))⟩, Fr.trans hfr4 hf (.inr ⟨Nat.le_refl _, fun _ h => h⟩)⟩
end Go.Proofs.YtifnhinopjgfaaaGreat
