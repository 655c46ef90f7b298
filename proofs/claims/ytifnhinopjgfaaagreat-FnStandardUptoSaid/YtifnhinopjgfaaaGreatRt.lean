/-
  The law FnStandard returns true. Conditions: the profile is plain data in memory, its texts are together not too long.
-/
import Derived.Test.YtifnhinopjgfaaaGreatDd
import Derived.Test.YtifnhinopjgfaaaGreatFy
import Derived.Test.YtifnhinopjgfaaaGreatSa
import Derived.Test.YtifnhinopjgfaaaGreatRu
import Derived.Test.YtifnhinopjgfaaaGreatFits
namespace Go.Proofs.YtifnhinopjgfaaaGreat
open Go Go.Fw Go.Proofs Go.Proofs.Tryz
/-- an owned slice's elements, laid -/
theorem lay_of_os {α β : Type} {T sz : Nat} {w : World} {v : Value} {R : World → List Value → α → Prop} {bs : List β} {c : β → List Value} {f : β → α} {xs : List α} (h : OS T sz w v (bs.flatMap c)) (hx : bs.map f = xs) (hc : ∀ b, (c b).length = sz) (hp : 0 < sz) (hR : ∀ b ∈ bs, R w (c b) (f b)) (hl : xs.length ≤ 1000000000) : Lay R sz w v xs := by
 subst hx
 obtain ⟨p, l, cc, rfl, hlen, hlc, ho⟩ := h.open
 have hfl : (bs.flatMap c).length = bs.length * sz := flatMap_len hc _
 have hll : l = bs.length := by
  rw [hfl] at hlen
  exact (Nat.eq_of_mul_eq_mul_right hp hlen).symm
 subst hll
 refine ⟨bs.map c, ⟨⟨p, cc, by simp, by simpa using hlc, ?_⟩, ?_, by simp at hl ⊢; omega⟩, by simp, fun q hq => ?_, fun i q x hq hx => ?_⟩
 ·by_cases h0 : bs.length = 0
  ·exact .inl (by simpa using h0)
  ·right
   obtain ⟨b, rfl, hcell⟩ := ho (by omega)
   refine ⟨b, 0, rfl, fun j u hu => ?_⟩
   rw [Nat.zero_add]
   exact hcell w (Keep.refl w) j u (by rw [List.flatMap_def]; exact hu)
 ·rw [← List.flatMap_def, hfl]; simp
 ·obtain ⟨b, -, rfl⟩ := List.mem_map.1 hq
  exact hc b
 ·rw [List.getElem?_map] at hq hx
  cases hb : bs[i]? with
  | none => rw [hb] at hq; cases hq
  | some b =>
   rw [hb] at hq hx
   simp at hq hx
   subst hq; subst hx
   exact hR b (List.mem_of_getElem? hb)
theorem map_flat {α : Type} (g : α → Value) (xs : List α) : xs.map g = xs.flatMap fun x => [g x] := by
 induction xs with
 | nil => rfl
 | cons a r ih => simp [ih]
theorem lay_of_os1 {α : Type} {T : Nat} {w : World} {v : Value} {R : World → List Value → α → Prop} {xs : List α} {g : α → Value} (h : OS T 1 w v (xs.map g)) (hR : ∀ x ∈ xs, R w [g x] x) (hl : xs.length ≤ 1000000000) : Lay R 1 w v xs := by
 rw [map_flat] at h
 exact lay_of_os (f := fun x => x) h (by simp) (fun _ => rfl) (by omega) hR hl
theorem sd_map {α β : Type} {qs : List (ByteArray × Value × List α)} {ts : List β} {k : β → ByteArray} {l : β → List α} {mk : ByteArray → List α → β} (h : (qs.map fun q => (q.1, q.2.2)) = ts.map fun t => (k t, l t)) (hmk : ∀ t, mk (k t) (l t) = t) : (qs.map fun q => mk q.1 q.2.2) = ts := by
 have h2 := congrArg (List.map fun p : ByteArray × List α => mk p.1 p.2) h
 simp only [List.map_map, Function.comp_def, hmk] at h2
 simpa using h2
theorem rsample {w : World} {q : PSample × SV} {x : PProf} (hx : WellP x) (hr : Rng x) (hq : q.1 ∈ x.samples) (h : SmV w q) : RSample w (cSmI q) q.1 := by
 obtain ⟨hv1, hv2, hst, hLab, hsk⟩ := hx.samples _ hq
 have hn4 := hx.tab.l.2.2
 have hnt := hx.ntyp
 simp only [List.length_map] at hn4
 refine ⟨_, _, _, _, rfl, lay_of_os1 h.st (fun z hz => ⟨rfl, ?_⟩) (by omega), lay_of_os1 h.vs (fun z hz => ⟨rfl, hr.vals _ hq z hz⟩) (by omega), ?_, ?_⟩
 ·have := hsk z hz; exact wrap64_small (by omega) (by omega)
 ·obtain ⟨qs, h1, h2, h3⟩ := h.tx
  have hm := sd_map (mk := fun a b => (⟨a, b⟩ : PTexts)) h1 fun t => rfl
  refine lay_of_os (f := fun z => (⟨z.1, z.2.2⟩ : PTexts)) h2 hm (fun _ => rfl) (by omega) (fun z hz => ⟨_, rfl, lay_of_os1 (h3 z hz) (fun s _ => rfl) ?_⟩) (by have := hLab.tlen; omega)
  have hmem : (⟨z.1, z.2.2⟩ : PTexts) ∈ q.1.texts := by rw [← hm]; exact List.mem_map_of_mem (f := fun z => (⟨z.1, z.2.2⟩ : PTexts)) hz
  have := (hLab.tl _ hmem).2.1
  simp only at this
  show z.2.2.length ≤ 1000000000
  omega
 ·obtain ⟨qs, h1, h2, h3⟩ := h.nu
  have hm := sd_map (mk := fun a b => (⟨a, b⟩ : PNums)) h1 fun t => rfl
  refine lay_of_os (f := fun z => (⟨z.1, z.2.2⟩ : PNums)) h2 hm (fun _ => rfl) (by omega) (fun z hz => ?_) (by have := hLab.nlen; omega)
  have hmem : (⟨z.1, z.2.2⟩ : PNums) ∈ q.1.nums := by rw [← hm]; exact List.mem_map_of_mem (f := fun z => (⟨z.1, z.2.2⟩ : PNums)) hz
  have h5 := (hLab.nl _ hmem).2
  simp only at h5
  exact ⟨_, rfl, lay_of_os1 (h3 z hz) (fun s hs => ⟨rfl, hr.nums _ hq _ hmem s hs⟩) (show z.2.2.length ≤ 1000000000 by omega)⟩
theorem rprof {w : World} {cs : List Value} {x : PProf} (hx : WellP x) (hr : Rng x) (hc : x.comments = []) (h : GotP w cs x) : RProf w cs x := by
 obtain ⟨vT, vS, vM, vL, vF, lq, sq, rfl, h1, h2, h3, h4, h5, h6, h7, h8, h9⟩ := h.ex
 have n1 := hx.ntyp
 have n2 := hx.nsam
 have n3 := hx.tab.m.2.2
 have n5 := hx.tab.f.2.2
 have n4 := hx.tab.l.2.2
 simp only [List.length_map] at n3 n4 n5
 refine ⟨_, _, _, _, _, _, rfl, lay_of_os (f := fun x => x) h1 (by simp) (fun _ => rfl) (by omega) (fun _ _ => rfl) (by omega), lay_of_os h8 h7 (fun _ => rfl) (by omega) (fun q hq => ?_) (by omega), lay_of_os (f := fun x => x) h2 (by simp) (fun _ => rfl) (by omega) (fun m hm => ⟨rfl, hr.maps m hm⟩) (by omega),
  lay_of_os h5 h4 (fun _ => rfl) (by omega) (fun q hq => ?_) (by omega), lay_of_os (f := fun x => x) h3 (by simp) (fun _ => rfl) (by omega) (fun m hm => ⟨rfl, hr.funs m hm⟩) (by omega), ?_, hr.time, hr.dur, hr.period⟩
 ·have hm : q.1 ∈ x.samples := by rw [← h7]; exact List.mem_map_of_mem hq
  exact rsample hx hr hm (h9 q hq)
 ·have hm : q.1 ∈ x.locs := by rw [← h4]; exact List.mem_map_of_mem hq
  obtain ⟨r1, r2, r3⟩ := hr.locs _ hm
  obtain ⟨⟨m1, m2⟩, m3, m4⟩ := hx.tab.locs _ hm
  refine ⟨_, rfl, r1, wrap64_small (by omega) (by omega), r2, lay_of_os (f := fun x => x) (h6 q hq) (by simp) (fun _ => rfl) (by omega) (fun n hn => ⟨rfl, ?_, r3 n hn⟩) (by omega)⟩
  have := m4 n hn
  exact wrap64_small (by omega) (by omega)
 ·rw [hc]
  exact ⟨[], ⟨⟨none, 0, rfl, Nat.le_refl _, .inl rfl⟩, by simp, Nat.zero_le _⟩, rfl, by simp, by simp⟩
/-! ### the texts' length -/
theorem sumS_app (a b : List ByteArray) : sumS (a ++ b) = sumS a + sumS b := by simp [sumS]
theorem sumS_cons (a : ByteArray) (b : List ByteArray) : sumS (a :: b) = a.size + 1 + sumS b := by simp [sumS]
theorem sumS_flat {α : Type} (f : α → List ByteArray) : ∀ (xs : List α), sumS (xs.flatMap f) = (xs.map fun x => sumS (f x)).sum
 | [] => rfl
 | a :: r => by rw [List.flatMap_cons, sumS_app, sumS_flat f r, List.map_cons, List.sum_cons]
theorem sumS_map {α : Type} (f : α → ByteArray) : ∀ (xs : List α), sumS (xs.map f) = (xs.map fun x => (f x).size + 1).sum
 | [] => rfl
 | a :: r => by rw [List.map_cons, sumS_cons, sumS_map f r, List.map_cons, List.sum_cons]
theorem sumS_all (x : PProf) : sumS (allS x) ≤ mPf x + 1 := by
 have e1 : ∀ s : PSample, sumS (samS s) = mSm s := fun s => by
  unfold samS mSm
  rw [sumS_app, sumS_flat, sumS_map]
  rfl
 have e2 : ∀ t : PType, sumS [t.ty, t.unit] = mTy t := fun t => by simp [sumS, mTy]
 have e3 : ∀ m : PMapping, sumS [m.file, m.build] = mMp m := fun m => by simp [sumS, mMp]
 have e4 : ∀ f : PFunc, sumS [f.name, f.system, f.file] = mFn f := fun f => by simp [sumS, mFn]
 unfold allS mPf
 rw [sumS_app, sumS_app, sumS_app, sumS_app, sumS_flat, sumS_flat, sumS_flat, sumS_flat]
 rw [show (fun t : PType => sumS [t.ty, t.unit]) = mTy from funext e2, show (fun s : PSample => sumS (samS s)) = mSm from funext e1, show (fun m : PMapping => sumS [m.file, m.build]) = mMp from funext e3, show (fun f : PFunc => sumS [f.name, f.system, f.file]) = mFn from funext e4]
 have e5 : sumS [eB, x.drop, x.keep, x.per.ty, x.per.unit] = 1 + ((x.drop.size + 1) + ((x.keep.size + 1) + mTy x.per)) := by simp [sumS, mTy]; rfl
 rw [e5]
 omega
theorem bys_of_os {w : World} {v : Value} {D : List Nat} (h : OS tU8 1 w v (D.map bv)) (hl : 0 < D.length) : ∃ b c, v = .slice (some ⟨b, 0, none⟩) D.length c ∧ Bys w b 0 c D := by
 obtain ⟨y, p, l, c, rfl, hO, hb⟩ := h
 obtain ⟨e1, e2, e3, s1, s2, s3⟩ := hO
 have hll : l = D.length := by simpa using s1.symm
 subst hll
 rcases s3 with ⟨h5, h6, ⟨ex, h7⟩, h8⟩ | ⟨h5, h6, h7⟩
 ·refine ⟨y.b, c, by rw [h6], s2, y.cs, hb h5, fun j d hd => ?_⟩
  have hj := (List.getElem?_eq_some_iff.1 hd).1
  rw [h7, Nat.zero_add, List.getElem?_append_left (by simpa using hj), List.getElem?_map, hd]; rfl
 ·omega
set_option maxHeartbeats 1000000 in
theorem root_c (w : World) (cs : List Value) (x : PProf) (h : RProf w cs x) (hS : sumS (allS x) ≤ 100000000) :
  Calls Tryz.prog 3 #[.agg cs.toArray] w (Ret fun v w' => v = .bool true ∧ Fr 0 [] w w') := by
 have hP := h
 have hr := RProf.rng h
 obtain ⟨la, ls, lm, ll, lf, lcm, rfl, hla, hls, hlm, hll, hlf, hlcm, -⟩ := h
 obtain ⟨pa, ca, rfl, -⟩ := hla.open
 obtain ⟨ps, c_s, rfl, -⟩ := hls.open
 obtain ⟨pm, c_m, rfl, -⟩ := hlm.open
 obtain ⟨pl, cl, rfl, -⟩ := hll.open
 obtain ⟨pf, cf, rfl, -⟩ := hlf.open
 obtain ⟨pc, cc, rfl, -⟩ := hlcm.open
 refine startJ (args := [_]) [(0, .agg (List.toArray [_, _, _, _, _, _, _, _, _, _, _, _, _, _]))] 0 [] [] func3 rfl ntmps3 rfl rfl .nil ?_
 refine cj_seqF fun K1 hK1 => cj_reg ?_
 refine j_boxA (vs := [_, _, _, _, _, _, _, _, _, _, _, _, _, _]) rfl rfl fun b1 => ?_
 refine jA rfl rfl (j_nil (ej_then (hK1 _ _ _ (CJ.s [(1, _)] ⟨rfl, trivial⟩ (cj_seqF fun K2 hK2 => cj_seqF fun K3 hK3 => cj_reg (j_valw rfl (fun a w ha hH hf => r_ldA (vs := [_, _, _, _, _, _, _, _, _, _, _, _, _, _]) 0 rfl rfl isAgg31 sizeOf31 rfl rfl rfl ha hH) ?_))))))
 refine j_callQ (φ := fun v => ∃ b, v = .bool b ∧ (b = true → x.mappings.length ≤ 2147483647 ∧ x.locs.length ≤ 2147483647 ∧ x.funcs.length ≤ 2147483647)) call4 rfl rfl (fun w hH hf => zzFits1_c w _ _ (RProf.keep (hf.keepAll (.inr rfl)) _ _ hP)) ?_
 rintro _ ⟨bf, rfl, hbf⟩
 refine j_val rfl (fun _ _ h => r_not rfl h) (j_nil (ej_then (hK3 _ _ _ (CJ.s [(1, _), (7, _)] ⟨rfl, rfl, trivial⟩ ?_))))
 refine cj_if rfl (fun h7 => ?_) (fun h7 => ?_)
 ·refine cj_seqF fun K4 hK4 => cj_reg (jA rfl rfl (j_nil (ej_then (hK4 _ _ _ (CJ.s [(2, _)] ⟨rfl, trivial⟩ (cj_ret (ej_then_ret (?_))))))))
  first
  | exact ej_ret1 results3 rfl fun w' hH hf => ⟨rfl, hf⟩
  | exact ej_ret1 results3 rfl fun w' hH hf => ⟨rfl, frQ hfr4 hf⟩
 ·have hbf := hbf (by simpa using h7)
  refine cj_skip (ej_then (hK2 _ _ _ (CJ.s [(1, _)] ⟨rfl, trivial⟩ (cj_seqF fun K5 hK5 => cj_seqF fun K6 hK6 => cj_reg (j_valw rfl (fun a w ha hH hf => r_ldA (vs := [_, _, _, _, _, _, _, _, _, _, _, _, _, _]) 0 rfl rfl isAgg31 sizeOf31 rfl rfl rfl ha hH) ?_)))))
  refine j_callQ (φ := fun v => ∃ b, v = .bool b ∧ (b = true → WellP x)) call5 rfl rfl (fun w hH hf => well_c w _ _ (RProf.keep (hf.keepAll (.inr rfl)) _ _ hP) hbf.1 hbf.2.1 hbf.2.2) ?_
  rintro _ ⟨bw, rfl, hbw⟩
  refine j_val rfl (fun _ _ h => r_not rfl h) (jM rfl rfl ?_)
  refine j_split (t := 11) rfl (fun hg11 => ?_) (fun hg11 => ?_)
  ·refine j_gf rfl rfl rfl rfl (j_gf rfl rfl rfl rfl (j_gf rfl rfl rfl rfl (j_val rfl (fun _ _ h => r_pick_t rfl rfl h) (j_nil (ej_then (hK6 _ _ _ (CJ.s [(1, _), (15, _)] ⟨rfl, rfl, trivial⟩ ?_)))))))
   refine cj_if_t rfl ?_
   refine cj_seqF fun K7 hK7 => cj_reg (jA rfl rfl (j_nil (ej_then (hK7 _ _ _ (CJ.s [(2, _)] ⟨rfl, trivial⟩ (cj_ret (ej_then_ret (?_))))))))
   first
   | exact ej_ret1 results3 rfl fun w' hH hf => ⟨rfl, hf⟩
   | exact ej_ret1 results3 rfl fun w' hH hf => ⟨rfl, frQ hfr4 hf⟩
  ·refine j_gt rfl rfl (j_valw rfl (fun a w ha hH hf => r_ldA (vs := [_, _, _, _, _, _, _, _, _, _, _, _, _, _]) 0 rfl rfl isAgg31 sizeOf31 rfl rfl rfl ha hH) (j_gt rfl rfl ?_))
   refine j_callQ (φ := fun v => ∃ b, v = .bool b ∧ (b = true → x.comments = [] ∧ x.deflt = ⟨#[]⟩)) call6 rfl rfl (fun w hH hf => bare_c w _ _ (RProf.keep (hf.keepAll (.inr rfl)) _ _ hP)) ?_
   rintro _ ⟨bb, rfl, hbb⟩
   refine j_gt rfl rfl (j_val rfl (fun _ _ h => r_not rfl h) (j_val rfl (fun _ _ h => r_pick_f rfl rfl h) (j_nil (ej_then (hK6 _ _ _ (CJ.s [(1, _), (15, _)] ⟨rfl, rfl, trivial⟩ ?_))))))
   refine cj_if rfl (fun h15 => ?_) (fun h15 => ?_)
   ·refine cj_seqF fun K8 hK8 => cj_reg (jA rfl rfl (j_nil (ej_then (hK8 _ _ _ (CJ.s [(2, _)] ⟨rfl, trivial⟩ (cj_ret (ej_then_ret (?_))))))))
    first
    | exact ej_ret1 results3 rfl fun w' hH hf => ⟨rfl, hf⟩
    | exact ej_ret1 results3 rfl fun w' hH hf => ⟨rfl, frQ hfr4 hf⟩
   ·have hx : WellP x := hbw (by simpa using hg11)
    obtain ⟨hc, hd⟩ := hbb (by simpa using h15)
    refine cj_skip (ej_then (hK5 _ _ _ (CJ.s [(1, _)] ⟨rfl, trivial⟩ (cj_seqF fun K9 hK9 => cj_reg (j_valw rfl (fun a w ha hH hf => r_ldA (vs := [_, _, _, _, _, _, _, _, _, _, _, _, _, _]) 0 rfl rfl isAgg31 sizeOf31 rfl rfl rfl ha hH) ?_)))))
    refine j_callE (R := fun w1 v w2 => (∃ T q, PR x T q ∧ OS tU8 1 w2 v ((pfB q).map bv)) ∧ Fr 0 [] w1 w2) call8 rfl rfl (fun w1 hH hf => write_c w1 _ x (RProf.keep (hf.keepAll (.inr rfl)) _ _ hP) hx hS) fun w1 v w2 hH1 hf1 hR => ?_
    obtain ⟨⟨T, q, hPR, hos⟩, hf2⟩ := hR
    have hI := din hPR hx hr hS hc hd
    have hlen : (pfB q).length ≤ 2000000000 := pf_len hPR hr hx (Nat.le_trans (sumS_sub hPR.nd hPR.sub) hS)
    have hz1 := (List.getElem?_eq_some_iff.1 hPR.zero).1
    have hpos : 0 < (pfB q).length := by
     rw [← pfF_enc]
     have h2 := encFs_two (pfF q)
     have h3 : 0 < (pfF q).length := by
      have : (Fld.bys 6 (sB eB)) ∈ pfF q := by
       unfold pfF
       simp only [List.mem_append]
       refine .inr (.inr (.inr (.inr (.inr (.inl (List.mem_map.2 ⟨eB, ?_, rfl⟩))))))
       rw [hPR.tab]; exact List.mem_of_getElem? hPR.zero
      exact List.length_pos_of_mem this
     omega
    obtain ⟨b, c, rfl, hB⟩ := bys_of_os hos hpos
    rw [← pfF_enc] at hB hlen ⊢
    have hfr : Fr 0 [] w w2 := frQ hf1 hf2
    have hb1 := hf2.blk (hH1.get (i := 0) rfl rfl) (.inr (by simp))
    refine J.begin ⟨w2, 0, []⟩ [⟨b1, tIP, _, false, true, none⟩] ok_refl (Hp.add trivial hb1 (fun h => by cases h) (by simp)) ?_
    refine j_callE (R := fun w1 v w2 => (∃ ds, v = .tuple #[.agg (List.toArray ds), .bool true] ∧ GotP w2 ds x) ∧ Fr 0 [] w1 w2) call7 rfl rfl (fun w3 hH hf => decode_c w3 b 0 c x T (pfF q) hI (hB.keep hf) (by omega)) fun w3 v w4 hH3 hf3 hR => ?_
    obtain ⟨⟨ds, rfl, hG⟩, hf4⟩ := hR
    have hRP := rprof hx hr hc hG
    have hfr4 : Fr 0 [] w w4 := frQ hfr (frQ hf3 hf4)
    obtain ⟨la, ls, lm, ll, lf, lcm, rfl, hla, hls, hlm, hll, hlf, hlcm, -⟩ := id hRP
    obtain ⟨pa2, ca2, rfl, -⟩ := hla.open
    obtain ⟨ps2, cs2, rfl, -⟩ := hls.open
    obtain ⟨pm2, cm2, rfl, -⟩ := hlm.open
    obtain ⟨pl2, cl2, rfl, -⟩ := hll.open
    obtain ⟨pf2, cf2, rfl, -⟩ := hlf.open
    obtain ⟨pc2, cc2, rfl, -⟩ := hlcm.open
    have hb4 := hf4.blk (hH3.get (i := 0) rfl rfl) (.inr (by simp))
    refine J.begin ⟨w4, 0, []⟩ [⟨b1, tIP, _, false, true, none⟩] ok_refl (Hp.add trivial hb4 (fun h => by cases h) (by simp)) ?_
    refine jM rfl rfl (j_val rfl (fun _ _ h => r_extract rfl rfl h) (j_val rfl (fun _ _ h => r_extract rfl rfl h) ?_))
    refine j_allocA (zs := [(.slice none 0 0), (.string ⟨#[]⟩), (.slice none 0 0), (.slice none 0 0), (.slice none 0 0), (.slice none 0 0), (.slice none 0 0), (.string ⟨#[]⟩), (.string ⟨#[]⟩), (.int .i64 0), (.int .i64 0), (.int .i64 0), (.string ⟨#[]⟩), (.string ⟨#[]⟩)]) zeroValue31 rfl fun b3 => ?_
    refine j_storeN (cs' := [_, _, _, _, _, _, _, _, _, _, _, _, _, _]) (H' := [_, _]) 0 rfl rfl rfl rfl sizeOf31 rfl rfl rfl rfl rfl rfl rfl ?_
    refine jA rfl rfl (j_nil (ej_then (hK9 _ _ _ (CJ.s [(1, _), (3, _), (4, _)] ⟨rfl, rfl, rfl, trivial⟩ (cj_seqF fun K10 hK10 => cj_reg (jM rfl rfl (jM rfl rfl (j_gt rfl rfl (j_valw rfl (fun a w ha hH hf => r_ldA (vs := [_, _, _, _, _, _, _, _, _, _, _, _, _, _]) 0 rfl rfl isAgg31 sizeOf31 rfl rfl rfl ha hH) (j_gt rfl rfl (j_valw rfl (fun a w ha hH hf => r_ldA (vs := [_, _, _, _, _, _, _, _, _, _, _, _, _, _]) 1 rfl rfl isAgg31 sizeOf31 rfl rfl rfl ha hH) (j_gt rfl rfl ?_))))))))))))
    refine j_callQ (φ := fun v => v = .bool true) call9 rfl rfl (fun w5 hH hf => same_c w5 _ _ x (RProf.keep (hf.keepAll (.inr rfl)) _ _ hRP) (RProf.keep (Keep.trans (hfr4.keepAll (.inr rfl)) (hf.keepAll (.inr rfl))) _ _ hP)) fun v hv => ?_
    subst hv
    refine j_val rfl (fun _ _ h => r_pick_t rfl rfl h) (jA rfl rfl (j_nil (ej_then (hK10 _ _ _ (CJ.s [(2, _)] ⟨rfl, trivial⟩ (cj_ret (?_)))))))
    first
    | exact ej_ret1 results3 rfl fun w' hH hf => ⟨rfl, hf⟩
    | exact ej_ret1 results3 rfl fun w' hH hf => ⟨rfl, frQ hfr4 hf⟩
end Go.Proofs.YtifnhinopjgfaaaGreat
