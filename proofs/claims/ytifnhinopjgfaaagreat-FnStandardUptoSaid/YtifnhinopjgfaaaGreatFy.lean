/-
  What impl.Write writes, whole: the fields that the specification's decoder asks for. Conditions: the profile is well formed, its numbers fit, its texts are together not too long; it has neither comments nor a type told first.
-/
import Derived.Test.YtifnhinopjgfaaaGreatFz
namespace Go.Proofs.YtifnhinopjgfaaaGreat
open Go Go.Fw Go.Proofs Go.Proofs.Tryz
theorem labE_few {s : PSample} (h : LabP s) : (labE s).length ≤ 7200 := labE_len h
theorem At.zero {T : List ByteArray} {n : Int} {s : ByteArray} (h : At T n s) (hz : T[0]? = some eB) (hn : n = 0) : s = eB := by
 obtain ⟨k, rfl, hk⟩ := h
 obtain rfl : k = 0 := by omega
 rw [hz] at hk
 exact (Option.some.inj hk).symm
def lbF (q : Int × Int × Int) : List Fld := numOpt 1 (Go.Proofs.YtifnhinopjgfaaaGreat.u64 q.1) ++ (numOpt 2 (Go.Proofs.YtifnhinopjgfaaaGreat.u64 q.2.1) ++ numOpt 3 (Go.Proofs.YtifnhinopjgfaaaGreat.u64 q.2.2))
theorem lbF_wf (q : Int × Int × Int) : Wfs (lbF q) := (Wfs.opt (by omega) (u64_lt _)).app ((Wfs.opt (by omega) (u64_lt _)).app (Wfs.opt (by omega) (u64_lt _)))
theorem lbF_enc (q : Int × Int × Int) : encFs (lbF q) = lbB q.1 q.2.1 q.2.2 := by simp [lbF, lbB, encFs_append, enc_opt]
theorem lbF_ok {T : List ByteArray} {q : Int × Int × Int} {e : LE} (hl : T.length ≤ 100000000) (hz : T[0]? = some eB) (hne : ∀ t, e.2.1 = some t → t ≠ eB) (hw : e.2.1 = none → IntKind.i64.wrap e.2.2 = e.2.2) (h : LbOK T q e) : LbM T (lbF q) e := by
 obtain ⟨h1, h2⟩ := h
 have e1 : oneN 1 (lbF q) = Go.Proofs.YtifnhinopjgfaaaGreat.u64 q.1 := by rw [oneN_oneF]; unfold lbF; simp only [oneF_append, oneF_opt, ite_zero_self, ↓reduceIte, Nat.reduceEqDiff]
 have e2 : oneN 2 (lbF q) = Go.Proofs.YtifnhinopjgfaaaGreat.u64 q.2.1 := by rw [oneN_oneF]; unfold lbF; simp only [oneF_append, oneF_opt, ite_zero_self, ↓reduceIte, Nat.reduceEqDiff]
 have e3 : oneN 3 (lbF q) = Go.Proofs.YtifnhinopjgfaaaGreat.u64 q.2.2 := by rw [oneN_oneF]; unfold lbF; simp only [oneF_append, oneF_opt, ite_zero_self, ↓reduceIte, Nat.reduceEqDiff]
 refine ⟨by rw [e1]; exact h1.u64 hl, ?_⟩
 cases hc : e.2.1 with
 | some t =>
  rw [hc] at h2
  simp only at h2 ⊢
  have h3 := h2.1.u64 hl
  rw [e2]
  refine ⟨fun h0 => ?_, h3⟩
  rw [h0, hz] at h3
  exact hne t hc (Option.some.inj h3).symm
 | none =>
  rw [hc] at h2
  simp only at h2 ⊢
  rw [e2, e3, h2.1, h2.2]
  exact ⟨by rw [← Int.ofNat_zero]; exact u64_nat (by omega), wrap_u64 (hw hc)⟩
theorem MS.go {x : PProf} {T : List ByteArray} {s : PSample} {M : List Nat} (hx : WellP x) (hr : Rng x) (hl : T.length ≤ 100000000) (hz : T[0]? = some eB) (hsx : s ∈ x.samples) (hb : M.length ≤ 2000000000) (h : MS T x s M) : ∃ gs, encFs gs = M ∧ Wfs gs ∧ SmM x T s gs := by
 obtain ⟨lbs, hlb, hM⟩ := h
 obtain ⟨hv1, hv2, hst, hLab, hsk⟩ := hx.samples s hsx
 have hnt := hx.ntyp
 have hid : ∀ n ∈ s.stack.map fun z => (lid x z).toNat, n < 18446744073709551616 := fun n hn => by
  obtain ⟨z, -, rfl⟩ := List.mem_map.1 hn
  have := hr.lid z
  omega
 obtain ⟨ns1, hn1, hn1f⟩ := Mny.us 1 (s.stack.map fun z => (lid x z).toNat) hid
 obtain ⟨g, hg⟩ : ∃ g, g = lbs.map lbF := ⟨_, rfl⟩
 have hge : g.map encFs = lbs.map fun q => lbB q.1 q.2.1 q.2.2 := by rw [hg, List.map_map]; exact List.map_congr_left fun q _ => lbF_enc q
 have hgw : ∀ a ∈ g, Wfs a := fun a ha => by
  rw [hg] at ha
  obtain ⟨q, -, rfl⟩ := List.mem_map.1 ha
  exact lbF_wf q
 obtain ⟨vs, hvs⟩ : ∃ vs, vs = (s.values.map Go.Proofs.YtifnhinopjgfaaaGreat.u64).map (Fld.num 2) := ⟨_, rfl⟩
 have hk2 : ∀ f ∈ vs, fkey f = 2 := by rw [hvs]; exact key_num
 have hk3 : ∀ f ∈ msF 3 (g.map encFs), fkey f = 3 := key_ms
 obtain ⟨gs, hgs⟩ : ∃ gs, gs = usF 1 (s.stack.map fun z => (lid x z).toNat) ++ (vs ++ msF 3 (g.map encFs)) := ⟨_, rfl⟩
 have henc : encFs gs = M := by
  rw [hM, hgs, smB, encFs_append, encFs_append, enc_us, enc_ms, hge]
  congr 2
  rw [hvs, encFs, List.flatMap_map, List.flatMap_map]; rfl
 have hwf : Wfs gs := by
  rw [hgs]
  refine Wfs.app (fun f hf => ?_) (Wfs.app (fun f hf => ?_) fun f hf => ?_)
  ·unfold usF at hf
   split at hf
   ·simp only [List.mem_singleton] at hf
    subst hf
    refine ⟨by omega, fun b hb => ?_⟩
    obtain ⟨n, -, hb⟩ := List.mem_flatMap.1 hb
    exact vint_byte _ b hb
   ·obtain ⟨n, hn, rfl⟩ := List.mem_map.1 hf
    exact ⟨by omega, hid n hn⟩
  ·rw [hvs] at hf
   obtain ⟨n, hn, rfl⟩ := List.mem_map.1 hf
   obtain ⟨z, -, rfl⟩ := List.mem_map.1 hn
   exact ⟨by omega, u64_lt z⟩
  ·obtain ⟨m, hm, rfl⟩ := List.mem_map.1 hf
   obtain ⟨a, ha, rfl⟩ := List.mem_map.1 hm
   exact ⟨by omega, (hgw a ha).byte⟩
 have hok := hwf.ok (by rw [henc]; exact hb)
 refine ⟨gs, henc, hwf, ?_⟩
 constructor
 ·refine ⟨ns1 ++ ((vs ++ msF 3 (g.map encFs)).map fun _ => []), ?_, ?_⟩
  ·rw [hgs]
   exact hn1.app (Mny.none fun f hf => by
    rcases List.mem_append.1 hf with hf | hf
    ·rw [hk2 f hf]; decide
    ·rw [hk3 f hf]; decide)
  ·rw [List.flatten_append, flat_none, List.append_nil, hn1f]
   refine All2.map fun z hz => ⟨?_, (hsk z hz).1⟩
   have := plc_of hx.tab.l.1 hx.tab.l.2.1 (fun i hi => by obtain ⟨m, hm, rfl⟩ := List.mem_map.1 hi; exact (hr.locs m hm).1) (z := z) (by have := (hsk z hz).1; omega) (by simpa using (hsk z hz).2)
   simpa [lids, Function.comp_def] using this
 ·refine ⟨((usF 1 (s.stack.map fun z => (lid x z).toNat)).map fun _ => []) ++ (((s.values.map Go.Proofs.YtifnhinopjgfaaaGreat.u64).map fun n => [n]) ++ ((msF 3 (g.map encFs)).map fun _ => [])), ?_, ?_⟩
  ·rw [hgs]
   refine (Mny.none fun f hf => by rw [key_us f hf]; decide).app (Mny.app ?_ (Mny.none fun f hf => by rw [hk3 f hf]; decide))
   rw [hvs]
   exact Mny.nums 2 _
  ·rw [List.flatten_append, List.flatten_append, flat_none, flat_none, List.append_nil, List.nil_append, flat_single]
   exact All2.map fun z hz => wrap_u64 (hr.vals s hsx z hz)
 ·refine ⟨g, SubOK.of (by rw [henc]; exact hb) ?_ hgw, ?_, fun i gs' e hgi hei => ?_, fun i e t => labE_kT hLab i e t, fun i e => labE_kN hLab i e, by have := labE_few hLab; omega⟩
  ·rw [hgs]; simp only [List.filter_append]
   rw [flt_of key_us (by decide), flt_of hk2 (by decide), flt_self hk3]
   simp only [List.nil_append, fb_ms]
  ·rw [hg, List.length_map]; exact hlb.1.symm
  ·rw [hg, List.getElem?_map] at hgi
   obtain ⟨q, hq, rfl⟩ := Option.map_eq_some_iff.1 hgi
   refine ⟨lbF_ok hl hz (fun t ht he => ?_) (fun hn => ?_) (hlb.2 i q e hq hei), ?_⟩
   ·have hm := List.mem_of_getElem? hei
    unfold labE at hm
    rcases List.mem_append.1 hm with hm | hm
    ·obtain ⟨u, hu, hm⟩ := List.mem_flatMap.1 hm
     obtain ⟨v, hv, rfl⟩ := List.mem_map.1 hm
     simp at ht
     subst ht; subst he
     exact (hLab.tl u hu).2.2 hv
    ·obtain ⟨u, hu, hm⟩ := List.mem_flatMap.1 hm
     obtain ⟨v, hv, rfl⟩ := List.mem_map.1 hm
     cases ht
   ·have hm := List.mem_of_getElem? hei
    unfold labE at hm
    rcases List.mem_append.1 hm with hm | hm
    ·obtain ⟨u, hu, hm⟩ := List.mem_flatMap.1 hm
     obtain ⟨v, hv, rfl⟩ := List.mem_map.1 hm
     cases hn
    ·obtain ⟨u, hu, hm⟩ := List.mem_flatMap.1 hm
     obtain ⟨v, hv, rfl⟩ := List.mem_map.1 hm
     exact hr.nums s hsx u hu v hv
   ·have a1 := opt_len 1 (Go.Proofs.YtifnhinopjgfaaaGreat.u64 q.1); have a2 := opt_len 2 (Go.Proofs.YtifnhinopjgfaaaGreat.u64 q.2.1); have a3 := opt_len 3 (Go.Proofs.YtifnhinopjgfaaaGreat.u64 q.2.2)
    simp only [lbF, List.length_append]; omega
 ·exact foldT_lab hLab
 ·exact foldN_lab hLab
 ·omega
 ·omega
 ·exact hok.2
def pfF (q : PIn) : List Fld := msF 1 q.ts ++ (msF 2 q.ss ++ (msF 3 q.ms ++ (msF 4 q.ls ++ (msF 5 q.fs ++ (strF 6 q.tab ++ (numOpt 7 (Go.Proofs.YtifnhinopjgfaaaGreat.u64 q.dx) ++ (numOpt 8 (Go.Proofs.YtifnhinopjgfaaaGreat.u64 q.kx) ++ (numOpt 9 (Go.Proofs.YtifnhinopjgfaaaGreat.u64 q.ti) ++ (numOpt 10 (Go.Proofs.YtifnhinopjgfaaaGreat.u64 q.du) ++ ((if q.tx ≠ 0 ∨ q.ux ≠ 0 then msF 11 [vtB q.tx q.ux] else []) ++ numOpt 12 (Go.Proofs.YtifnhinopjgfaaaGreat.u64 q.pe)))))))))))
theorem pfF_enc (q : PIn) : encFs (pfF q) = pfB q := by
 unfold pfF pfB
 simp only [encFs_append, enc_ms, enc_str, enc_opt]
 congr 10
 split
 ·rw [enc_ms]; simp [msB]
 ·rfl
theorem key_if {p : Prop} [Decidable p] {k : Nat} {Ms : List (List Nat)} : ∀ f ∈ (if p then msF k Ms else []), fkey f = k := fun f hf => by
 split at hf
 ·exact key_ms f hf
 ·cases hf
theorem oneF_ms (k j s : Nat) (Ms : List (List Nat)) (h : j ≠ k) : oneF k s (msF j Ms) = s := oneF_of key_ms h
theorem oneF_str (k j s : Nat) (Ms : List ByteArray) (h : j ≠ k) : oneF k s (strF j Ms) = s := oneF_of key_str h
theorem oneF_if {p : Prop} [Decidable p] (k j s : Nat) (Ms : List (List Nat)) (h : j ≠ k) : oneF k s (if p then msF j Ms else []) = s := oneF_of key_if h
theorem din {x : PProf} {T : List ByteArray} {q : PIn} (h : PR x T q) (hx : WellP x) (hr : Rng x) (hS : sumS (allS x) ≤ 100000000) (hc : x.comments = []) (hd : x.deflt = eB) : DIn x T (pfF q) := by
 have hTS : sumS T ≤ 100000000 := Nat.le_trans (sumS_sub h.nd h.sub) hS
 have hl : T.length ≤ 100000000 := Nat.le_trans len_sumS hTS
 have hlen : (pfB q).length ≤ 2000000000 := pf_len h hr hx hTS
 have he : (encFs (pfF q)).length ≤ 2000000000 := by rw [pfF_enc]; exact hlen
 have hin : ∀ (k : Nat) (M : List Nat), Fld.bys k M ∈ pfF q → M.length ≤ 2000000000 := fun k M hM => Nat.le_trans (encFs_mem (f := .bys k M) hM) he
 obtain ⟨gt, t1, t2, t3⟩ := h.ts.choose (S := TyM T) (fun M hM => hin 1 M (by simp only [pfF, List.mem_append]; exact .inl (List.mem_map_of_mem hM))) fun a _ M _ hM => MT.go hl hM
 obtain ⟨gs, s1, s2, s3⟩ := h.ss.choose (S := SmM x T) (fun M hM => hin 2 M (by simp only [pfF, List.mem_append]; exact .inr (.inl (List.mem_map_of_mem hM)))) fun a ha M hb hM => MS.go hx hr hl h.zero ha hb hM
 obtain ⟨gm, m1, m2, m3⟩ := h.ms.choose (S := MpM T) (fun M hM => hin 3 M (by simp only [pfF, List.mem_append]; exact .inr (.inr (.inl (List.mem_map_of_mem hM))))) fun a ha M _ hM => MM.go hl (hr.maps a ha) hM
 obtain ⟨gl, l1, l2, l3⟩ := h.ls.choose (S := LcM x) (fun M hM => hin 4 M (by simp only [pfF, List.mem_append]; exact .inr (.inr (.inr (.inl (List.mem_map_of_mem hM)))))) fun a ha M hb hM => ML.go hx hr ha hb hM
 obtain ⟨gf, f1, f2, f3⟩ := h.fs.choose (S := FnM T) (fun M hM => hin 5 M (by simp only [pfF, List.mem_append]; exact .inr (.inr (.inr (.inr (.inl (List.mem_map_of_mem hM))))))) fun a ha M _ hM => MF.go hl (hr.funs a ha) hM
 have hwm : ∀ {k : Nat} {g : List (List Fld)} {Ms : List (List Nat)}, k < 1048576 → g.map encFs = Ms → (∀ a ∈ g, Wfs a) → Wfs (msF k Ms) := fun hk e hw f hf => by
  subst e
  obtain ⟨M, hM, rfl⟩ := List.mem_map.1 hf
  obtain ⟨a, ha, rfl⟩ := List.mem_map.1 hM
  exact ⟨hk, (hw a ha).byte⟩
 have hw : Wfs (pfF q) := by
  refine (hwm (by omega) t1 t2).app ((hwm (by omega) s1 s2).app ((hwm (by omega) m1 m2).app ((hwm (by omega) l1 l2).app ((hwm (by omega) f1 f2).app (Wfs.app (fun f hf => ?_) ((Wfs.opt (by omega) (u64_lt _)).app ((Wfs.opt (by omega) (u64_lt _)).app ((Wfs.opt (by omega) (u64_lt _)).app ((Wfs.opt (by omega) (u64_lt _)).app (Wfs.app ?_ (Wfs.opt (by omega) (u64_lt _))))))))))))
  ·obtain ⟨s, -, rfl⟩ := List.mem_map.1 hf
   exact ⟨by omega, sB_byte s⟩
  ·split
   ·exact hwm (g := [tyF q.tx q.ux]) (by omega) (by simp [tyF_enc]) (by simpa using tyF_wf q.tx q.ux)
   ·intro f hf; cases hf
 have hok := hw.ok he
 have ko := fun (k n : Nat) => key_opt (k := k) (n := n)
 have nt := hx.ntyp
 have nsm := hx.nsam
 have n3 := hx.tab.m.2.2
 have n5 := hx.tab.f.2.2
 have n4 := hx.tab.l.2.2
 simp only [List.length_map] at n3 n4 n5
 have one : ∀ (k : Nat) (n : Nat), (k = 7 ∨ k = 8 ∨ k = 9 ∨ k = 10 ∨ k = 12 ∨ k = 14) → n = (if k = 7 then Go.Proofs.YtifnhinopjgfaaaGreat.u64 q.dx else if k = 8 then Go.Proofs.YtifnhinopjgfaaaGreat.u64 q.kx else if k = 9 then Go.Proofs.YtifnhinopjgfaaaGreat.u64 q.ti else if k = 10 then Go.Proofs.YtifnhinopjgfaaaGreat.u64 q.du else if k = 12 then Go.Proofs.YtifnhinopjgfaaaGreat.u64 q.pe else 0) → oneN k (pfF q) = n := fun k n hk hn => by
  rw [oneN_oneF, hn]
  unfold pfF
  simp only [oneF_append]
  rcases hk with rfl | rfl | rfl | rfl | rfl | rfl <;>
  ·rw [oneF_ms _ 1 _ _ (by decide), oneF_ms _ 2 _ _ (by decide), oneF_ms _ 3 _ _ (by decide), oneF_ms _ 4 _ _ (by decide), oneF_ms _ 5 _ _ (by decide), oneF_str _ 6 _ _ (by decide), oneF_if _ 11 _ _ (by decide)]
   simp only [oneF_opt, ite_zero_self, ↓reduceIte, Nat.reduceEqDiff]
 have flt : ∀ (k : Nat), ((pfF q).filter fun f => fkey f = k).map fbytes = (((msF 1 q.ts).filter fun f => fkey f = k).map fbytes) ++ ((((msF 2 q.ss).filter fun f => fkey f = k).map fbytes) ++ ((((msF 3 q.ms).filter fun f => fkey f = k).map fbytes) ++ ((((msF 4 q.ls).filter fun f => fkey f = k).map fbytes) ++ ((((msF 5 q.fs).filter fun f => fkey f = k).map fbytes) ++ ((((strF 6 q.tab).filter fun f => fkey f = k).map fbytes) ++ ((((numOpt 7 (Go.Proofs.YtifnhinopjgfaaaGreat.u64 q.dx)).filter fun f => fkey f = k).map fbytes) ++ ((((numOpt 8 (Go.Proofs.YtifnhinopjgfaaaGreat.u64 q.kx)).filter fun f => fkey f = k).map fbytes) ++ ((((numOpt 9 (Go.Proofs.YtifnhinopjgfaaaGreat.u64 q.ti)).filter fun f => fkey f = k).map fbytes) ++ ((((numOpt 10 (Go.Proofs.YtifnhinopjgfaaaGreat.u64 q.du)).filter fun f => fkey f = k).map fbytes) ++ ((((if q.tx ≠ 0 ∨ q.ux ≠ 0 then msF 11 [vtB q.tx q.ux] else []).filter fun f => fkey f = k).map fbytes) ++ (((numOpt 12 (Go.Proofs.YtifnhinopjgfaaaGreat.u64 q.pe)).filter fun f => fkey f = k).map fbytes))))))))))) := fun k => by
  unfold pfF
  simp only [List.filter_append, List.map_append]
 have fm : ∀ (k j : Nat) (Ms : List (List Nat)), ((msF j Ms).filter fun f => fkey f = k).map fbytes = if j = k then Ms else [] := fun k j Ms => by
  split
  ·next e => subst e; rw [flt_self key_ms, fb_ms]
  ·next e => rw [flt_of key_ms e]; rfl
 have fs6 : ∀ (k j : Nat) (Ms : List ByteArray), ((strF j Ms).filter fun f => fkey f = k).map fbytes = if j = k then Ms.map sB else [] := fun k j Ms => by
  split
  ·next e => subst e; rw [flt_self key_str, fb_str]
  ·next e => rw [flt_of key_str e]; rfl
 have fo : ∀ (k j n : Nat), j ≠ k → ((numOpt j n).filter fun f => fkey f = k).map fbytes = [] := fun k j n e => by rw [flt_of key_opt e]; rfl
 have fi : ∀ (k : Nat), ((if q.tx ≠ 0 ∨ q.ux ≠ 0 then msF 11 [vtB q.tx q.ux] else []).filter fun f => fkey f = k).map fbytes = if 11 = k then (if q.tx ≠ 0 ∨ q.ux ≠ 0 then [vtB q.tx q.ux] else []) else [] := fun k => by
  split
  ·rw [fm]
  ·simp
 have sub : ∀ (k : Nat) (g : List (List Fld)), k = 1 ∨ k = 2 ∨ k = 3 ∨ k = 4 ∨ k = 5 ∨ k = 11 → (∀ a ∈ g, Wfs a) → g.map encFs = (if 1 = k then q.ts else if 2 = k then q.ss else if 3 = k then q.ms else if 4 = k then q.ls else if 5 = k then q.fs else if q.tx ≠ 0 ∨ q.ux ≠ 0 then [vtB q.tx q.ux] else []) → SubOK k (pfF q) g := fun k g hk hw hg => by
  refine SubOK.of he ?_ hw
  rw [flt k, hg]
  simp only [fm, fs6, fi]
  rcases hk with rfl | rfl | rfl | rfl | rfl | rfl <;> simp [fo]
 constructor
 ·exact hok.1
 ·exact hok.2
 ·rw [flt 6]
  simp only [fm, fs6, fi]
  simp [fo, h.tab]
 ·exact h.zero
 ·omega
 ·rw [one 7 _ (by omega) rfl]; simp only [↓reduceIte]; exact h.dx.u64 hl
 ·rw [one 8 _ (by omega) rfl]; simp only [↓reduceIte, Nat.reduceEqDiff]; exact h.kx.u64 hl
 ·rw [one 9 _ (by omega) rfl]; simp only [↓reduceIte, Nat.reduceEqDiff, h.ti]; exact wrap_u64 hr.time
 ·rw [one 10 _ (by omega) rfl]; simp only [↓reduceIte, Nat.reduceEqDiff, h.du]; exact wrap_u64 hr.dur
 ·rw [one 12 _ (by omega) rfl]; simp only [↓reduceIte, Nat.reduceEqDiff, h.pe]; exact wrap_u64 hr.period
 ·rw [one 14 _ (by omega) rfl]; simp only [↓reduceIte, Nat.reduceEqDiff, hd]; exact h.zero
 ·exact ⟨gt, sub 1 gt (by omega) t2 (by rw [t1]; simp), t3⟩
 ·by_cases hp : q.tx ≠ 0 ∨ q.ux ≠ 0
  ·refine ⟨[tyF q.tx q.ux], sub 11 _ (by omega) (by simpa using tyF_wf q.tx q.ux) (by simp [tyF_enc, hp]), by simp, by simp, ?_⟩
   intro g hg
   obtain rfl := List.mem_singleton.1 hg
   exact tyF_ok hl h.tx h.ux
  ·refine ⟨[], sub 11 _ (by omega) (by simp) (by simp [hp]), by simp, fun _ => ?_, by simp⟩
   have h1 := h.tx.zero h.zero (by omega)
   have h2 := h.ux.zero h.zero (by omega)
   cases hpp : x.per with
   | mk a b => rw [hpp] at h1 h2; simp only at h1 h2; rw [h1, h2]
 ·refine ⟨(pfF q).map fun _ => [], Mny.none fun f hf => ?_, flat_none _⟩
  unfold pfF at hf
  simp only [List.mem_append] at hf
  rcases hf with hf | hf | hf | hf | hf | hf | hf | hf | hf | hf | hf | hf
  ·rw [key_ms f hf]; decide
  ·rw [key_ms f hf]; decide
  ·rw [key_ms f hf]; decide
  ·rw [key_ms f hf]; decide
  ·rw [key_ms f hf]; decide
  ·rw [key_str f hf]; decide
  ·rw [key_opt f hf]; decide
  ·rw [key_opt f hf]; decide
  ·rw [key_opt f hf]; decide
  ·rw [key_opt f hf]; decide
  ·rw [key_if f hf]; decide
  ·rw [key_opt f hf]; decide
 ·exact hc
 ·exact ⟨gm, sub 3 gm (by omega) m2 (by rw [m1]; simp), m3⟩
 ·exact ⟨gf, sub 5 gf (by omega) f2 (by rw [f1]; simp), f3⟩
 ·exact ⟨gl, sub 4 gl (by omega) l2 (by rw [l1]; simp), l3⟩
 ·exact ⟨gs, sub 2 gs (by omega) s2 (by rw [s1]; simp), s3⟩
 ·exact ⟨by omega, by omega, by omega, by omega, by omega⟩
end Go.Proofs.YtifnhinopjgfaaaGreat
