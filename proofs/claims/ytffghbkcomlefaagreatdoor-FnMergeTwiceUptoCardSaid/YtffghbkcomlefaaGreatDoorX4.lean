/-
  Part 4 of the proof. Conditions: as each lemma states them.
-/
import Derived.Test.YtffghbkcomlefaaGreatDoorX3
import Derived.Shelf.SlGeneric
import Derived.Shelf.SlSortCmp.WholeK
import Derived.Shelf.SlSortCmp.NoneTotal
import Derived.Ground.SlsfProg
namespace Go.Proofs.YtffghbkcomlefaaGreatDoor
open Go Go.Fw Go.Proofs Go.Proofs.Tryz
variable {n:Nat} {w w' w0 w1:World}
structure SStep (w:World) (s:MS) (w':World) (s':MS):Prop where
  kx:KeepX s.hot w w'
  hs:∀b∈s'.hot,b∈s.hot∨w.heap.size≤b
  hi:∀b∈s.hot,b∈s'.hot
  cs:∀b,s'.cold b→s.cold b∨w.heap.size≤b
  ci:∀b,s.cold b→s'.cold b
  pm:s'.pm=s.pm
  pb:s'.pb=s.pb
  per:s'.per=s.per
  ty:s'.ty=s.ty
  types:s'.types=s.types
  bl:[s'.mS,s'.mL,s'.mF,s'.mM,s'.iL,s'.iF,s'.iM]=[s.mS,s.mL,s.mF,s.mM,s.iL,s.iF,s.iM]
  gz:Grows s.z s'.z
  hd:{ s'.z with mappings:=[],locs:=[],funcs:=[],samples:=[] }={ s.z with mappings:=[],locs:=[],funcs:=[],samples:=[] }
  cc:s'.cM=s.cM∧s'.cF=s.cF∧s'.cL=s.cL
theorem MStep.s {s s':MS} (h:MStep w s w' s'):SStep w s w' s':=⟨h.kx,h.hs,h.hi,h.cs,h.ci,h.pm,h.pb,h.per,h.ty,h.types,h.bl,h.gz,h.hd,h.cc⟩
theorem SStep.refl {s:MS}:SStep w s w s:=MStep.refl.s
theorem SStep.trans {w2:World} {s s1 s2:MS} (h:SStep w s w1 s1) (k:SStep w1 s1 w2 s2):SStep w s w2 s2:=
  ⟨(h.kx.trans k.kx).drop fun b hb=>by
      rcases List.mem_append.1 hb with hb|hb
      · exact .inl hb
      · exact h.hs b hb,
    fun b hb=>by
      rcases k.hs b hb with h1|h1
      · exact h.hs b h1
      · exact .inr (Nat.le_trans h.kx.size h1),
    fun b hb=>k.hi b (h.hi b hb),fun b hb=>by
      rcases k.cs b hb with h1|h1
      · exact h.cs b h1
      · exact .inr (Nat.le_trans h.kx.size h1),
    fun b hb=>k.ci b (h.ci b hb),k.pm.trans h.pm,k.pb.trans h.pb,k.per.trans h.per,k.ty.trans h.ty,k.types.trans h.types,k.bl.trans h.bl,h.gz.trans k.gz,k.hd.trans h.hd,k.cc.1.trans h.cc.1,k.cc.2.1.trans h.cc.2.1,k.cc.2.2.trans h.cc.2.2⟩
theorem SStep.after {w2:World} {s s':MS} (h:KeepX [] w w1) (k:SStep w1 s w2 s'):SStep w s w2 s':=
  { k with kx:=⟨k.kx.os.trans h.os,k.kx.tape.trans h.tape,k.kx.output.trans h.output,Nat.le_trans h.size k.kx.size,fun b o hb hn=>k.kx.keep b o (h.keep b o hb (by simp)) hn⟩
           hs:=fun b hb=>(k.hs b hb).imp id (Nat.le_trans h.size)
           cs:=fun b hb=>(k.cs b hb).imp id (Nat.le_trans h.size) }
theorem MG.hotAdd {x:PProf} {s:MS} (h:MG w0 x n w s) {b:Nat} (hb:b<w.heap.size) (hc:¬s.cold b):MG w0 x n w { s with hot:=b::s.hot }:=by
  obtain ⟨sa,ma,lo,fu,h1,h2,h3,h4,h5⟩:=h.prof
  exact { h with
    cd:=fun c hcc=>⟨(h.cd c hcc).1,fun hm=>(List.mem_cons.1 hm).elim (fun e=>hc (e▸hcc)) (h.cd c hcc).2⟩
    hl:=fun c hm=>(List.mem_cons.1 hm).elim (fun e=>e▸hb) (h.hl c)
    hh:=fun c hm=>List.mem_cons_of_mem _ (h.hh c hm)
    prof:=⟨sa,ma,lo,fu,h1,h2.mono fun _ _ q k=>⟨k,List.mem_cons_of_mem _ q⟩,h3.mono fun _ _ q k=>⟨k,List.mem_cons_of_mem _ q⟩,h4.mono fun _ _ q k=>⟨k,List.mem_cons_of_mem _ q⟩,h5.mono fun _ _ q k=>⟨k,List.mem_cons_of_mem _ q⟩⟩ }
theorem SKey.vals {m:PSample} {k:SmpK} {v:List Int} (h:SKey m k):SKey { m with values:=v } k:=⟨h.l,h.t,h.n⟩
set_option maxHeartbeats 2000000 in
theorem MG.setS {x:PProf} {s:MS} (h:MG w0 x n w s) {j v:Nat} {m:PSample} {d:List Int} (hv:s.vals[j]? =some v) (hm:s.z.samples[j]? =some m) (k:KeepX [v] w w') (hb:Blk w' v tI64 ((addV m.values d).map (.int .i64))) (hd:d.length=n):
    MG w0 x n w' { s with z:={ s.z with samples:=s.z.samples.set j { m with values:=addV m.values d } } }∧SStep w s w' { s with z:={ s.z with samples:=s.z.samples.set j { m with values:=addV m.values d } } }:=by
  have hh:=h.hh
  simp only[List.mem_append,List.mem_cons,List.not_mem_nil,or_false]at hh
  have hvh:v∈s.hot:=hh _ (.inr (List.mem_of_getElem? hv))
  have C:=h.cool k fun b hb=>by rw[List.mem_singleton.1 hb];exact hvh
  have hbv:=h.oV.2 j _ _ hv hm
  have kb:∀{b T:Nat} {cs:List Value},Blk w b T cs→T≠tI64→Blk w' b T cs:=fun hb n1=>k.blk hb fun hm=>hb.ne hbv n1 (List.mem_singleton.1 hm)
  have km:∀{b:Nat} {e:Array MapEntry} {c:Nat},w.heap[b]? =some (.map e c)→w'.heap[b]? =some (.map e c):=fun hb=>k.keep _ _ hb fun hm=>map_neB hb hbv (List.mem_singleton.1 hm)
  have kt:∀{κ:Type} {enc:κ→Value} {b:Nat} {ms:List (κ×Value)},TbM enc w b ms→TbM enc w' b ms:=fun ⟨es,ck,q1,q2⟩=>⟨es,ck,km q1,q2⟩
  obtain ⟨sa,ma,lo,fu,h1,h2,h3,h4,h5⟩:=h.prof
  have hG:Grows s.z { s.z with samples:=s.z.samples.set j { m with values:=addV m.values d } }:=⟨List.prefix_rfl,List.prefix_rfl,List.prefix_rfl⟩
  have hget:∀{i:Nat} {t:PSample},(s.z.samples.set j { m with values:=addV m.values d })[i]? =some t→(i=j∧t={ m with values:=addV m.values d })∨(i≠j∧s.z.samples[i]? =some t):=fun {i t} hi=>by
    by_cases e:j=i
    · subst e
      rw[List.getElem?_set_self (List.getElem?_eq_some_iff.1 hm).1]at hi
      exact .inl ⟨rfl,(Option.some.inj hi).symm⟩
    · rw[List.getElem?_set_ne e]at hi
      exact .inr ⟨fun q=>e q.symm,hi⟩
  refine ⟨{ h with
    kp:=C.kp,cd:=C.cd,hl:=C.hl,oT:=C.oT,oM:=C.oM,oF:=C.oF,oL:=C.oL
    bpm:=kb h.bpm (by decide)
    prof:=⟨sa,ma,lo,fu,kb h1 (by decide),h2.keep fun b cs _ q=>kb q (by decide),h3.keep fun b cs _ q=>kb q (by decide),h4.keep fun b cs _ q=>kb q (by decide),h5.keep fun b cs _ q=>kb q (by decide)⟩
    tS:=kt h.tS,tL:=kt h.tL,tF:=kt h.tF,tM:=kt h.tM,uL:=kt h.uL,uF:=kt h.uF,uM:=kt h.uM
    oS:=fun i b u t q1 q2 q3=>by
      rcases hget q3 with ⟨rfl,rfl⟩|⟨-,q3⟩
      · exact C.oS i b u m q1 q2 hm
      · exact C.oS i b u t q1 q2 q3
    oV:=⟨by rw[h.oV.1];exact (List.length_set ..).symm,fun i b t q1 q2=>by
      rcases hget q2 with ⟨rfl,rfl⟩|⟨hne,q2⟩
      · rw[hv]at q1;cases q1;exact hb
      · refine k.blk (h.oV.2 i b t q1 q2) fun hm'=>?_
        rw[List.mem_singleton.1 hm']at q1
        have l1:=(List.getElem?_eq_some_iff.1 q1)
        have l2:=(List.getElem?_eq_some_iff.1 hv)
        exact hne (nodup_ix h.nV l1.1 l2.1 (l1.2.trans l2.2.symm))⟩
    sS:=fun kk u hk=>by
      obtain ⟨i,b,t,q1,q2,q3,q4⟩:=h.sS kk u hk
      by_cases e:i=j
      · subst e
        rw[hm]at q2;cases q2
        exact ⟨i,b,_,q1,List.getElem?_set_self (List.getElem?_eq_some_iff.1 hm).1,q3,SKey.vals q4⟩
      · exact ⟨i,b,t,q1,by show (s.z.samples.set j _)[i]? =_;rw[List.getElem?_set_ne fun q=>e q.symm];exact q2,q3,q4⟩
    wz:=⟨h.wz.mp,h.wz.fn,h.wz.lc,fun t ht=>by
      obtain ⟨i,hi⟩:=List.mem_iff_getElem?.1 ht
      rcases hget hi with ⟨rfl,rfl⟩|⟨-,hi⟩
      · obtain ⟨r1,r2,r3,r4,r5,r6⟩:=h.wz.sm m (List.mem_of_getElem? hm)
        exact ⟨addV_len r1 hd,addV_fit _ _,r3,r4,⟨r5.tlen,r5.nlen,r5.tasc,r5.nasc,r5.tl,r5.nl⟩,r6⟩
      · exact h.wz.sm t (List.mem_of_getElem? hi)⟩ },?_⟩
  exact ⟨k.mono fun b hb=>by rw[List.mem_singleton.1 hb];exact hvh,fun _ hb=>.inl hb,fun _ hb=>hb,fun _ hb=>.inl hb,fun _ hb=>hb,rfl,rfl,rfl,rfl,rfl,rfl,hG,rfl,rfl,rfl,rfl⟩
set_option maxHeartbeats 4000000 in
theorem MG.newS {x:PProf} {s:MS} (h:MG w0 x n w s) {L:List Nat} {ma lo fu:Value} {y y':Ent} {p p':Option Addr} {l c c' bn bv:Nat} {m2:PSample} {N:Nat→Prop} {kk:SmpK} (hbv:bv∈s.hot) (hbvn:bv∉s.vals) (hLe:L=[s.pb,s.mS,bv]++rowL y) (k:KeepX L w w')
    (hpb:Blk w s.pb tProf (cProf s.z s.ty (.slice p l c) ma lo fu (.slice none 0 0) s.per)) (hma:OSp (· ∈s.hot) pMap 1 w ma (s.maps.map ptr)) (hlo:OSp (· ∈s.hot) pLoc 1 w lo (s.locs.map ptr)) (hfu:OSp (· ∈s.hot) pFun 1 w fu (s.funs.map ptr)) (hy:y.on=true→Blk w y.b pSam y.cs∧y.b∈s.hot) (hvb:∃cs,Blk w bv tI64 cs)
    (hpb':Blk w' s.pb tProf (cProf s.z s.ty (.slice p' (l+1) c') ma lo fu (.slice none 0 0) s.per)) (hO':Own pSam 1 y' p' (l+1) c' (s.sams.map ptr++[ptr bn])) (hy':y'.on=true→Blk w' y'.b pSam y'.cs) (hyn:y'.on=true→y'.b∈L∨w.heap.size≤y'.b)
    {wb:World} {sb:MS} (h0:SStep wb sb w s) (hN:∀b,N b→wb.heap.size≤b∧b<w'.heap.size∧b∉rowL y'∧b∉s.hot) (hOn:On N w' (SamC s.locs bn bv n m2)) (hV':Blk w' bv tI64 (m2.values.map (.int .i64)))
    (hz2:m2.values.length=n∧Fit m2.values∧m2.stack.length≤60∧(∀q∈m2.stack,0≤q∧q<s.z.locs.length)∧LabP m2∧∀u∈m2.nums,Fit u.list) (hkk:SKey m2 kk) (hM:TbM encSm w' s.mS (mset s.kS kk (ptr bn))):
    ∃s':MS,MG w0 x n w' s'∧SStep wb sb w' s'∧s'.z={ s.z with samples:=s.z.samples++[m2] }:=by
  have hh:=h.hh
  simp only[List.mem_append,List.mem_cons,List.not_mem_nil,or_false]at hh
  have hLh:∀b∈L,b∈s.hot:=fun b hb=>by
    subst hLe
    rcases List.mem_append.1 hb with hb|hb
    · simp only[List.mem_cons,List.not_mem_nil,or_false]at hb
      rcases hb with rfl|rfl|rfl
      · exact hh _ (by simp)
      · exact hh _ (by simp)
      · exact hbv
    · obtain ⟨ho,rfl⟩:=mem_rowL' hb
      exact (hy ho).2
  have C:=h.cool k hLh
  obtain ⟨cv,hvb⟩:=hvb
  obtain ⟨e1,k1,hm1, -⟩:=h.tS
  have hnd:=h.nd
  simp only[List.nodup_cons,List.mem_cons,List.not_mem_nil,or_false,not_or]at hnd
  have hLm:∀{b:Nat},b∈L→b=s.pb∨b=s.mS∨b=bv∨(y.on=true∧b=y.b):=fun {b} hb=>by
    subst hLe
    rcases List.mem_append.1 hb with hb|hb
    · simp only[List.mem_cons,List.not_mem_nil,or_false]at hb
      rcases hb with h|h|h
      · exact .inl h
      · exact .inr (.inl h)
      · exact .inr (.inr (.inl h))
    · exact .inr (.inr (.inr (mem_rowL' hb)))
  have kbx:∀{b T:Nat} {cs:List Value},Blk w b T cs→T≠tProf→T≠pSam→b≠bv→Blk w' b T cs:=fun hb n1 n2 n3=>k.blk hb fun hm=>by
    rcases hLm hm with e|e|e|⟨ho,e⟩
    · exact hb.ne hpb n1 e
    · exact map_neB hm1 hb e.symm
    · exact n3 e
    · exact hb.ne (hy ho).1 n2 e
  have kb:∀{b T:Nat} {cs:List Value},Blk w b T cs→T≠tProf→T≠pSam→T≠tI64→Blk w' b T cs:=fun hb n1 n2 n3=>kbx hb n1 n2 (hb.ne hvb n3)
  have km:∀{b:Nat} {e0:Array MapEntry} {k0:Nat},w.heap[b]? =some (.map e0 k0)→b≠s.mS→w'.heap[b]? =some (.map e0 k0):=fun hb n1=>k.keep _ _ hb fun hm=>by
    rcases hLm hm with e|e|e|⟨ho,e⟩
    · exact map_neB hb hpb e
    · exact n1 e
    · exact map_neB hb hvb e
    · exact map_neB hb (hy ho).1 e
  have kt:∀{κ:Type} {enc:κ→Value} {b:Nat} {ms:List (κ×Value)},TbM enc w b ms→b≠s.mS→TbM enc w' b ms:=fun ⟨es,ck,q1,q2⟩ n1=>⟨es,ck,km q1 n1,q2⟩
  have d1:s.mL≠s.mS:=by omega
  have d2:s.mF≠s.mS:=by omega
  have d3:s.mM≠s.mS:=by omega
  have d4:s.iL≠s.mS:=by omega
  have d5:s.iF≠s.mS:=by omega
  have d6:s.iM≠s.mS:=by omega
  clear hnd
  have hlv:=h.oV.1
  have hls:=h.lS
  have hlen:s.sams.length=s.z.samples.length:=by omega
  have hyb:∀b∈rowL y',b∈s.hot∨w.heap.size≤b:=fun b hb=>by
    obtain ⟨ho,rfl⟩:=mem_rowL' hb
    exact (hyn ho).imp (hLh _) id
  have hG:Grows s.z { s.z with samples:=s.z.samples++[m2] }:=⟨List.prefix_rfl,List.prefix_rfl,List.prefix_rfl⟩
  refine ⟨{ s with kS:=mset s.kS kk (ptr bn),sams:=s.sams++[bn],vals:=s.vals++[bv],z:={ s.z with samples:=s.z.samples++[m2] },hot:=rowL y'++s.hot,cold:=fun b=>s.cold b∨N b },?_,?_,rfl⟩
  · exact {
      kp:=C.kp
      c0:=fun b hb=>.inl (h.c0 b hb)
      cd:=fun b hb=>by
        rcases hb with hb|hb
        · refine ⟨(C.cd b hb).1,fun hm=>?_⟩
          rcases List.mem_append.1 hm with hm|hm
          · rcases hyb b hm with q|q
            · exact (C.cd b hb).2 q
            · have:=(h.cd b hb).1;omega
          · exact (C.cd b hb).2 hm
        · obtain ⟨r1,r2,r3,r4⟩:=hN b hb
          refine ⟨r2,fun hm=>?_⟩
          rcases List.mem_append.1 hm with hm|hm
          · exact r3 hm
          · exact r4 hm
      hl:=fun b hb=>by
        rcases List.mem_append.1 hb with hb|hb
        · obtain ⟨ho,rfl⟩:=mem_rowL' hb
          exact (hy' ho).lt
        · exact C.hl b hb
      hh:=fun b hb=>by
        rcases List.mem_append.1 hb with hb|hb
        · exact List.mem_append_right _ (h.hh b (List.mem_append_left _ hb))
        · rcases List.mem_append.1 hb with hb|hb
          · exact List.mem_append_right _ (h.hh b (List.mem_append_right _ hb))
          · rw[List.mem_singleton.1 hb];exact List.mem_append_right _ hbv
      nd:=h.nd
      bpm:=kb h.bpm (by decide) (by decide) (by decide)
      prof:=⟨.slice p' (l+1) c',ma,lo,fu,hpb',⟨y',p',l+1,c',rfl,by simpa using hO',fun ho=>⟨hy' ho,List.mem_append_left _ (by simp[rowL,ho])⟩⟩,(hma.keep fun b cs _ hb=>kb hb (by decide) (by decide) (by decide)).mono fun b cs hb hk=>⟨hk,List.mem_append_right _ hb⟩,(hlo.keep fun b cs _ hb=>kb hb (by decide) (by decide) (by decide)).mono fun b cs hb hk=>⟨hk,List.mem_append_right _ hb⟩,(hfu.keep fun b cs _ hb=>kb hb (by decide) (by decide) (by decide)).mono fun b cs hb hk=>⟨hk,List.mem_append_right _ hb⟩⟩
      tS:=hM
      tL:=kt h.tL d1
      tF:=kt h.tF d2
      tM:=kt h.tM d3
      uL:=kt h.uL d4
      uF:=kt h.uF d5
      uM:=kt h.uM d6
      oT:=C.oT.keep (fun _ _ _ q=>q) fun _=>.inl
      oM:=C.oM.mono fun b m q=>q.keep (fun _ _ _ q=>q) fun _=>.inl
      oF:=C.oF.mono fun b m q=>q.keep (fun _ _ _ q=>q) fun _=>.inl
      oL:=C.oL.mono fun b m q=>q.keep (fun _ _ _ q=>q) fun _=>.inl
      oS:=fun j b v t h1 h2 h3=>by
        rcases snoc_get h3 with h3|⟨rfl,rfl⟩
        · have hj:=(List.getElem?_eq_some_iff.1 h3).1
          rw[List.getElem?_append_left (by omega)]at h1 h2
          exact (C.oS j b v t h1 h2 h3).keep (fun _ _ _ q=>q) fun _=>.inl
        · rw[get_last hlen.symm]at h1
          rw[get_last hlv.symm]at h2
          cases h1;cases h2
          exact hOn.keep (fun _ _ _ q=>q) fun _=>.inr
      oV:=⟨by rw[List.length_append,List.length_append,hlv];rfl,fun j b t h1 h2=>by
        rcases snoc_get h2 with h2|⟨rfl,rfl⟩
        · have hj:=(List.getElem?_eq_some_iff.1 h2).1
          rw[List.getElem?_append_left (by omega)]at h1
          exact kbx (h.oV.2 j b t h1 h2) (by decide) (by decide) fun e=>hbvn (e▸List.mem_of_getElem? h1)
        · rw[get_last hlv.symm]at h1
          cases h1
          exact hV'⟩
      lS:=by rw[List.length_append,List.length_append,hls];rfl
      nV:=List.nodup_append.2 ⟨h.nV,by simp,fun a ha b hb e=>by
        obtain rfl:=List.mem_singleton.1 hb
        subst e
        exact hbvn ha⟩
      nM:=h.nM
      nF:=h.nF
      nL:=h.nL
      sM:=h.sM
      sF:=h.sF
      sL:=h.sL
      sS:=fun k' u hk=>by
        rw[mget_mset]at hk
        split at hk
        · next e=>
          subst e;cases hk
          exact ⟨s.sams.length,bn,m2,get_last rfl,get_last hlen,rfl,hkk⟩
        · obtain ⟨j,b,m0,q1,q2,q3,q4⟩:=h.sS k' u hk
          exact ⟨j,b,m0,get_snoc q1,get_snoc q2,q3,q4⟩
      rM:=h.rM
      rF:=h.rF
      rL:=h.rL
      wz:=⟨h.wz.mp,h.wz.fn,h.wz.lc,fun t ht=>by
        rcases List.mem_append.1 ht with ht|ht
        · exact h.wz.sm t ht
        · rw[List.mem_singleton.1 ht];exact hz2⟩
      bM:=h.bM
      bF:=h.bF
      bL:=h.bL }
  · exact {
      kx:=(h0.kx.trans k).drop fun b hb=>(List.mem_append.1 hb).elim .inl fun q=>h0.hs b (hLh b q)
      hs:=fun b hb=>(List.mem_append.1 hb).elim (fun q=>(hyb b q).elim (h0.hs b) fun q=>.inr (Nat.le_trans h0.kx.size q)) (h0.hs b)
      hi:=fun b hb=>List.mem_append_right _ (h0.hi b hb)
      cs:=fun b hb=>hb.elim (h0.cs b) fun e=>.inr (hN b e).1
      ci:=fun b hb=>.inl (h0.ci b hb)
      pm:=h0.pm,pb:=h0.pb,per:=h0.per,ty:=h0.ty,types:=h0.types,bl:=h0.bl
      gz:=h0.gz.trans hG,hd:=h0.hd,cc:=h0.cc }
end Go.Proofs.YtffghbkcomlefaaGreatDoor
namespace Go.Fw
open Go
variable {H:Heap} {cs xs:List Value} {T b c elem i j:Nat} {x:Operand} {p:Option Addr} {v:Value} {w w1:World}
structure AlE where
 idx:Nat
 dst:Nat
 val:Nat→Value
 ent:Nat→Ent
def goA (ops:Array Oper) (nt:Nat) (A:List Nat) (listed:Array Bool) (s2:Sched):Bool:=
 A.all (fun c=>(Region.ready .any ops listed).contains c)
  &&(List.range ops.size).all (fun i=>listed.getD i true||A.contains i||A.all fun c=>((ops[i]?).map fun o=>o.after.any fun e=>Region.binds .any e&&(Nat.beq e.on c||(!listed.getD e.on false&& !A.contains e.on))).getD false)
  &&goB ops nt (A.foldl (fun l c=>l.setIfInBounds c true) listed) s2
def goM (ops:Array Oper) (nt:Nat) (A:List Nat) (s2:Sched):Array Bool→List Nat→Bool
 |listed,[]=>goA ops nt A listed s2
 |listed,i::r=>Nat.blt i nt&&(Region.ready .any ops listed).contains i&&Region.free .any ops listed i
  &&(List.range ops.size).all (fun t=>Nat.blt t nt|| !listed.getD t true)&&goM ops nt A s2 (listed.setIfInBounds i true) r
def schedM (ops:Array Oper) (nt:Nat) (s1 A:List Nat) (s2:Sched):Bool:=tailB ops nt&&Region.noSelect ops&&Nat.beq (s1.length+(A.length+s2.length)) ops.size&&goM ops nt A s2 (Array.replicate ops.size false) s1
def wpM (P:Program) (ops:Array Oper) (S:World→Prop) (R:Act→World→Prop):List Nat→Act→World→Prop
 |[],a,w=>R a w
 |i::r,a,w=>∃o v,ops[i]? =some o∧YieldsIf P ops S o v a∧S w∧wpM P ops S R r (a.put o.dst v) w
theorem Hp.perm {f:Fm} {H':Heap} (p:H.Perm H'):Hp f w H→Hp f w H':=by
 induction p with
 |nil=>exact id
 |cons x p ih=>exact fun h=>⟨h.1,h.2.1,fun he z hz=>h.2.2.1 he z (p.mem_iff.2 hz),ih h.2.2.2⟩
 |swap x y l=>exact fun h=>⟨h.2.2.2.1,h.2.2.2.2.1,fun he z hz hze=>by
    rcases List.mem_cons.1 hz with rfl|hz
    ·exact (h.2.2.1 hze _ (List.mem_cons_self ..) he).symm
    ·exact h.2.2.2.2.2.1 he z hz hze,h.1,h.2.1,fun he z hz hze=>h.2.2.1 he z (List.mem_cons_of_mem _ hz) hze,h.2.2.2.2.2.2⟩
 |trans _ _ ih1 ih2=>exact fun h=>ih2 (ih1 h)
theorem look_perm {E E':Env} (p:E.Perm E') (e:Env) (t:Nat):(E.map (·.1)).Nodup→look (E++e) t=look (E'++e) t:=by
 induction p with
 |nil=>exact fun _=>rfl
 |cons x p ih=>
  intro hn
  rw[List.map_cons,List.nodup_cons]at hn
  obtain ⟨s,v⟩:=x
  exact congrArg (fun q=>bif Nat.beq s t then some v else q) (ih hn.2)
 |swap x y l=>
  intro hn
  obtain ⟨s,v⟩:=x
  obtain ⟨s',v'⟩:=y
  simp only[List.map_cons,List.nodup_cons,List.mem_cons,not_or]at hn
  show (bif Nat.beq s' t then some v' else bif Nat.beq s t then some v else look (l++e) t)=(bif Nat.beq s t then some v else bif Nat.beq s' t then some v' else look (l++e) t)
  cases h1:Nat.beq s' t<;>cases h2:Nat.beq s t<;>try rfl
  exact absurd ((Nat.eq_of_beq_eq_true h1).trans (Nat.eq_of_beq_eq_true h2).symm) hn.1.1
 |trans p1 p2 ih1 ih2=>exact fun hn=>(ih1 hn).trans (ih2 ((p1.map _).nodup_iff.1 hn))
theorem look_skip:∀{E:Env} {e:Env} {t:Nat},t∉E.map (·.1)→look (E++e) t=look e t
 |[],_,_,_=>rfl
 |(s,v)::E,e,t,h=>by
     simp only[List.map_cons,List.mem_cons,not_or]at h
     have:Nat.beq s t=false:=by
      cases hb:Nat.beq s t with
      |false=>rfl
      |true=>exact absurd (Nat.eq_of_beq_eq_true hb).symm h.1
     show (bif Nat.beq s t then some v else look (E++e) t)=_
     rw[this,cond_false,look_skip h.2]
def alE (bs:Nat→Nat) (A:List AlE):Env:=A.map fun c=>(c.dst,c.val (bs c.idx))
def alH (bs:Nat→Nat) (A:List AlE):Heap:=A.map fun c=>c.ent (bs c.idx)
def AlX (A:List AlE) (e e':Env):Prop:=∀t v,look e t=some v→A.all (fun c=> !Nat.beq c.dst t)=true→look e' t=some v
section
variable {P:Program} {Q:Exit→Act→World→Prop} {n:Nat} {f:Fm} {ops:Array Oper} {nt:Nat} {HS:Heap}
structure AlOK (P:Program) (ops:Array Oper) (Q:Exit→Act→World→Prop) (f:Fm) (HS:Heap) (nt n:Nat) (A:List AlE) (s2:Sched) (e:Env) (H:Heap):Prop where
 sub:∀x∈HS,x∈H
 step:∀c∈A,∃o,ops[c.idx]? =some o∧∀(e':Env) (H':Heap) (K:Act→World→Prop),AlX A e e'→(∀b,NJ K n f ((c.dst,c.val b)::e') (c.ent b::H'))→J P ops (Exit.then K Q) n f e' H' [o]
 fin:∀bs:Nat→Nat,DJ P ops Q f HS nt n (alE bs A++e) (alH bs A++H) s2
 dst:(A.map (·.dst)).Nodup
 idx:(A.map (·.idx)).Nodup
theorem getD_tf {l:Array Bool} (h:j<l.size):l.getD j true=l.getD j false:=by simp[Array.getD,h]
theorem arr_ext {a b:Array Bool} (hs:a.size=b.size) (h:∀j,a.getD j false=b.getD j false):a=b:=by
 apply Array.ext hs
 intro j h1 h2
 have:=h j
 simpa[Array.getD,h1,h2]using this
theorem getD_set {l:Array Bool}:(l.setIfInBounds c true).getD j false=(l.getD j false||(Nat.beq c j&&decide (j<l.size))):=by
 by_cases hj:j<l.size
 ·by_cases e:c=j
  ·subst e;simp[Array.getD,hj]
  ·have hb:Nat.beq c j=false:=by
    cases hb:Nat.beq c j with
    |false=>rfl
    |true=>exact absurd (Nat.eq_of_beq_eq_true hb) e
   simp[Array.getD,hj,hb,Array.getElem_setIfInBounds,e]
 ·simp[Array.getD,hj]
structure Lst (base listed:Array Bool) (D:List Nat):Prop where
 size:listed.size=base.size
 at_:∀j,listed.getD j false=(base.getD j false||(D.contains j&&decide (j<base.size)))
theorem Lst.set {base listed:Array Bool} {D:List Nat} (h:Lst base listed D) (c:Nat):Lst base (listed.setIfInBounds c true) (c::D):=by
 refine ⟨by simp[h.size],fun j=>?_⟩
 rw[getD_set,h.at_ j,h.size]
 have e:(c::D).contains j=(Nat.beq c j||D.contains j):=by
  rw[List.contains_cons]
  congr 1
  cases hb:Nat.beq c j with
  |true=>rw[Nat.eq_of_beq_eq_true hb];simp
  |false=>
   have:¬j=c:=fun e=>by subst e;simp at hb
   simpa using this
 rw[e]
 cases base.getD j false<;>cases Nat.beq c j<;>cases D.contains j<;>simp
theorem Lst.fold {base:Array Bool}:∀(A:List Nat) {listed:Array Bool} {D:List Nat},Lst base listed D→∃D',Lst base (A.foldl (fun l c=>l.setIfInBounds c true) listed) D'∧∀j,j∈D'↔j∈A∨j∈D
 |[],_,D,h=>⟨D,h,fun j=>by simp⟩
 |c::A,_,D,h=>by
    obtain ⟨D',h1,h2⟩:=Lst.fold A (h.set c)
    exact ⟨D',h1,fun j=>by rw[h2,List.mem_cons,List.mem_cons];exact ⟨fun q=>by rcases q with q|q|q;exact .inl (.inr q);exact .inl (.inl q);exact .inr q,fun q=>by rcases q with (q|q)|q;exact .inr (.inl q);exact .inl q;exact .inr (.inr q)⟩⟩
theorem wpG_of_A (ht:tailB ops nt=true) (hsel:Region.noSelect ops=true) (hQ:∀c a a' w,Q (.panic c) a w→Q (.panic c) a' w) {A:List AlE} {s2:Sched} {e:Env} (hA:AlOK P ops Q f HS nt n A s2 e H) {base:Array Bool} (hbs:base.size=ops.size) (hg:goA ops nt (A.map (·.idx)) base s2=true):
  ∀(m:Nat) (L D:List AlE) (bs:Nat→Nat) (listed:Array Bool) (a:Act) (w:World),L.length=m→(D++L).Perm A→Clo ops listed→Lst base listed (D.map (·.idx))→Sat n (alE bs D++e) a→Hp f w (alH bs D++H)→f.ok w→wpG P ops Q (Sx f HS) nt (m+s2.length) listed a w
 |0,L,D,bs,listed,a,w,hl,hp,hc,hls,ha,hH,hf=>by
    have hL:L=[]:=List.eq_nil_of_length_eq_zero hl
    subst hL
    rw[List.append_nil]at hp
    simp only[goA,Bool.and_eq_true]at hg
    rw[Nat.zero_add]
    have hlst:listed=(A.map (·.idx)).foldl (fun l c=>l.setIfInBounds c true) base:=by
     obtain ⟨D',h1,h2⟩:=Lst.fold (A.map (·.idx)) (D:=[]) (listed:=base) (base:=base) ⟨rfl,fun j=>by simp⟩
     refine arr_ext (hls.size.trans h1.size.symm) fun j=>?_
     rw[hls.at_,h1.at_]
     congr 2
     have:j∈D'↔j∈D.map (·.idx):=by rw[h2];simp only[List.not_mem_nil,or_false];exact ((hp.map _).mem_iff).symm
     rw[Bool.eq_iff_iff]
     simp[this]
    have hd:((alE bs D).map (·.1)).Nodup:=by
     have:(alE bs D).map (·.1)=D.map (·.dst):=by simp[alE,Function.comp_def]
     rw[this];exact (hp.map _).nodup_iff.2 hA.dst
    refine wpG_of_S ht hsel hQ s2 listed a w hc (by rw[hlst];exact hg.2) (hA.fin bs w (Hp.perm ((hp.map _).append_right H) hH) hf a ⟨ha.size,ha.defs,fun t v ht=>ha.has t v ?_⟩)
    have hpm:(alE bs D).Perm (alE bs A):=List.Perm.map _ hp
    have h1:=look_perm hpm e t hd
    rw[h1];exact ht
 |m+1,L,D,bs,listed,a,w,hl,hp,hc,hls,ha,hH,hf=>by
    have hg':=hg
    simp only[goA,Bool.and_eq_true,List.all_eq_true]at hg'
    obtain ⟨⟨g1,g2⟩, -⟩:=hg'
    have hidx:((D++L).map (·.idx)).Nodup:=(hp.map _).nodup_iff.2 hA.idx
    have hdst:((D++L).map (·.dst)).Nodup:=(hp.map _).nodup_iff.2 hA.dst
    have hDL:∀q∈D,∀c∈L,q.idx≠c.idx:=fun q hq c hcL e=>by
     rw[List.map_append,List.nodup_append]at hidx
     exact hidx.2.2 _ (List.mem_map_of_mem hq) _ (List.mem_map_of_mem hcL) e
    -- a new block's operation that waits is ready
    have hrdy:∀c∈L,base.getD c.idx true=false∧∃o,ops[c.idx]? =some o∧∀e∈o.after,Region.binds .any e=true→base.getD e.on false=true:=fun c hcL=>
     mem_ready.1 (by simpa using g1 _ (List.mem_map_of_mem (f:=(·.idx)) (hp.subset (List.mem_append_right _ hcL))))
    obtain ⟨c0,hc0⟩:∃c0,c0∈L:=by
     cases L with
     |nil=>cases hl
     |cons c0 _=>exact ⟨c0,List.mem_cons_self ..⟩
    have hun:∀c∈L,listed.getD c.idx false=false∧c.idx<ops.size:=fun c hcL=>by
     obtain ⟨h1,o,ho, -⟩:=hrdy c hcL
     have hlt:=(Array.getElem?_eq_some_iff.1 ho).1
     refine ⟨?_,hlt⟩
     rw[hls.at_, ← getD_tf (by rw[hbs];exact hlt),h1]
     have:(D.map (·.idx)).contains c.idx=false:=by
      cases hb:(D.map (·.idx)).contains c.idx with
      |false=>rfl
      |true=>
       have hm:c.idx∈D.map (·.idx):=by simpa using hb
       obtain ⟨q,hq,he⟩:=List.mem_map.1 hm
       exact absurd he (hDL q hq c hcL)
     rw[this];rfl
    rw[Nat.succ_add]
    refine ⟨fun h0=>?_,fun j hj=>?_⟩
    ·have:c0.idx∈Region.ready .any ops listed:=by
      obtain ⟨-,o,ho,hall⟩:=hrdy c0 hc0
      obtain ⟨h2,h3⟩:=hun c0 hc0
      refine mem_ready.2 ⟨by rw[getD_tf (by rw[hls.size,hbs];exact h3)];exact h2,o,ho,fun e he hb=>?_⟩
      rw[hls.at_,hall e he hb];rfl
     rw[h0]at this;cases this
    obtain ⟨hjt,o,hjo,hall⟩:=mem_ready.1 hj
    have hjl:=(Array.getElem?_eq_some_iff.1 hjo).1
    have hjf:listed.getD j false=false:=by rw[← getD_tf (by rw[hls.size,hbs];exact hjl)];exact hjt
    rw[hls.at_]at hjf
    simp only[Bool.or_eq_false_iff,Bool.and_eq_false_iff,decide_eq_false_iff_not]at hjf
    obtain ⟨hjb,hjD⟩:=hjf
    have hjD:j∉D.map (·.idx):=fun hm=>by
     rcases hjD with h|h
     ·have:(D.map (·.idx)).contains j=true:=by simpa using hm
      rw[this]at h;cases h
     ·exact h (by rw[hbs];exact hjl)
    have hjA:j∈A.map (·.idx):=by
     have h1:=g2 j (List.mem_range.2 hjl)
     simp only[Bool.or_eq_true,List.all_eq_true]at h1
     rcases h1 with (h1|h1)|h1
     ·rw[getD_tf (by rw[hbs];exact hjl),hjb]at h1;cases h1
     ·simpa using h1
     ·have h2:=h1 c0.idx (List.mem_map_of_mem (f:=(·.idx)) (hp.subset (List.mem_append_right _ hc0)))
      rw[hjo]at h2
      simp only[Option.map_some,Option.getD_some,Array.any_eq_true,Bool.and_eq_true,Bool.or_eq_true,Bool.not_eq_true']at h2
      obtain ⟨i,hi,hb,h3⟩:=h2
      have h4:=hall _ (Array.getElem_mem hi) hb
      rcases h3 with h3|⟨h3,h5⟩
      ·rw[Nat.eq_of_beq_eq_true h3,(hun c0 hc0).1]at h4;cases h4
      ·rw[hls.at_,h3]at h4
       simp only[Bool.false_or,Bool.and_eq_true]at h4
       have hm:(o.after[i]).on∈D.map (·.idx):=by simpa using h4.1
       have hm2:(o.after[i]).on∈A.map (·.idx):=by
        obtain ⟨q,hq,he⟩:=List.mem_map.1 hm
        rw[← he]
        exact List.mem_map_of_mem (hp.subset (List.mem_append_left _ hq))
       have:(A.map (·.idx)).contains (o.after[i]).on=true:=by simpa using hm2
       rw[this]at h5;cases h5
    obtain ⟨c,hcA,rfl⟩:=List.mem_map.1 hjA
    have hcL:c∈L:=by
     rcases List.mem_append.1 (hp.mem_iff.2 hcA) with h|h
     ·exact absurd (List.mem_map_of_mem h) hjD
     ·exact h
    obtain ⟨o,ho,hs⟩:=hA.step c hcA
    have hx:AlX A e (alE bs D++e):=fun t v hv hn=>by
     rw[look_skip fun hm=>?_]
     ·exact hv
     ·have:(alE bs D).map (·.1)=D.map (·.dst):=by simp[alE,Function.comp_def]
      rw[this]at hm
      obtain ⟨d,hd,rfl⟩:=List.mem_map.1 hm
      have:=List.all_eq_true.1 hn d (hp.subset (List.mem_append_left _ hd))
      simp at this
    refine op_step ho (hs (alE bs D++e) (alH bs D++H) _ hx (fun b w' hH' hf' a' ha'=>⟨fun _=>⟨fun x hx ho=>hH'.blk (List.mem_cons_of_mem _ (List.mem_append_right _ (hA.sub x hx))) ho,hf'⟩,?_⟩) w hH hf) ha
    -- the numbers, one more
    have hcD:∀q∈D,q.idx≠c.idx:=fun q hq=>hDL q hq c hcL
    have e1:alE (fun k=>if k=c.idx then b else bs k) (c::D)=(c.dst,c.val b)::alE bs D:=by
     unfold alE
     rw[List.map_cons]
     congr 1
     ·simp
     ·exact List.map_congr_left fun q hq=>by simp only[if_neg (hcD q hq)]
    have e2:alH (fun k=>if k=c.idx then b else bs k) (c::D)=c.ent b::alH bs D:=by
     unfold alH
     rw[List.map_cons]
     congr 1
     ·simp
     ·exact List.map_congr_left fun q hq=>by simp only[if_neg (hcD q hq)]
    obtain ⟨L1,L2,hLe⟩:=List.append_of_mem hcL
    have hll:(L1++L2).length=m:=by rw[hLe]at hl;simp at hl⊢;omega
    refine wpG_of_A ht hsel hQ hA hbs hg m (L1++L2) (c::D) (fun k=>if k=c.idx then b else bs k) _ a' w' hll ?_ (hc.set hj) (hls.set c.idx) (by rw[e1];exact ha') (by rw[e2];exact hH') hf'
    refine List.Perm.trans ?_ hp
    rw[hLe,List.cons_append]
    refine List.Perm.trans (List.perm_middle.symm) ?_
    exact List.Perm.append_left D List.perm_middle.symm
theorem wpG_of_M (ht:tailB ops nt=true) (hsel:Region.noSelect ops=true) (hQ:∀c a a' w,Q (.panic c) a w→Q (.panic c) a' w) {A:List AlE} {s2:Sched}:
  ∀(s1:List Nat) (listed:Array Bool) (a:Act) (w:World),Clo ops listed→goM ops nt (A.map (·.idx)) s2 listed s1=true→wpM P ops (Sx f HS) (fun a w=>∃e H,Sat n e a∧Hp f w H∧f.ok w∧AlOK P ops Q f HS nt n A s2 e H) s1 a w→wpG P ops Q (Sx f HS) nt (s1.length+(A.length+s2.length)) listed a w
 |[],listed,a,w,hc,hg,h=>by
    obtain ⟨e,H,ha,hH,hf,hA⟩:=h
    rw[List.length_nil,Nat.zero_add]
    exact wpG_of_A ht hsel hQ hA hc.size hg A.length A [] (fun _=>0) listed a w rfl (List.Perm.refl _) hc ⟨rfl,fun j=>by simp⟩ ha hH hf
 |i::r,listed,a,w,hc,hg,h=>by
    simp only[goM,Bool.and_eq_true,Nat.blt_eq]at hg
    obtain ⟨⟨⟨⟨h1,h2⟩,h3⟩,h4⟩,h5⟩:=hg
    obtain ⟨o,v,ho,hy,hS,hrest⟩:=h
    have hmem:i∈Region.ready .any ops listed:=by simpa using h2
    rw[List.length_cons,Nat.add_right_comm]
    refine wpG_first ho (Region.noSelect_spec hsel) (fun c a w hq=>hQ c _ _ w hq) ht h1 _ listed a w hc ?_ (Region.free_spec ho h3) hmem hy hS ?_
    ·intro t h6 h7
     have:=List.all_eq_true.1 h4 t (List.mem_range.2 h7)
     simp only[Bool.or_eq_true,Nat.blt_eq,Bool.not_eq_true']at this
     rcases this with h8|h8
     ·omega
     ·exact h8
    ·exact wpG_of_M ht hsel hQ r _ _ _ (hc.set hmem) h5 hrest
def DM (P:Program) (ops:Array Oper) (Q:Exit→Act→World→Prop) (f:Fm) (HS:Heap) (nt n:Nat) (A:List AlE) (s2:Sched) (e:Env) (H:Heap) (s1:List Nat):Prop:=
 ∀w,Hp f w H→f.ok w→∀a,Sat n e a→wpM P ops (Sx f HS) (fun a w=>∃e H,Sat n e a∧Hp f w H∧f.ok w∧AlOK P ops Q f HS nt n A s2 e H) s1 a w
variable {e:Env} {H:Heap} {A:List AlE} {s2:Sched} {r:List Nat} {d ty:Nat} {pos:String} {af:Array Edge}
theorem cj_drawM {id:Nat} {l:List Oper} (nt:Nat) (s1:List Nat) (A:List AlE) (s2:Sched) (idx:List Nat) (_:pickH H idx=some HS) (hm:P.follows .mixedOrders=true) (hs:schedM l.toArray nt s1 (A.map (·.idx)) s2=true)
  (h:DM P l.toArray (NoP Q) f HS nt n A s2 e H s1):CJ P (.region id l.toArray true) Q n f e H:=fun w hH hf a ha=>by
 simp only[schedM,Bool.and_eq_true]at hs
 obtain ⟨⟨⟨h1,h2⟩,h3⟩,h4⟩:=hs
 have hD:Dr w { w with drawn:=w.drawn+1 }:=⟨rfl,rfl,rfl,rfl⟩
 have h5:(Code.region id l.toArray true).wp P (NoP Q) a w:=by
  have h6:=wpG_of_M (P:=P) (Q:=NoP Q) h1 h2 (fun _ _ _ _ hq=>hq) s1 (Array.replicate l.toArray.size false) a _ ⟨by simp,by
   intro j oj _ hl
   rw[getD_replicate_false]at hl
   cases hl⟩ h4 (h { w with drawn:=w.drawn+1 } (hH.mono fun _ _ _ o hb=>by rw[hD.heap];exact hb) (Fr.dr hf hD) a ha)
  have h7:=Nat.eq_of_beq_eq_true h3
  rw[List.length_map]at h7
  rw[h7]at h6
  exact wp_region_any hm (wpG_any _ _ _ _ h6)
 exact Code.wp_mono (fun x a w hq=>by cases x<;>first|exact hq|exact hq.elim) h5
theorem dm_val {op:Op} (hi:ops[i]? =some ⟨some d,op,ty,pos,af,none⟩) (hd:Nat.blt d n=true) (hS:∀x∈HS,x∈H)
  (hr:∀a w,Sat n e a→(execOp a.eval ⟨some d,op,ty,pos,af,none⟩).run P w=.ok (.value v) w) (k:DM P ops Q f HS nt n A s2 ((d,v)::e) H r):DM P ops Q f HS nt n A s2 e H (i::r):=fun w hH hf a ha=>
 ⟨_,v,hi,.inl ⟨by simp[Region.wanted],fun w _=>hr a w ha⟩,⟨fun x hx ho=>hH.blk (hS x hx) ho,hf⟩,k w hH hf _ (ha.put hd)⟩
theorem dm_ld {op:Op} (hi:ops[i]? =some ⟨some d,op,ty,pos,af,none⟩) (hd:Nat.blt d n=true) (hS:∀x∈HS,x∈H)
  (hr:∀a w,Sat n e a→Sx f HS w→(execOp a.eval ⟨some d,op,ty,pos,af,none⟩).run P w=.ok (.value v) w) (k:DM P ops Q f HS nt n A s2 ((d,v)::e) H r):DM P ops Q f HS nt n A s2 e H (i::r):=fun w hH hf a ha=>
 ⟨_,v,hi,.inl ⟨by simp[Region.wanted],fun w hw=>hr a w ha hw⟩,⟨fun x hx ho=>hH.blk (hS x hx) ho,hf⟩,k w hH hf _ (ha.put hd)⟩
theorem dm_set (h:AlOK P ops Q f HS nt n A s2 e H):DM P ops Q f HS nt n A s2 e H []:=fun _ hH hf _ ha=>⟨e,H,ha,hH,hf,h⟩
end
theorem Hp.mayE {f:Fm}:∀{H:Heap},Hp f w H→∀{i:Nat} {y:Ent},H[i]? =some y→y.ex=true→y.wr=true→f.may y.b y.tag
 |[],_,_,_,h,_,_=>by simp at h
 |x::r,h,0,y,hi,he,hw=>by cases hi;exact h.2.1 he hw
 |x::r,h,i+1,y,hi,he,hw=>Hp.mayE h.2.2.2 (i:=i) (by simpa using hi) he hw
theorem Hp.freshE {B:Nat} (h:Hp ⟨w1,B,[]⟩ w H) {y:Ent} (hi:H[i]? =some y) (he:y.ex=true) (hw:y.wr=true):w1.heap.size≤y.b:=by
 rcases h.mayE hi he hw with q|⟨-,q⟩
 ·exact q
 ·cases q
def rowP (L:List Value) (r:Nat):List Value:=L++List.replicate r (.pointer none)
theorem rowP_len {L:List Value} {r:Nat}:(rowP L r).length=L.length+r:=by simp[rowP]
theorem rowP_step {L:List Value} {r:Nat}:setL (rowP L (r+1)) L.length [v]=rowP (L++[v]) r:=by
 unfold rowP
 rw[List.replicate_succ,setL_app];simp
theorem KeepX.thenNew {l m:List Nat} {a b c:World} (h:KeepX l a b) (k:KeepX (m++l) b c) (hm:∀x∈m,a.heap.size≤x):KeepX l a c:=(h.trans k).drop fun x hx=>by
 rcases List.mem_append.1 hx with hx|hx
 ·exact .inl hx
 ·rcases List.mem_append.1 hx with hx|hx
  ·exact .inr (hm x hx)
  ·exact .inl hx
theorem os_first {P:Program} {l:Nat} (h:OS T 1 w (.slice p l c) xs) (k:Keep w w1):(Builtin.firstCells 1 l (.slice p l c)).run P w1=.ok xs.toArray w1:=by
 obtain ⟨p',l',c',e,hl, -,hx⟩:=h.openF
 cases e
 rw[Nat.mul_one]at hl
 by_cases h0:l=0
 ·subst h0
  have:xs=[]:=List.eq_nil_of_length_eq_zero hl
  subst this
  cases p with
  |none=>simp[Builtin.firstCells]
  |some a=>
   simp only[Builtin.firstCells,Nat.zero_mul]
   rfl
 ·obtain ⟨b,rfl,hx2⟩:=hx (by omega)
  simp only[Builtin.firstCells]
  rw[Nat.mul_one, ← hl]
  exact run_loadCells w1 xs 0 fun j u hj=>by
   rw[Nat.zero_add]
   exact k.cell (hx2 ⟨w,0,[]⟩ rfl rfl w ok_refl j u hj)
theorem putHs:∀{H:Heap} {i:Nat} {y:Ent},H[i]? =some y→putH H i y=H
 |[],_,_,h=>by simp at h
 |x::r,0,y,h=>by simp at h;subst h;rfl
 |x::r,i+1,y,h=>by simp at h;simp[putH,putHs h]
section
variable {P:Program} {Q:Exit→Act→World→Prop} {n:Nat} {f:Fm} {e:Env} {H:Heap} {ops:Array Oper} {rest:List Oper} {d ty:Nat} {pos:String} {af:Array Edge}
theorem j_copyO {sT xT m:Nat} {z:Operand} {w0:World} (i:Nat) (hy:H[i]? =some ⟨b,T,cs,true,true,none⟩) (hu:∀w,(underlying sT).run P w=.ok (.slice elem) w) (hsz:∀w,(sizeOf elem).run P w=.ok 1 w)
  (hm:xs.length=m) (hcs:cs.length=m) (hx:ev e x=some (.slice (some ⟨b,0,none⟩) m m)) (hz:ev e z=some (.slice p m c)) {T2:Nat} (hO:OS T2 1 w0 (.slice p m c) xs) (hk:∀w,Hp f w H→f.ok w→Keep w0 w) (hs:xs.all scal=true) (hd:Nat.blt d n=true)
  (k:J P ops Q n f ((d,.int .i64 ((m:Nat):Int))::e) (putH H i ⟨b,T,xs,true,true,none⟩) rest):J P ops Q n f e H (⟨some d,.call ⟨.builtin .copy, #[x,z], #[sT,xT]⟩,ty,pos,af,none⟩::rest):=by
 refine j_copy (m:=m) (news:=xs) i hy rfl rfl rfl hu hsz hx hz (fun w=>lenOf_slice _ _ _ _) (fun w hH hf=>?_) hs (by show 0+xs.length≤cs.length;omega) hd ?_
 ·rw[show Nat.min m m=m from Nat.min_self _]
  exact os_first hO (hk w hH hf)
 ·show J P ops Q n f ((d,.int .i64 ((Nat.min m m:Nat):Int))::e) (setH H i (setL cs 0 xs)) rest
  rw[show Nat.min m m=m from Nat.min_self _,setL_whole (hm.trans hcs.symm),setH_put hy]
  exact k
theorem j_copy0 {sT xT:Nat} {z:Operand} (i:Nat) (hy:H[i]? =some ⟨b,T,cs,true,true,none⟩) (hu:∀w,(underlying sT).run P w=.ok (.slice elem) w) (hsz:∀w,(sizeOf elem).run P w=.ok 1 w)
  (hx:ev e x=some (.slice (some ⟨b,0,none⟩) 0 0)) (hz:ev e z=some (.slice p 0 c)) (hd:Nat.blt d n=true)
  (k:J P ops Q n f ((d,.int .i64 ((0:Nat):Int))::e) H rest):J P ops Q n f e H (⟨some d,.call ⟨.builtin .copy, #[x,z], #[sT,xT]⟩,ty,pos,af,none⟩::rest):=by
 refine j_copy (m:=0) (news:=[]) i hy rfl rfl rfl hu hsz hx hz (fun w=>lenOf_slice _ _ _ _) (fun w hH hf=>?_) rfl (Nat.zero_le _) hd ?_
 ·rw[show Nat.min 0 0=0 from rfl]
  cases p with
  |none=>simp[Builtin.firstCells]
  |some a=>
   simp only[Builtin.firstCells,Nat.zero_mul]
   rfl
 ·show J P ops Q n f ((d,.int .i64 ((Nat.min 0 0:Nat):Int))::e) (setH H i (setL cs 0 [])) rest
  rw[show Nat.min 0 0=0 from rfl]
  have e1:putH H i ⟨b,T,setL cs 0 [],true,true,none⟩=H:=putHs hy
  rw[show setH H i (setL cs 0 [])=H from (setH_put hy).trans e1]
  exact k
end
end Go.Fw
namespace Go.Proofs.YtffghbkcomlefaaGreatDoor
open Go Go.Fw Go.Proofs Go.Proofs.Tryz
variable {es:List MapEntry} {B b ck n:Nat} {w w' w0:World}
theorem MG.samN {x:PProf} {s:MS} (h:MG w0 x n w s):SamN n s.z:=⟨h.wz.tab,fun t ht=>by
 obtain ⟨h1,h2, -,h4, -⟩:=h.wz.sm t ht
 exact ⟨h1,h2,fun k hk=>(h4 k hk).2⟩⟩
theorem filterMap_eq {α β γ:Type} {f:α→Option γ} {g:β→Option γ}:∀{l:List α} {m:List β},l.map f=m.map g→l.filterMap f=m.filterMap g
 |[],[],_=>rfl
 |[],_::_,h=>by cases h
 |_::_,[],h=>by cases h
 |a::l,b::m,h=>by
    simp only[List.map_cons,List.cons.injEq]at h
    rw[List.filterMap_cons,List.filterMap_cons,h.1,filterMap_eq h.2]
theorem smK_eq {z x:PProf} {a b:PSample} (h:a.stack.map (fun k=>(atZ z.locs k).map (plK z))=b.stack.map fun k=>(atZ x.locs k).map (plK x)) (ht:a.texts=b.texts) (hn:a.nums=b.nums):Go.Fw.smK z a=Go.Fw.smK x b:=by
 unfold Go.Fw.smK
 rw[filterMap_eq h,ht,hn]
theorem TxS.same {a b:PSample} (h:TxS a) (ht:b.texts=a.texts) (hn:b.nums=a.nums):TxS b:=⟨by rw[ht];exact h.t,by rw[hn];exact h.n⟩
theorem MG.out {x:PProf} {s:MS} (h:MG w0 x n w s) (hb:w.heap.size≤b):b∉s.hot∧¬s.cold b:=⟨fun hm=>by have:=h.hl b hm;omega,fun hm=>by have:=(h.cd b hm).1;omega⟩
theorem MG.kpx {x:PProf} {s:MS} (h:MG w0 x n w s) {l:List Nat} (k:KeepX l w w') (hl:∀b∈l,¬s.cold b):Keep w0 w':=fun b o ho=>k.keep b o (h.kp b o ho) fun hm=>hl b hm (h.c0 b (Array.getElem?_eq_some_iff.1 ho).1)
theorem MapAt.keep0 {mo:Option Nat} (h:MapAt w0 mo es ck) (k:Keep w0 w):MapAt w mo es ck:=h.keep fun b es ck hb=>k _ _ hb
structure LabB {α:Type} (T:Nat) (enc:α→Value) (f:ByteArray→List α) (B:Nat) (bad:List Nat) (u:World) (xs:List MapEntry) (mq:List (ByteArray×Value)) (R:List Nat):Prop where
 lab:∀k z,mget mq k=some z→f k≠[]∧On (· ∈R) u fun w=>OS T 1 w z ((f k).map enc)
 inn:∀xe∈xs,∀k,xe.key=.string k→∃z,mget mq k=some z
 row:∀c∈R,B≤c∧c<u.heap.size∧c∉bad
section
variable {α:Type} {T:Nat} {enc:α→Value} {f:ByteArray→List α} {B:Nat} {bad:List Nat} {u w':World} {xs:List MapEntry} {mq:List (ByteArray×Value)} {R:List Nat}
theorem LabB.nil:LabB T enc f B bad u [] [] []:=⟨fun k z h=>(by simp[mget_nil]at h),fun _ h=>(by cases h),fun _ h=>(by cases h)⟩
theorem LabB.step (h:LabB T enc f B bad u xs mq R) (k:KeepX bad u w') {xe:MapEntry} {qs:ByteArray} {D:List α} (hk:xe.key=.string qs) (hD:f qs=D) (hne:D≠[]) (hb:Blk w' b T (D.map enc)) (hbn:u.heap.size≤b) (hB:B≤u.heap.size) (hbad:∀c∈bad,c<u.heap.size):
  LabB T enc f B bad w' (xs++[xe]) (mset mq qs (.slice (some ⟨b,0,none⟩) D.length D.length)) (b::R):=by
 refine ⟨fun q z hq=>?_,fun ye hy q hk'=>?_,fun c hc=>?_⟩
 ·rw[mget_mset]at hq
  split at hq
  ·next e=>
   subst e;cases hq
   rw[hD]
   exact ⟨hne,fun w2 k2=>OS.full (k2 b _ (List.mem_cons_self ..) hb) (by simp)⟩
  ·obtain ⟨h1,h2⟩:=h.lab q z hq
   exact ⟨h1,h2.keep (fun c o hc ho=>k.keep c o ho (h.row c hc).2.2) fun c hc=>List.mem_cons_of_mem _ hc⟩
 ·by_cases e:qs=q
  ·subst e;exact ⟨_,by rw[mget_mset,if_pos rfl]⟩
  ·rcases List.mem_append.1 hy with hy|hy
   ·obtain ⟨z,hz⟩:=h.inn ye hy q hk'
    exact ⟨z,by rw[mget_mset,if_neg fun q=>e q.symm];exact hz⟩
   ·rw[List.mem_singleton.1 hy,hk]at hk'
    cases hk'
    exact absurd rfl e
 ·rcases List.mem_cons.1 hc with rfl|hc
  ·exact ⟨Nat.le_trans hB hbn,hb.lt,fun hm=>by have:=hbad _ hm;omega⟩
  ·obtain ⟨h1,h2,h3⟩:=h.row c hc
   exact ⟨h1,Nat.lt_of_lt_of_le h2 k.size,h3⟩
theorem LabB.keep (h:LabB T enc f B bad u xs mq R) {l:List Nat} (k:KeepX l u w') (hl:∀c∈l,c∈bad∨c<B):LabB T enc f B bad w' xs mq R:=
 ⟨fun q z hq=>⟨(h.lab q z hq).1,(h.lab q z hq).2.keep (fun c o hc ho=>k.keep c o ho fun hm=>by
   obtain ⟨h1, -,h3⟩:=h.row c hc
   rcases hl c hm with q|q
   ·exact h3 q
   ·omega) fun _ hc=>hc⟩,h.inn,fun c hc=>⟨(h.row c hc).1,Nat.lt_of_lt_of_le (h.row c hc).2.1 k.size,(h.row c hc).2.2⟩⟩
theorem LabB.non {es1:List MapEntry} {ms1:List (ByteArray×Value)} {ck1:Nat} (h:LabB T enc f B bad u xs mq R) (hM1:MEnc Value.string ms1 es1 ck1) (hn1:∀k,mget ms1 k=none→f k=[]) (hall:∀xe∈es1,xe∈xs):∀k,mget mq k=none→f k=[]:=fun k hk=>by
 cases hg:mget ms1 k with
 |none=>exact hn1 k hg
 |some z=>
  have h1:(Value.string k,z)∈ms1.map fun p=>(Value.string p.1,p.2):=List.mem_map.2 ⟨_,mget_mem hg,rfl⟩
  rw[← hM1.kv]at h1
  obtain ⟨xe,hxe,he⟩:=List.mem_map.1 h1
  injection he with e1 e2
  obtain ⟨y,hy⟩:=h.inn xe (hall xe hxe) k e1
  rw[hk]at hy;cases hy
theorem LabB.toF (h:LabB T enc f B bad u xs mq R) {eq:List MapEntry} {cq:Nat} (hb:u.heap[b]? =some (.map (List.toArray eq) cq)) (hM:MEnc Value.string mq eq cq) (hn:∀k,mget mq k=none→f k=[]):LabF T enc u (.map (some b)) f:=
 .inr ⟨b,mq,eq,cq,rfl,hb,hM,fun k z hk=>⟨(h.lab k z hk).1,(h.lab k z hk).2.now⟩,hn⟩
theorem LabB.on (h:LabB T enc f B bad u xs mq R) {eq:List MapEntry} {cq:Nat} (hb:u.heap[b]? =some (.map (List.toArray eq) cq)) (hM:MEnc Value.string mq eq cq) (hn:∀k,mget mq k=none→f k=[]):On (fun c=>c=b∨c∈R) u fun w=>LabF T enc w (.map (some b)) f:=fun w2 k2=>
 .inr ⟨b,mq,eq,cq,rfl,k2 b _ (.inl rfl) hb,hM,fun k z hk=>⟨(h.lab k z hk).1,(h.lab k z hk).2 w2 fun c o hc=>k2 c o (.inr hc)⟩,hn⟩
end
theorem isZero_c (w w0:World) (b:Nat) (ls lm nm um iv xv:Value) (pv:Option Addr) (cv:Nat) (vs:List Int) (hk:Keep w0 w) (hb:Blk w0 b tSam [ls,.slice pv vs.length cv,lm,nm,um,iv,xv]) (hv:OS tI64 1 w0 (.slice pv vs.length cv) (vs.map (.int .i64))) (hl:vs.length≤1000000):
  Calls Tryz.prog 34 #[ptr b] w (Ret fun v w'=>v=.bool (decide (vs=zeV vs.length))∧Fr 0 [] w w'):=by
 obtain ⟨p',l',c',e,hl2, -,hx⟩:=hv.openF
 cases e
 have hc0:=mc (f:=⟨w,0,[]⟩) (hk _ _ hb) rfl
 refine startJ (args:=[_]) [(0,_)] 0 [] [] Tryz.func34 rfl Tryz.ntmps34 rfl rfl .nil ?_
 refine sQ fun K1=>cj_reg (jA (k:=K1 (sQ fun K2=>sQ fun K3=>cj_reg (jM (k:=jN (k:=jF 1 ru103 so49 (k:=jL ag49 hc0 1 (k:=jE ru49 (k:=jM (k:=K3 ?_))))))))))
 refine cj_block ?_
 refine cj_loop (σ:=Nat) (fun k=>[(8,.slice pv vs.length cv),(9,.int .i64 (vs.length:Nat)),(10,.int .i64 (k:Nat))]) (fun _=>[]) (fun k _=>k≤vs.length∧vs.take k=zeV k) (fun k=>vs.length - k) 0 sR (fun w hH hf=>⟨.nil,Nat.zero_le _,rfl⟩) ?_
 rintro k w1 ⟨hk1,hz⟩ hf1 hH1 KL hKL
 refine C.begin _ _ hf1 hH1 ?_
 refine sQ fun K4=>cj_reg (jS (k:=K4 (sQ fun K5=>?_)))
 refine cj_dec rfl (fun h11=>?_) (fun h11=>?_)
 ·have hk':k<vs.length:=by omega
  obtain ⟨bl,rfl,hlc⟩:=hx (by omega)
  have hcell:∀w',Fm.ok ⟨w,0,[]⟩ w'→w'.cell? ⟨bl,0+k*1,none⟩=some (.int .i64 vs[k]):=fun w' hf=>by
   have h1:=hlc ⟨w0,0,[]⟩ rfl rfl w0 ok_refl k (.int .i64 vs[k]) (by rw[List.getElem?_map,List.getElem?_eq_getElem hk'];rfl)
   have h2:=(Keep.trans hk (Fr.keepAll hf (.inr rfl))).cell h1
   simpa using h2
  refine cj_skip (K5 (sQ fun K6=>cj_block (sQ fun K7=>cj_reg (jJ ru49 so2 (k:=?_)))))
  refine j_valw rfl (fun a w ha hH hf=>r_load ag2 rfl (hcell w hf) ha) (jA (k:=K7 (sQ fun K8=>cj_reg (jM (k:=?_)))))
  refine j_val rfl (fun _ _ h=>r_neq rfl rfl h) (K8 ?_)
  refine cj_if rfl (fun h15=>?_) (fun h15=>?_)
  ·have hne:vs≠zeV vs.length:=fun e=>by
    have h1:vs[k]? =some 0:=by rw[e];unfold zeV;rw[List.getElem?_replicate,if_pos (by omega)]
    rw[List.getElem?_eq_getElem hk']at h1
    simp at h15 h1
    exact h15 h1
   refine sQ fun K9=>cj_reg (jA (k:=K9 (cj_ret ?_)))
   first
   |exact ej_ret1 Tryz.results34 rfl fun w' hH hf=>⟨by rw[decide_eq_false hne],hf⟩
   |exact ej_ret1 Tryz.results34 rfl fun w' hH hf=>⟨by rw[decide_eq_true hz],hf⟩
  ·have hv0:vs[k]=0:=by simpa using h15
   refine cj_skip (K6 (cj_reg (jI (k:=jM (k:=j_nil (ej_then ?_))))))
   exact fun w' hH hf=>hKL (k+1) _ w' ⟨hk',by rw[← List.take_append_getElem hk',hz,hv0];unfold zeV;rw[List.replicate_succ']⟩ hf .nil (by omega) sR
 ·have hke:k=vs.length:=by omega
  subst hke
  rw[List.take_length]at hz
  refine cj_exit (K2 (CJ.t [] (k:=sQ fun K10=>cj_reg (jA (k:=K10 (cj_ret ?_))))))
  first
  |exact ej_ret1 Tryz.results34 rfl fun w' hH hf=>⟨by rw[decide_eq_false hne],hf⟩
  |exact ej_ret1 Tryz.results34 rfl fun w' hH hf=>⟨by rw[decide_eq_true hz],hf⟩
open Go Go.Fw Go.Proofs Go.Lib
theorem zero1_c (w:World) (z:Int):Calls Tryz.prog 44 #[.int .i64 z] w (Ret fun v w'=>v=.bool (decide (z≠0))∧Fr 0 [] w w'):=by
 refine startJ (args:=[_]) [(0,_)] 0 [] [] Tryz.func44 rfl Tryz.ntmps44 rfl rfl .nil ?_
 refine sQ fun K1=>cj_reg (jA (k:=K1 (sQ fun K2=>cj_reg (jM (k:=?_)))))
 refine j_val rfl (fun _ _ h=>r_neq rfl rfl h) (jA (k:=K2 (cj_ret ?_)))
 exact ej_ret1 Tryz.results44 rfl fun w' hH hf=>⟨rfl,hf⟩
abbrev fZ:Value:=.func (.func 44) #[] #[]
theorem indexNZ_c (w:World) (v:Value) (xs:List Int) (hv:OS tI64 1 w v (xs.map (.int .i64))) (hn:xs.length≤1000):Calls Tryz.prog 63 #[v,fZ] w (Ret fun r w'=>(∃z,r=.int .i64 z∧(0≤z↔xs≠zeV xs.length))∧Fr 0 [] w w'):=by
 obtain ⟨p,l,c,rfl,hl,hlc,hx⟩:=hv.openF
 obtain rfl:l=xs.length:=by simpa using hl.symm
 refine startJ (args:=[_,_]) [(0,_),(1,fZ)] 0 [] [] Tryz.func63 rfl Tryz.ntmps63 rfl rfl .nil ?_
 refine sQ fun K1=>cj_reg (jA (k:=K1 (sQ fun K2=>sQ fun K3=>cj_reg (jM (k:=jE ru49 (k:=jM (k:=K3 (cj_block ?_))))))))
 refine cj_loop (σ:=Nat) (fun k=>[(0,.slice p xs.length c),(1,fZ),(7,.int .i64 (xs.length:Nat)),(8,.int .i64 (k:Nat))]) (fun _=>[]) (fun k _=>k≤xs.length∧xs.take k=zeV k) (fun k=>xs.length - k) 0 sR (fun w' hH hf=>⟨.nil,Nat.zero_le _,rfl⟩) ?_
 rintro k w1 ⟨hk1,hz⟩ hf1 hH1 KL hKL
 refine C.begin _ [] hf1 .nil ?_
 try dsimp only
 refine sQ fun K4=>cj_reg (jS (k:=K4 (sQ fun K5=>?_)))
 refine cj_dec rfl (fun h9=>?_) (fun h9=>?_)
 ·have hk':k<xs.length:=by omega
  obtain ⟨bl,rfl,hcl⟩:=hx (by omega)
  have hcell:∀w',Fm.ok ⟨w,0,[]⟩ w'→w'.cell? ⟨bl,0+k*1,none⟩=some (.int .i64 xs[k]):=fun w' hf=>by
   have h1:=hcl ⟨w,0,[]⟩ rfl rfl w' hf k (.int .i64 xs[k]) (by rw[List.getElem?_map,List.getElem?_eq_getElem hk'];rfl)
   simpa using h1
  refine cj_skip (K5 (sQ fun K6=>cj_block (sQ fun K7=>cj_reg (jM (k:=jA (k:=K7 (sQ fun K8=>cj_reg (jM (k:=jM (k:=jM (k:=jJ ru49 so2 (k:=?_))))))))))))
  refine j_valw rfl (fun a w ha hH hf=>r_load ag2 rfl (hcell w hf) ha) ?_
  refine j_callVQ (g:=44) (us:=[]) (φ:=fun r=>r=.bool (decide (xs[k]≠0))) Tryz.call44 rfl rfl rfl (fun v' hH hf=>zero1_c v' _) fun r hr=>?_
  subst hr
  refine K8 ?_
  refine cj_if rfl (fun h16=>?_) (fun h16=>?_)
  ·have hne:xs≠zeV xs.length:=fun e=>by
    have h1:xs[k]? =some 0:=by rw[e];unfold zeV;rw[List.getElem?_replicate,if_pos (by omega)]
    rw[List.getElem?_eq_getElem hk']at h1
    simp at h16 h1
    exact h16 h1
   refine sQ fun K9=>cj_reg (jM (k:=jA (k:=K9 (CJ.t [(4,_)] (k:=cj_ret ?_)))))
   first
   |exact ej_ret1 Tryz.results63 rfl fun w' hH hf=>⟨⟨_,rfl,fun _=>hne,fun _=>by omega⟩,hf⟩
   |exact ej_ret1 Tryz.results63 rfl fun w' hH hf=>⟨⟨_,rfl,fun h=>absurd h (by decide),fun h=>absurd hall h⟩,hf⟩
  ·have hv0:xs[k]=0:=by simpa using h16
   refine cj_skip (K6 (cj_reg (jI (k:=jM (k:=j_nil (ej_then ?_))))))
   exact fun w' hH hf=>hKL (k+1) _ w' ⟨hk',by rw[← List.take_append_getElem hk',hz,hv0];unfold zeV;rw[List.replicate_succ']⟩ hf .nil (by omega) sR
 ·have hke:k=xs.length:=by omega
  have hall:xs=zeV xs.length:=by subst hke;rw[List.take_of_length_le (Nat.le_refl _)]at hz;exact hz
  refine cj_exit (K2 (sQ fun K10=>cj_reg (jA (k:=K10 (cj_ret ?_)))))
  first
  |exact ej_ret1 Tryz.results63 rfl fun w' hH hf=>⟨⟨_,rfl,fun _=>hne,fun _=>by omega⟩,hf⟩
  |exact ej_ret1 Tryz.results63 rfl fun w' hH hf=>⟨⟨_,rfl,fun h=>absurd h (by decide),fun h=>absurd hall h⟩,hf⟩
theorem containsNZ_c (w:World) (v:Value) (xs:List Int) (hv:OS tI64 1 w v (xs.map (.int .i64))) (hn:xs.length≤1000):Calls Tryz.prog 43 #[v,fZ] w (Ret fun r w'=>r=.bool (decide (xs≠zeV xs.length))∧Fr 0 [] w w'):=by
 obtain ⟨p,l,c,rfl,hl,hlc,hx⟩:=id hv.openF
 refine startJ (args:=[_,_]) [(0,_),(1,fZ)] 0 [] [] Tryz.func43 rfl Tryz.ntmps43 rfl rfl .nil ?_
 refine sQ fun K1=>cj_reg (jA (k:=K1 (sQ fun K2=>cj_reg (jM (k:=jM (k:=?_))))))
 refine j_callQ (φ:=fun r=>∃z,r=.int .i64 z∧(0≤z↔xs≠zeV xs.length)) Tryz.call63 rfl rfl (fun w' hH hf=>indexNZ_c w' _ xs (hv.mono (fr_row hf rfl)) hn) fun v hv=>?_
 obtain ⟨z,rfl,hz⟩:=hv
 refine j_val rfl (fun _ _ h=>r_geq rfl rfl h) (jA (k:=K2 (cj_ret ?_)))
 exact ej_ret1 Tryz.results43 rfl fun w' hH hf=>⟨congrArg Value.bool (decide_eq_decide.2 hz),hf⟩
theorem specZero_c (w:World) (v:Value) (xs:List Int) (hv:OS tI64 1 w v (xs.map (.int .i64))) (hn:xs.length≤1000):Calls Tryz.prog 18 #[v] w (Ret fun r w'=>r=.bool (decide (xs=zeV xs.length))∧Fr 0 [] w w'):=by
 obtain ⟨p,l,c,rfl,hl,hlc,hx⟩:=id hv.openF
 refine startJ (args:=[_]) [(0,_)] 0 [] [] Tryz.func18 rfl Tryz.ntmps18 rfl rfl .nil ?_
 refine sQ fun K1=>cj_reg (jA (k:=K1 (sQ fun K2=>cj_reg (jM (k:=?_)))))
 refine j_callQ (φ:=fun r=>r=.bool (decide (xs≠zeV xs.length))) Tryz.call43 rfl rfl (fun w' hH hf=>containsNZ_c w' _ xs (hv.mono (fr_row hf rfl)) hn) fun v hv=>?_
 subst hv
 refine jU (k:=jA (k:=K2 (cj_ret ?_)))
 exact ej_ret1 Tryz.results18 rfl fun w' hH hf=>⟨by simp,hf⟩
abbrev slN (r n:Nat):Value:=.slice (some ⟨r,0,none⟩) n n
structure SumI (B b n:Nat) (L:List (ByteArray×List Int)) (u:World) (ms:List (ByteArray×Value)) (es:List MapEntry) (ck:Nat):Prop where
 hm:u.heap[b]? =some (.map (List.toArray es) ck)
 enc:MEnc Value.string ms es ck
 has:∀k v,mget ms k=some v→∃r,v=slN r n∧B≤r∧Blk u r tI64 ((sumV n k L).map (.int .i64))
 hno:∀k,mget ms k=none→∀p∈L,p.1≠k
 inj:∀k k' v,mget ms k=some v→mget ms k'=some v→k=k'
theorem sumV_no {k:ByteArray}:∀{L:List (ByteArray×List Int)},(∀p∈L,p.1≠k)→sumV n k L=zeV n
 |[],_=>rfl
 |p::r,h=>by
    show (if p.1=k then addV p.2 (sumV n k r) else sumV n k r)=zeV n
    rw[if_neg (h p (List.mem_cons_self ..)),sumV_no fun q hq=>h q (List.mem_cons_of_mem _ hq)]
theorem SumI.z {L:List (ByteArray×List Int)} {u:World} {ms:List (ByteArray×Value)} (h:SumI B b n L u ms es ck) {k:ByteArray} (hk:mget ms k=none):sumV n k L=zeV n:=sumV_no (h.hno k hk)
theorem SumI.keep {L:List (ByteArray×List Int)} {u u':World} {ms:List (ByteArray×Value)} (h:SumI B b n L u ms es ck) (k:KeepX [] u u'):SumI B b n L u' ms es ck:=
 ⟨k.keep b _ h.hm (by simp),h.enc,fun q v hv=>by
  obtain ⟨r,h1,h2,h3⟩:=h.has q v hv
  exact ⟨r,h1,h2,k.blk h3 (by simp)⟩,h.hno,h.inj⟩
theorem SumI.add {r:Nat} {L:List (ByteArray×List Int)} {u u':World} {ms:List (ByteArray×Value)} (h:SumI B b n L u ms es ck) {k:ByteArray} {vs:List Int} (hk:mget ms k=some (slN r n)) (hL:∀p∈L,p.2.length=n) (hv:vs.length=n) (hf:Fit vs)
  (kx:KeepX [r] u u') (hz:Blk u' r tI64 ((addV (sumV n k L) vs).map (.int .i64))):SumI B b n (L++[(k,vs)]) u' ms es ck:=by
 have hbr:b≠r:=by
  obtain ⟨r',e, -,h3⟩:=h.has _ _ hk
  cases e
  exact map_neB h.hm h3
 refine ⟨kx.keep b _ h.hm (by simp[hbr]),h.enc,fun q v hq=>?_,fun q hq p hp=>?_,h.inj⟩
 ·obtain ⟨r',h1,h2,h3⟩:=h.has q v hq
  rw[sumV_snoc hL hv hf]
  by_cases e:k=q
  ·subst e
   rw[hk]at hq;cases hq;cases h1
   exact ⟨r,rfl,h2,by rw[if_pos rfl];exact hz⟩
  ·have hne:r'≠r:=fun e2=>e (h.inj k q v (by rw[hk,h1,e2]) hq)
   exact ⟨r',h1,h2,by rw[if_neg e];exact kx.blk h3 (by simp[hne])⟩
 ·rcases List.mem_append.1 hp with hp|hp
  ·exact h.hno q hq p hp
  ·rw[List.mem_singleton.1 hp]
   intro e
   dsimp only at e
   rw[e,hq]at hk;cases hk
def SumsR (n:Nat) (L:List (ByteArray×List Int)) (w:World) (v:Value):Prop:=∃b ms es ck,v=.map (some b)∧w.heap[b]? =some (.map (List.toArray es) ck)∧MEnc Value.string ms es ck∧(∀k u,mget ms k=some u→sumV n k L≠zeV n∧∃r,u=slN r n∧Blk w r tI64 ((sumV n k L).map (.int .i64)))∧∀k,mget ms k=none→sumV n k L=zeV n
theorem SumsR.keep {L:List (ByteArray×List Int)} {v:Value} (h:SumsR n L w v) (k:Keep w w'):SumsR n L w' v:=by
 obtain ⟨b,ms,es,ck,h1,h2,h3,h4,h5⟩:=h
 exact ⟨b,ms,es,ck,h1,k _ _ h2,h3,fun q u hq=>by
  obtain ⟨h6,r,h7,h8⟩:=h4 q u hq
  exact ⟨h6,r,h7,k _ _ h8⟩,h5⟩
theorem mk_zeros {cs:List Value} (h:∀z:Value,(∀w,(zeroValue tI64).run Tryz.prog w=.ok z w)→cs=(List.range (n*1)).map (fun i=>z.cells[i%z.cells.size]!)):cs=(zeV n).map (.int .i64):=by
 rw[h (.int .i64 0) zv2]
 apply List.ext_getElem
 ·simp[zeV]
 ·intro i h1 h2
  rw[List.getElem_map,List.getElem_map]
  simp[zeV,Value.cells,Nat.mod_one]
structure SrcS (x:PProf) (n:Nat) (t:PSample):Prop where
 len:t.values.length=n
 fit:Fit t.values
 stk:t.stack.length≤60∧∀k∈t.stack,0≤k∧k<x.locs.length
 lab:LabP t
 tx:TxS t
set_option maxHeartbeats 16000000 in
theorem mapSample_c (w0 w:World) (x:PProf) (g:G) (n:Nat) (s:MS) (i0 b:Nat) (t:PSample) (h:MG w0 x n w s) (hX:SrcT w0 x g) (hXL:SrcL x) (hT:Tabs w0) (hb:g.sams[i0]? =some b) (ht:x.samples[i0]? =some t) (hS:SrcS x n t) (hn60:n≤60)
  (hns:s.z.samples.length≤100000) (hTx:∀u∈s.z.samples,TxS u):
  Calls Tryz.prog 35 #[ptr s.pm,ptr b] w (Ret fun _ w'=>∃s':MS,MG w0 x n w' s'∧SStep w s w' s'∧s'.z.samples.length≤s.z.samples.length+1∧(∀u∈s'.z.samples,TxS u)∧
   ∀(F:SmK→ByteArray) (q:ByteArray),sumV n q (txL F s'.z)=if F (Go.Fw.smK x t)=q then addV (sumV n q (txL F s.z)) t.values else sumV n q (txL F s.z)):=by
 obtain ⟨lv,vv,lm,nm,um,iv,xv,hb0,hls0,hvs0,hlm0,hnm0,hum0, -, -⟩:=hX.of.sams.2 _ _ _ hb ht
 obtain ⟨pL,lL,cL,rfl,hlL, -,hLx⟩:=hls0.openF
 simp only[List.length_map,Nat.mul_one]at hlL
 subst hlL
 obtain ⟨pV,lV,cV,rfl,hlV, -, -⟩:=hvs0.openF
 simp only[List.length_map,Nat.mul_one]at hlV
 subst hlV
 obtain ⟨mo1,es1,ck1,ms1,rfl,hA1,hM1,hg1,hn1⟩:=hlm0.opn
 obtain ⟨mo2,es2,ck2,ms2,rfl,hA2,hM2,hg2,hn2⟩:=hnm0.opn
 obtain ⟨mo3,es3,ck3,ms3,rfl,hA3,hM3,hg3⟩:=hum0.opn
 have hl1:es1.length≤60:=by
  rw[hM1.length]
  have:=keys_len (ids:=t.texts.map (·.key)) hM1.keys fun k u hu=>by
   obtain ⟨t,ht,rfl, -⟩:=find_mem (hg1 k u hu).1
   exact List.mem_map_of_mem ht
  rw[List.length_map]at this
  exact Nat.le_trans this hS.lab.tlen
 have hl2:es2.length≤60:=by
  rw[hM2.length]
  have:=keys_len (ids:=t.nums.map (·.key)) hM2.keys fun k u hu=>by
   obtain ⟨t,ht,rfl, -⟩:=find_mem (hg2 k u hu).1
   exact List.mem_map_of_mem ht
  rw[List.length_map]at this
  exact Nat.le_trans this hS.lab.nlen
 have hln:=hS.len
 have hst:=hS.stk.1
 have kp:=h.kp
 have hcs:=mc (f:=⟨w,0,[]⟩) (kp _ _ hb0) rfl
 have hkA:∀{w':World},Fm.ok ⟨w,0,[]⟩ w'→Keep w0 w':=fun hf=>Keep.trans kp (Fr.keepAll hf (.inr rfl))
 refine startJ (args:=[_,_]) [(0,_),(1,_)] 0 [] [] func35 rfl ntmps35 rfl rfl .nil ?_
 refine sQ fun K1=>cj_reg (jA (k:=K1 ?_))
 refine cj_seqF fun K2 hK2=>?_
 refine cj_drawM 33 [0,1,2,3,4,6,7,8,9,10,12,13,14,15,16,18,19,20,21,22,24,25,26,27,28] [⟨5,26,fun b=>.slice (some ⟨b,0,none⟩) t.stack.length t.stack.length,fun b=>⟨b,pLoc,List.replicate t.stack.length (.pointer none),true,true,none⟩⟩,⟨11,32,fun b=>.slice (some ⟨b,0,none⟩) t.values.length t.values.length,fun b=>⟨b,tI64,List.replicate t.values.length (.int .i64 0),true,true,none⟩⟩,⟨17,38,fun b=>.map (some b),fun b=>mpE b [] 0⟩,⟨23,44,fun b=>.map (some b),fun b=>mpE b [] 0⟩,⟨29,50,fun b=>.map (some b),fun b=>mpE b [] 0⟩] (lts [30]++(31,false)::lts [32]) [] rfl (by kernel_rfl) (by kernel_rfl) ?_
 refine dm_val rfl rfl (sub_of [] rfl) (fun _ _ h=>r_move rfl h) ?_
 refine dm_val rfl rfl (sub_of [] rfl) (fun _ _ h=>r_nil rfl h) ?_
 refine dm_val rfl rfl (sub_of [] rfl) (fun _ _ h=>r_fl (q:=0) (ft:=72) ru103 rfl so72 rfl h) ?_
 refine dm_ld rfl rfl (sub_of [] rfl) (fun a w ha hS=>r_load ag72 rfl (hcs w (hS.2) 0 _ rfl) ha) ?_
 refine dm_val rfl rfl (sub_of [] rfl) (fun _ _ h=>r_len ru72 rfl h) ?_
 refine dm_val rfl rfl (sub_of [] rfl) (fun _ _ h=>r_move rfl h) ?_
 refine dm_val rfl rfl (sub_of [] rfl) (fun _ _ h=>r_nil rfl h) ?_
 refine dm_val rfl rfl (sub_of [] rfl) (fun _ _ h=>r_fl (q:=1) (ft:=49) ru103 rfl so49 rfl h) ?_
 refine dm_ld rfl rfl (sub_of [] rfl) (fun a w ha hS=>r_load ag49 rfl (hcs w (hS.2) 1 _ rfl) ha) ?_
 refine dm_val rfl rfl (sub_of [] rfl) (fun _ _ h=>r_len ru49 rfl h) ?_
 refine dm_val rfl rfl (sub_of [] rfl) (fun _ _ h=>r_move rfl h) ?_
 refine dm_val rfl rfl (sub_of [] rfl) (fun _ _ h=>r_nil rfl h) ?_
 refine dm_val rfl rfl (sub_of [] rfl) (fun _ _ h=>r_fl (q:=2) (ft:=99) ru103 rfl so99 rfl h) ?_
 refine dm_ld rfl rfl (sub_of [] rfl) (fun a w ha hS=>r_load ag99 rfl (hcs w (hS.2) 2 _ rfl) ha) ?_
 refine dm_ld rfl rfl (sub_of [] rfl) (fun a w' ha hS=>r_mlenM ru99 rfl ha (MapAt.keep0 hA1 (hkA hS.2))) ?_
 refine dm_val rfl rfl (sub_of [] rfl) (fun _ _ h=>r_move rfl h) ?_
 refine dm_val rfl rfl (sub_of [] rfl) (fun _ _ h=>r_nil rfl h) ?_
 refine dm_val rfl rfl (sub_of [] rfl) (fun _ _ h=>r_fl (q:=3) (ft:=37) ru103 rfl so37 rfl h) ?_
 refine dm_ld rfl rfl (sub_of [] rfl) (fun a w ha hS=>r_load ag37 rfl (hcs w (hS.2) 3 _ rfl) ha) ?_
 refine dm_ld rfl rfl (sub_of [] rfl) (fun a w' ha hS=>r_mlenM ru37 rfl ha (MapAt.keep0 hA2 (hkA hS.2))) ?_
 refine dm_val rfl rfl (sub_of [] rfl) (fun _ _ h=>r_move rfl h) ?_
 refine dm_val rfl rfl (sub_of [] rfl) (fun _ _ h=>r_nil rfl h) ?_
 refine dm_val rfl rfl (sub_of [] rfl) (fun _ _ h=>r_fl (q:=3) (ft:=37) ru103 rfl so37 rfl h) ?_
 refine dm_ld rfl rfl (sub_of [] rfl) (fun a w ha hS=>r_load ag37 rfl (hcs w (hS.2) 3 _ rfl) ha) ?_
 refine dm_ld rfl rfl (sub_of [] rfl) (fun a w' ha hS=>r_mlenM ru37 rfl ha (MapAt.keep0 hA2 (hkA hS.2))) ?_
 refine dm_set ⟨(sub_of [] rfl),?_,?_,(by simp only[List.map_cons,List.map_nil];decide),(by simp only[List.map_cons,List.map_nil];decide)⟩
 ·intro c hc
  simp only[List.mem_cons,List.not_mem_nil,or_false]at hc
  rcases hc with rfl|rfl|rfl|rfl|rfl
  ·refine ⟨_,rfl,fun e' H' K hx hK=>?_⟩
   refine j_make (l:=t.stack.length) (c:=t.stack.length) ru72 el90 rfl (hx _ _ rfl rfl) (hx _ _ rfl rfl) (Nat.le_refl _) (by omega) rfl fun b cs _ hcs=>?_
   have e:=(hcs _ zv90).trans (make_one rfl _)
   subst e
   exact j_nil (ej_then (hK b))
  ·refine ⟨_,rfl,fun e' H' K hx hK=>?_⟩
   refine j_make (l:=t.values.length) (c:=t.values.length) ru49 el2 rfl (hx _ _ rfl rfl) (hx _ _ rfl rfl) (Nat.le_refl _) (by omega) rfl fun b cs _ hcs=>?_
   have e:=(hcs _ zv2).trans (make_one rfl _)
   subst e
   exact j_nil (ej_then (hK b))
  ·refine ⟨_,rfl,fun e' H' K hx hK=>?_⟩
   exact j_mkmap (fun x hx0=>by cases hx0;exact ⟨⟨_,_,ru99⟩,_,_,hx _ _ rfl rfl⟩) rfl fun b=>j_nil (ej_then (hK b))
  ·refine ⟨_,rfl,fun e' H' K hx hK=>?_⟩
   exact j_mkmap (fun x hx0=>by cases hx0;exact ⟨⟨_,_,ru37⟩,_,_,hx _ _ rfl rfl⟩) rfl fun b=>j_nil (ej_then (hK b))
  ·refine ⟨_,rfl,fun e' H' K hx hK=>?_⟩
   exact j_mkmap (fun x hx0=>by cases hx0;exact ⟨⟨_,_,ru99⟩,_,_,hx _ _ rfl rfl⟩) rfl fun b=>j_nil (ej_then (hK b))
 intro bs
 show DJ _ _ _ _ _ _ _ ((26,.slice (some ⟨bs 5,0,none⟩) t.stack.length t.stack.length)::(32,.slice (some ⟨bs 11,0,none⟩) t.values.length t.values.length)::(38,.map (some (bs 17)))::(44,.map (some (bs 23)))::(50,.map (some (bs 29)))::_) (⟨bs 5,pLoc,List.replicate t.stack.length (.pointer none),true,true,none⟩::⟨bs 11,tI64,List.replicate t.values.length (.int .i64 0),true,true,none⟩::mpE (bs 17) [] 0::mpE (bs 23) [] 0::mpE (bs 29) [] 0::[]) _
 generalize bs 5=b26
 generalize bs 11=b32
 generalize bs 17=b38
 generalize bs 23=b44
 generalize bs 29=b50
 refine dj_val rfl rfl (sub_of [] rfl) (fun _ _ h=>r_build (cs:=[_,_,_,_,_,(.slice none 0 0),(.slice none 0 0)]) bt103 rfl rfl h) (dE (h:=fun Kd=>j_boxA (vs:=[_,_,_,_,_,_,_]) rfl rfl fun b52=>Kd (sb []) (dA [] (k:=dj_end (ej_then (hK2 _ _ _ (sQ fun K3=>sQ fun K4=>cj_reg (jM (k:=jN (k:=jF 0 ru103 so72 (k:=jL ag72 hcs 0 (k:=?_))))))))))))
 refine jE ru72 (k:=jM (k:=K4 (CJ.t [(0,_),(1,_),(5,_),(56,_),(57,_),(58,_)] (k:=cj_block ?_))))
 intro v5 hH5 hf5
 have hb52:=hH5.get (i:=0) rfl rfl
 have hb26:=hH5.get (i:=1) rfl rfl
 have hb32:=hH5.get (i:=2) rfl rfl
 have hm38:=hH5.obj (i:=3) rfl rfl
 have hm44:=hH5.obj (i:=4) rfl rfl
 have hm50:=hH5.obj (i:=5) rfl rfl
 have n52:w.heap.size≤b52:=hH5.freshE (i:=0) rfl rfl rfl
 have n26:w.heap.size≤b26:=hH5.freshE (i:=1) rfl rfl rfl
 have n32:w.heap.size≤b32:=hH5.freshE (i:=2) rfl rfl rfl
 have n38:w.heap.size≤b38:=hH5.freshE (i:=3) rfl rfl rfl
 have n44:w.heap.size≤b44:=hH5.freshE (i:=4) rfl rfl rfl
 have n50:w.heap.size≤b50:=hH5.freshE (i:=5) rfl rfl rfl
 have e4438:b44≠b38:=hH5.2.2.2.2.2.2.2.2.2.2.2.1 rfl _ (List.mem_cons_self ..) rfl
 have e5038:b50≠b38:=hH5.2.2.2.2.2.2.2.2.2.2.2.1 rfl _ (List.mem_cons_of_mem _ (List.mem_cons_self ..)) rfl
 have e5044:b50≠b44:=hH5.2.2.2.2.2.2.2.2.2.2.2.2.2.2.1 rfl _ (List.mem_cons_self ..) rfl
 have hk5:KeepX [] w v5:=KeepX.of hf5
 clear hH5
 have hOut:∀c,w.heap.size≤c→c∉s.hot∧¬s.cold c:=fun c hc=>h.out hc
 have hM5:MG w0 x n v5 s:=h.keep hk5 (by simp)
 obtain ⟨c52,hc52⟩:∃c:Value→Value→Value→Value→Value→List Value,c=fun a1 a2 a3 a4 a5=>[a1,a2,a3,a4,a5,.slice none 0 0,.slice none 0 0]:=⟨_,rfl⟩
 obtain ⟨lc,hlc⟩:∃l:List Value,l=[.slice (some ⟨b26,0,none⟩) t.stack.length t.stack.length,.slice (some ⟨b32,0,none⟩) t.values.length t.values.length,.map (some b38),.map (some b44),.map (some b50),.slice none 0 0,.slice none 0 0]:=⟨_,rfl⟩
 refine c_loop (σ:=Nat×MS×List Nat) (fun q=>[(0,ptr s.pm),(1,ptr b),(5,ptr b52),(56,.slice pL t.stack.length cL),(57,.int .i64 (t.stack.length:Nat)),(58,.int .i64 (q.1:Nat))])
  (fun q u=>q.1≤t.stack.length∧MG w0 x n u q.2.1∧MStep w s u q.2.1∧q.2.2.length=q.1∧(∀j∈q.2.2,j<q.2.1.z.locs.length)∧q.2.2.map (fun j=>(q.2.1.z.locs[j]?).map (plK q.2.1.z))=(t.stack.take q.1).map (fun k=>(atZ x.locs k).map (plK x))∧
   (Blk u b52 tSam lc∧Blk u b26 pLoc (rowP (q.2.2.map fun j:Nat=>ptrAt q.2.1.locs (j:Int)) (t.stack.length - q.1))∧Blk u b32 tI64 (List.replicate t.values.length (.int .i64 0))∧u.heap[b38]? =some (.map (List.toArray []) 0)∧u.heap[b44]? =some (.map (List.toArray []) 0)∧u.heap[b50]? =some (.map (List.toArray []) 0))∧
   ∀c∈[b52,b26,b32,b38,b44,b50],c∉q.2.1.hot∧¬q.2.1.cold c)
  (fun q=>t.stack.length - q.1) (0,s,[]) ⟨rfl,rfl,rfl,rfl,rfl,rfl,trivial⟩
  ⟨Nat.zero_le _,hM5,MStep.after hk5 MStep.refl,rfl,fun j hj=>(by cases hj),rfl,⟨by rw[hlc];exact hb52,by show Blk v5 b26 pLoc (rowP [] (t.stack.length - 0));exact hb26,hb32,hm38,hm44,hm50⟩,fun c hc=>hOut c (by
   simp only[List.mem_cons,List.not_mem_nil,or_false]at hc
   rcases hc with rfl|rfl|rfl|rfl|rfl|rfl<;>assumption)⟩ ?_
 clear hb52 hb26 hb32 hm38 hm44 hm50 hM5 hk5 hc52 c52
 rintro ⟨k,s2,js⟩ u ⟨hk,hMu,hSu,hjl,hjr,hjk,⟨hb52,hb26,hb32,hm38,hm44,hm50⟩,hoo⟩ KL hKL
 try dsimp only at hk hMu hSu hjl hjr hjk hb26 hoo
 have hpm2:s2.pm=s.pm:=hSu.pm
 have hcs:=mc (f:=⟨u,0,[]⟩) (hMu.kp _ _ hb0) rfl
 refine C.begin ⟨u,0,[]⟩ [⟨b52,tSam,lc,false,true,none⟩,⟨b26,pLoc,_,false,true,none⟩] ok_refl (Hp.ro2 hb52 hb26 fun e=>Blk.ne hb52 hb26 (show tSam≠pLoc by decide) e) ?_
 try dsimp only
 refine sQ fun K5=>cj_reg (jS (k:=K5 (sQ fun K6=>?_)))
 refine cj_dec rfl (fun h59=>?_) (fun h59=>?_)
 ·have hk':k<t.stack.length:=by omega
  obtain ⟨hk0,hkx⟩:=hS.stk.2 _ (List.getElem_mem hk')
  have hzl:t.stack[k].toNat<g.locs.length:=by rw[hX.of.locs.1];omega
  obtain ⟨bz,hbz⟩:∃bz,g.locs[t.stack[k].toNat]? =some bz:=⟨_,List.getElem?_eq_getElem hzl⟩
  have hpz:ptrAt g.locs t.stack[k]=ptr bz:=by unfold ptrAt;rw[if_pos hk0,hbz];rfl
  obtain ⟨bl,rfl,hlcx⟩:=hLx (by omega)
  have hcell:∀w',Fm.ok ⟨u,0,[]⟩ w'→w'.cell? ⟨bl,0+k*1,none⟩=some (ptr bz):=fun w' hf=>by
   have h1:=hlcx ⟨w0,0,[]⟩ rfl rfl w0 ok_refl k (ptrAt g.locs t.stack[k]) (by rw[List.getElem?_map,List.getElem?_eq_getElem hk'];rfl)
   have h2:=(Keep.trans hMu.kp (Fr.keepAll hf (.inr rfl))).cell h1
   rw[hpz]at h2
   simpa using h2
  refine cj_skip (K6 (sQ fun K7=>cj_block (sQ fun K8=>cj_reg (jM (k:=jJ ru72 so90 (k:=?_))))))
  refine j_valw rfl (fun a w ha hH hf=>r_load ag90 rfl (hcell w hf) ha) (jA (k:=jA (k:=K8 ?_)))
  refine cj_drawG 8 (lts [0,1,2,3,4,5,6]++(7,false)::(8,false)::(9,false)::[]) [0] rfl (by kernel_rfl) (by kernel_rfl) ?_
  refine dg_val rfl rfl (sub_of [0] rfl) (fun _ _ h=>r_move rfl h) ?_
  refine dg_val rfl rfl (sub_of [0] rfl) (fun _ _ h=>r_nil rfl h) ?_
  refine dg_val rfl rfl (sub_of [0] rfl) (fun _ _ h=>r_fl (q:=0) (ft:=72) ru103 rfl so72 rfl h) ?_
  refine dg_ld rfl rfl (sub_of [0] rfl) (fun a w ha hS=>r_load ag72 rfl ((hS _ (List.mem_singleton.2 rfl) rfl).cell' (by rw[hlc];rfl)) ha) ?_
  refine dg_val rfl rfl (sub_of [0] rfl) (fun _ _ h=>r_move rfl h) ?_
  refine dg_val rfl rfl (sub_of [0] rfl) (fun _ _ h=>r_move rfl h) ?_
  refine dg_val rfl rfl (sub_of [0] rfl) (fun _ _ h=>r_move rfl h) ?_
  refine dg_eff rfl fun K2 hK2=>?_
  refine j_callE (R:=fun w3 v w4=>∃(s':MS) (j b':Nat) (l l':PLoc),v=ptr b'∧s'.locs[j]? =some b'∧MG w0 x n w4 s'∧MStep w3 s2 w4 s'∧x.locs[t.stack[k].toNat]? =some l∧s'.z.locs[j]? =some l'∧plK s'.z l'=plK x l) call53 rfl rfl (fun w3 hH hf=>by
   have:=mapLocation_c w0 w3 x g n s2 t.stack[k].toNat bz (hMu.keep (KeepX.of hf) (by simp)) hX hXL hT.db hbz
   rw[hpm2]at this
   exact this) fun w3 v w4 hH3 hf3 hR=>?_
  obtain ⟨s3,j,bj,l,l',rfl,q0,q1,q2,q3,q4,q5⟩:=hR
  have k3:KeepX [] u w3:=KeepX.of hf3
  have hoo3:∀c∈[b52,b26,b32,b38,b44,b50],c∉s3.hot∧¬s3.cold c:=fun c hc=>q2.out (hoo c hc).1 (hoo c hc).2 (by
   have:c<u.heap.size:=by
    simp only[List.mem_cons,List.not_mem_nil,or_false]at hc
    rcases hc with rfl|rfl|rfl|rfl|rfl|rfl
    ·exact hb52.lt
    ·exact hb26.lt
    ·exact hb32.lt
    ·exact (Array.getElem?_eq_some_iff.1 hm38).1
    ·exact (Array.getElem?_eq_some_iff.1 hm44).1
    ·exact (Array.getElem?_eq_some_iff.1 hm50).1
   exact Nat.lt_of_lt_of_le this hf3.size)
  have kk:∀{c:Nat} {o:Obj},c∈[b52,b26,b32,b38,b44,b50]→u.heap[c]? =some o→w4.heap[c]? =some o:=fun hc ho=>q2.kx.keep _ _ (k3.keep _ _ ho (by simp)) (hoo _ hc).1
  have y52:Blk w4 b52 tSam lc:=kk (by simp) hb52
  have y26:Blk w4 b26 pLoc (rowP (js.map fun j:Nat=>ptrAt s2.locs (j:Int)) (t.stack.length - k)):=kk (by simp) hb26
  have y32:Blk w4 b32 tI64 (List.replicate t.values.length (.int .i64 0)):=kk (by simp) hb32
  have y38:=kk (c:=b38) (by simp) hm38
  have y44:=kk (c:=b44) (by simp) hm44
  have y50:=kk (c:=b50) (by simp) hm50
  have hSx:MStep w s w4 s3:=hSu.trans (MStep.after k3 q2)
  refine J.begin ⟨w4,0,[pLoc]⟩ (⟨b52,tSam,lc,false,true,none⟩::⟨b26,pLoc,rowP (js.map fun j:Nat=>ptrAt s2.locs (j:Int)) (t.stack.length - k),true,true,none⟩::restH w4 [b52,b26]) ok_refl ?_ ?_
  ·refine Hp.listL (es:=[⟨b52,tSam,lc,false,true,none⟩,⟨b26,pLoc,rowP (js.map fun j:Nat=>ptrAt s2.locs (j:Int)) (t.stack.length - k),true,true,none⟩]) ?_ ?_ ?_ ?_
   ·intro q hq
    simp only[List.mem_cons,List.not_mem_nil,or_false]at hq
    rcases hq with rfl|rfl
    ·exact has_blk y52
    ·exact has_blk y26
   ·intro q hq _ hw
    simp only[List.mem_cons,List.not_mem_nil,or_false]at hq
    rcases hq with rfl|rfl
    ·cases hw
    ·exact ⟨Nat.zero_le _,by show pLoc∈_;decide⟩
   ·simp only[List.pairwise_cons,List.mem_cons,List.not_mem_nil,or_false,forall_eq,false_imp_iff,implies_true,and_true,List.Pairwise.nil]
    exact fun _ _ e=>Blk.ne y26 y52 (show pLoc≠tSam by decide) e
   ·intro q hq _
    simp only[List.mem_cons,List.not_mem_nil,or_false]at hq
    rcases hq with rfl|rfl<;>simp
  refine j_nil (ej_then (hK2 _ _ _ (sb [0]) ?_));clear hK2 K2
  refine dg_eff rfl fun K2 hK2=>?_
  refine jJ ru72 so90 (k:=j_nil (ej_then (hK2 _ _ _ (.inl rfl) ?_)));clear hK2 K2
  refine dg_eff rfl fun K2 hK2=>?_
  refine j_storeN (cs':=rowP ((js.map fun j:Nat=>ptrAt s2.locs (j:Int))++[ptr bj]) (t.stack.length - (k+1))) (H':=_) (o:=0+k*1) 1 rfl rfl rfl rfl so90 rfl rfl rfl rfl (Nat.ble_eq_true_of_le (by show 0+k*1+1≤(rowP (js.map fun j:Nat=>ptrAt s2.locs (j:Int)) (t.stack.length - k)).length;rw[rowP_len,List.length_map,hjl];omega)) (by
   show setL (rowP (js.map fun j:Nat=>ptrAt s2.locs (j:Int)) (t.stack.length - k)) (0+k*1) [ptr bj]=_
   rw[show t.stack.length - k=(t.stack.length - (k+1))+1 by omega]
   have e:=rowP_step (L:=js.map fun j:Nat=>ptrAt s2.locs (j:Int)) (r:=t.stack.length - (k+1)) (v:=ptr bj)
   rw[List.length_map,hjl]at e
   rw[Nat.zero_add,Nat.mul_one];exact e) rfl ?_
  refine j_nil (ej_then (hK2 _ _ _ (.inl rfl) ?_));clear hK2 K2
  refine dg_end ?_
  refine K7 (CJ.t [(0,_),(1,_),(5,_),(56,_),(57,_),(58,_)] (k:=cj_reg (jI (k:=jM (k:=j_nil (ej_then ?_))))))
  exact fun w' hH hf=>by
   have kx:KeepX [b52,b26] w4 w':=Hp.keepL (f:=⟨w4,0,[pLoc]⟩) (w:=w4) (L:=[b52,b26]) (es:=[_,_]) hH hf
   have hjl2:∀j∈js,((j:Nat):Int)<s2.locs.length:=fun j hj=>by have h1:=hjr j hj;have h2:=hMu.oL.1;omega
   have hjs:j<s3.z.locs.length:=(List.getElem?_eq_some_iff.1 q4).1
   have hlz:∀(c:Nat) (o:Obj),c≠b52→c≠b26→w4.heap[c]? =some o→w'.heap[c]? =some o:=fun c o h1 h2 ho=>kx.keep _ _ ho (by simp[h1,h2])
   have d3826:b38≠b52∧b38≠b26:=⟨map_neB y38 y52,map_neB y38 y26⟩
   have d4426:b44≠b52∧b44≠b26:=⟨map_neB y44 y52,map_neB y44 y26⟩
   have d5026:b50≠b52∧b50≠b26:=⟨map_neB y50 y52,map_neB y50 y26⟩
   refine hKL (k+1,s3,js++[j]) _ w' ⟨hk',q1.keep kx (fun c hc=>hoo3 c (by
     simp only[List.mem_cons,List.not_mem_nil,or_false]at hc⊢
     rcases hc with rfl|rfl<;>simp)),hSx.thn kx (fun c hc=>by
     simp only[List.mem_cons,List.not_mem_nil,or_false]at hc
     rcases hc with rfl|rfl<;>assumption),by simp[hjl],fun j' hj'=>?_,?_,⟨hH.get (i:=0) rfl rfl,?_,kx.blk y32 (by simp only[List.mem_cons,List.not_mem_nil,or_false,not_or];exact ⟨fun e=>Blk.ne y32 y52 (show tI64≠tSam by decide) e,fun e=>Blk.ne y32 y26 (show tI64≠pLoc by decide) e⟩),hlz _ _ d3826.1 d3826.2 y38,hlz _ _ d4426.1 d4426.2 y44,hlz _ _ d5026.1 d5026.2 y50⟩,hoo3⟩ (by simp only;omega) ⟨rfl,rfl,rfl,rfl,rfl,rfl,trivial⟩
   ·rcases List.mem_append.1 hj' with hj'|hj'
    ·have h1:=hjr j' hj'
     have h2:=q2.gz.l.length_le
     show j'<s3.z.locs.length
     omega
    ·rw[List.mem_singleton.1 hj'];exact hjs
   ·show (js++[j]).map (fun j=>(s3.z.locs[j]?).map (plK s3.z))=(t.stack.take (k+1)).map (fun k=>(atZ x.locs k).map (plK x))
    rw[List.map_append, ← List.take_append_getElem hk',List.map_append, ← hjk]
    congr 1
    ·refine List.map_congr_left fun j' hj'=>?_
     have h1:=hjr j' hj'
     rw[prefix_get q2.gz.l (List.getElem?_eq_getElem h1),List.getElem?_eq_getElem h1]
     show some (plK s3.z _)=some (plK s2.z _)
     rw[MG.plK_up hMu.wz q2.gz (List.getElem?_eq_getElem h1)]
    ·show [(s3.z.locs[j]?).map (plK s3.z)]=[(atZ x.locs t.stack[k]).map (plK x)]
     unfold atZ
     rw[if_pos hk0,q3,q4]
     show [some (plK s3.z l')]=[some (plK x l)]
     rw[q5]
   ·have e:=hH.get (i:=1) rfl rfl
    show Blk w' b26 pLoc (rowP ((js++[j]).map fun j:Nat=>ptrAt s3.locs (j:Int)) (t.stack.length - (k+1)))
    rw[List.map_append,List.map_congr_left fun j' hj'=>ptrAt_pre q2.gl (hjl2 j' hj')]
    show Blk w' b26 pLoc (rowP ((js.map fun j:Nat=>ptrAt s2.locs (j:Int))++[ptrAt s3.locs (j:Int)]) (t.stack.length - (k+1)))
    rw[ptrAt_nat q0]
    exact e
 ·have hke:k=t.stack.length:=by omega
  subst hke
  subst hlc
  rw[List.take_length]at hjk
  rw[Nat.sub_self,rowP,List.replicate_zero,List.append_nil]at hb26
  intro v hHv hfv
  clear hHv hk h59 hcs
  have hkv:KeepX [] u v:=KeepX.of hfv
  have hMv:MG w0 x n v s2:=hMu.keep hkv (by simp)
  have hSv:MStep w s v s2:=hSu.thn hkv (by simp)
  replace hb52:=hkv.blk hb52 (by simp)
  replace hb26:=hkv.blk hb26 (by simp)
  replace hb32:=hkv.blk hb32 (by simp)
  replace hm38:=hkv.keep _ _ hm38 (by simp)
  replace hm44:=hkv.keep _ _ hm44 (by simp)
  replace hm50:=hkv.keep _ _ hm50 (by simp)
  have d38:b38≠b52∧b38≠b26∧b38≠b32:=⟨map_neB hm38 hb52,map_neB hm38 hb26,map_neB hm38 hb32⟩
  have d44:b44≠b52∧b44≠b26∧b44≠b32:=⟨map_neB hm44 hb52,map_neB hm44 hb26,map_neB hm44 hb32⟩
  have d50:b50≠b52∧b50≠b26∧b50≠b32:=⟨map_neB hm50 hb52,map_neB hm50 hb26,map_neB hm50 hb32⟩
  have l38:b38<v.heap.size:=(Array.getElem?_eq_some_iff.1 hm38).1
  have l44:b44<v.heap.size:=(Array.getElem?_eq_some_iff.1 hm44).1
  have l50:b50<v.heap.size:=(Array.getElem?_eq_some_iff.1 hm50).1
  have hb32v:b32<v.heap.size:=hb32.lt
  have hc1:=mc (f:=⟨v,0,[]⟩) (hMv.kp _ _ hb0) rfl
  refine C.begin ⟨v,0,[]⟩ [] ok_refl .nil ?_
  refine cj_exit (K3 (sQ fun K9=>sQ fun K10=>cj_reg (jM (k:=jN (k:=jF 2 ru103 so99 (k:=jL ag99 hc1 2 (k:=?_)))))))
  refine j_rangeM ru99 (fun w' _ hf=>MapAt.keep0 hA1 (Keep.trans hMv.kp (Fr.keepAll hf (.inr rfl)))) rfl rfl fun b77=>?_
  refine K10 (cj_block ?_)
  intro v6 hH6 hf6
  have hit:=hH6.obj (i:=0) rfl rfl
  have n77:v.heap.size≤b77:=hH6.freshE (i:=0) rfl rfl rfl
  have k6:KeepX [] v v6:=KeepX.of hf6
  clear hH6
  refine c_loop (σ:=List Nat×List MapEntry×List (ByteArray×Value)×List MapEntry×Nat×List Nat) (fun _=>[(0,ptr s.pm),(1,ptr b),(5,ptr b52),(77,ptr b77)])
   (fun q u=>Vis es1 q.2.1 q.1∧u.heap[b77]? =some (.mapIter mo1 ck1 q.1.toArray ck1)∧u.heap[b38]? =some (.map (List.toArray q.2.2.2.1) q.2.2.2.2.1)∧MEnc Value.string q.2.2.1 q.2.2.2.1 q.2.2.2.2.1∧KeepX [b38] v u∧LabB tStr .string (fT t) v.heap.size [b77,b38] u q.2.1 q.2.2.1 q.2.2.2.2.2)
   (fun q=>es1.length - q.1.length) ([],[],[],[],0,[]) ⟨rfl,rfl,rfl,rfl,trivial⟩
   ⟨Vis.nil,hit,k6.keep _ _ hm38 (by simp),MEnc.nil,k6.mono (by simp),LabB.nil⟩ ?_
  clear hit k6
  rintro ⟨seen,xs,mq,eq',cq,R⟩ u2 ⟨hV,hit,hm,hMq,hkx,hLB⟩ KL hKL
  try dsimp only at hV hit hm hMq hLB
  have o38:=hoo b38 (by simp)
  have hMu2:MG w0 x n u2 s2:=hMv.keep hkx fun c hc=>by rw[List.mem_singleton.1 hc];exact o38
  have o77:=hMv.out n77
  have hc5:=mc (f:=⟨u2,0,[1000000,1000001]⟩) (hkx.blk hb52 (by simp[d38.1.symm])) rfl
  have hkP:∀(w':World) (es:Heap),Hp ⟨u2,0,[1000000,1000001]⟩ w' (es++restH u2 [b77,b38])→Fm.ok ⟨u2,0,[1000000,1000001]⟩ w'→Keep w0 w':=fun w' es hH hf=>hMu2.kpx (Hp.keepL (es:=es) hH hf) fun c hc=>by
   simp only[List.mem_cons,List.not_mem_nil,or_false]at hc
   rcases hc with rfl|rfl
   ·exact o77.2
   ·exact o38.2
  have hne1:b38≠b77:=by omega
  have hHp1:Hp ⟨u2,0,[1000000,1000001]⟩ u2 (itM b77 mo1 ck1 seen ck1::mpE b38 eq' cq::restH u2 [b77,b38]):=by
   refine Hp.listL (es:=[itM b77 mo1 ck1 seen ck1,mpE b38 eq' cq]) ?_ ?_ ?_ ?_
   ·intro q hq
    simp only[List.mem_cons,List.not_mem_nil,or_false]at hq
    rcases hq with rfl|rfl
    ·exact ⟨fun h=>(by cases h),fun o ho=>by cases ho;exact hit⟩
    ·exact has_map hm
   ·intro q hq _ _
    simp only[List.mem_cons,List.not_mem_nil,or_false]at hq
    rcases hq with rfl|rfl
    ·exact ⟨Nat.zero_le _,by show 1000001∈_;decide⟩
    ·exact ⟨Nat.zero_le _,by show 1000000∈_;decide⟩
   ·simp only[List.pairwise_cons,List.mem_cons,List.not_mem_nil,or_false,forall_eq,false_imp_iff,implies_true,and_true,List.Pairwise.nil]
    exact fun _ _=>hne1
   ·intro q hq _
    simp only[List.mem_cons,List.not_mem_nil,or_false]at hq
    rcases hq with rfl|rfl<;>simp
  refine C.begin ⟨u2,0,[1000000,1000001]⟩ _ ok_refl hHp1 ?_
  refine sQ fun K11=>cj_reg ?_
  refine j_nextM 0 rfl (fun w' hH hf=>MapAt.keep0 hA1 (hkP w' [_,_] hH hf)) hM1.lt (Nat.le_refl _) rfl rfl (fun hall=>?_) (fun xe hxe hns=>?_)
  ·refine jX (k:=K11 (sQ fun K12=>?_))
   refine cj_if_f rfl ?_
   intro v3 hH3 hf3
   have hk3:=Hp.keepL (f:=⟨u2,0,[1000000,1000001]⟩) (w:=u2) (L:=[b77,b38]) (es:=[_,_]) hH3 hf3
   have hkx3:KeepX [b38] v v3:=hkx.thenNew (m:=[b77]) hk3 (by simpa using n77)
   have hmT:v3.heap[b38]? =some (.map (List.toArray eq') cq):=hH3.obj (i:=1) rfl rfl
   have hLT:LabB tStr .string (fT t) v.heap.size [b77,b38] v3 xs mq R:=hLB.keep hk3 fun c hc=>.inl hc
   have hMT:=hMq
   have hNT:=hLT.non hM1 hn1 (hV.all hM1.born hall)
   clear hH3 hKL hHp1 hkP hc5 hMu2 hLB hV hit hm hMq hkx hk3
   have hM3':MG w0 x n v3 s2:=hMv.keep hkx3 fun c hc=>by rw[List.mem_singleton.1 hc];exact o38
   have hS3:MStep w s v3 s2:=hSv.thn hkx3 fun c hc=>by rw[List.mem_singleton.1 hc];exact n38
   replace hb52:=hkx3.blk hb52 (by simp[d38.1.symm])
   replace hb26:=hkx3.blk hb26 (by simp[d38.2.1.symm])
   replace hb32:=hkx3.blk hb32 (by simp[d38.2.2.symm])
   replace hm44:=hkx3.keep _ _ hm44 (by simp[e4438])
   replace hm50:=hkx3.keep _ _ hm50 (by simp[e5038])
   have hc1:=mc (f:=⟨v3,0,[]⟩) (hM3'.kp _ _ hb0) rfl
   refine C.begin ⟨v3,0,[]⟩ [] ok_refl .nil ?_
   refine cj_exit (K9 (sQ fun K13=>sQ fun K14=>cj_reg (jM (k:=jN (k:=jF 3 ru103 so37 (k:=jL ag37 hc1 3 (k:=?_)))))))
   refine j_rangeM ru37 (fun w' _ hf=>MapAt.keep0 hA2 (Keep.trans hM3'.kp (Fr.keepAll hf (.inr rfl)))) rfl rfl fun b99=>?_
   refine K14 (cj_block ?_)
   intro v6 hH6 hf6
   have hit:=hH6.obj (i:=0) rfl rfl
   have n99:v3.heap.size≤b99:=hH6.freshE (i:=0) rfl rfl rfl
   have k6:KeepX [] v3 v6:=KeepX.of hf6
   clear hH6
   refine c_loop (σ:=List Nat×List MapEntry×(List (ByteArray×Value)×List MapEntry×Nat)×(List (ByteArray×Value)×List MapEntry×Nat)×List Nat) (fun _=>[(0,ptr s.pm),(1,ptr b),(5,ptr b52),(99,ptr b99)])
    (fun q u=>Vis es2 q.2.1 q.1∧u.heap[b99]? =some (.mapIter mo2 ck2 q.1.toArray ck2)∧(u.heap[b44]? =some (.map (List.toArray q.2.2.1.2.1) q.2.2.1.2.2)∧MEnc Value.string q.2.2.1.1 q.2.2.1.2.1 q.2.2.1.2.2)∧(u.heap[b50]? =some (.map (List.toArray q.2.2.2.1.2.1) q.2.2.2.1.2.2)∧MEnc Value.string q.2.2.2.1.1 q.2.2.2.1.2.1 q.2.2.2.1.2.2∧∀k z,mget q.2.2.2.1.1 k=some z→∃p c,z=.slice p 0 c)∧KeepX [b44,b50] v3 u∧LabB tI64 (.int .i64) (fN t) v3.heap.size [b99,b44,b50] u q.2.1 q.2.2.1.1 q.2.2.2.2)
    (fun q=>es2.length - q.1.length) ([],[],([],[],0),([],[],0),[]) ⟨rfl,rfl,rfl,rfl,trivial⟩
    ⟨Vis.nil,hit,⟨k6.keep _ _ hm44 (by simp),MEnc.nil⟩,⟨k6.keep _ _ hm50 (by simp),MEnc.nil,fun k z h=>(by simp[mget_nil]at h)⟩,k6.mono (by simp),LabB.nil⟩ ?_
   clear hit k6
   rintro ⟨seen2,xs2,⟨mN,eN,cN⟩,⟨mU,eU,cU⟩,R2⟩ u3 ⟨hV,hit,⟨hmN,hMN⟩,⟨hmU,hMU,hUz⟩,hkx,hLB⟩ KL2 hKL2
   try dsimp only at hV hit hmN hMN hmU hMU hUz hLB
   have o44:=hoo b44 (by simp)
   have o50:=hoo b50 (by simp)
   have hMu3:MG w0 x n u3 s2:=hM3'.keep hkx fun c hc=>by
    simp only[List.mem_cons,List.not_mem_nil,or_false]at hc
    rcases hc with rfl|rfl
    ·exact o44
    ·exact o50
   have o99:=hM3'.out n99
   have hc5:=mc (f:=⟨u3,0,[1000000,1000001]⟩) (hkx.blk hb52 (by simp[d44.1.symm,d50.1.symm])) rfl
   have hc1:=mc (f:=⟨u3,0,[1000000,1000001]⟩) (hMu3.kp _ _ hb0) rfl
   have hkP:∀(w':World) (es:Heap),Hp ⟨u3,0,[1000000,1000001]⟩ w' (es++restH u3 [b99,b44,b50])→Fm.ok ⟨u3,0,[1000000,1000001]⟩ w'→Keep w0 w':=fun w' es hH hf=>hMu3.kpx (Hp.keepL (es:=es) hH hf) fun c hc=>by
    simp only[List.mem_cons,List.not_mem_nil,or_false]at hc
    rcases hc with rfl|rfl|rfl
    ·exact o99.2
    ·exact o44.2
    ·exact o50.2
   have hle3:v.heap.size≤v3.heap.size:=hkx3.size
   have hne1:b44≠b99:=by omega
   have hne2:b50≠b99:=by omega
   have hHp2:Hp ⟨u3,0,[1000000,1000001]⟩ u3 (itM b99 mo2 ck2 seen2 ck2::mpE b44 eN cN::mpE b50 eU cU::restH u3 [b99,b44,b50]):=by
    refine Hp.listL (es:=[itM b99 mo2 ck2 seen2 ck2,mpE b44 eN cN,mpE b50 eU cU]) ?_ ?_ ?_ ?_
    ·intro q hq
     simp only[List.mem_cons,List.not_mem_nil,or_false]at hq
     rcases hq with rfl|rfl|rfl
     ·exact ⟨fun h=>(by cases h),fun o ho=>by cases ho;exact hit⟩
     ·exact has_map hmN
     ·exact has_map hmU
    ·intro q hq _ _
     simp only[List.mem_cons,List.not_mem_nil,or_false]at hq
     rcases hq with rfl|rfl|rfl
     ·exact ⟨Nat.zero_le _,by show 1000001∈_;decide⟩
     ·exact ⟨Nat.zero_le _,by show 1000000∈_;decide⟩
     ·exact ⟨Nat.zero_le _,by show 1000000∈_;decide⟩
    ·simp only[List.pairwise_cons,List.mem_cons,List.not_mem_nil,or_false,forall_eq_or_imp,forall_eq,false_imp_iff,implies_true,and_true,List.Pairwise.nil]
     exact ⟨⟨fun _ _=>hne1,fun _ _=>hne2⟩,fun _ _=>e5044⟩
    ·intro q hq _
     simp only[List.mem_cons,List.not_mem_nil,or_false]at hq
     rcases hq with rfl|rfl|rfl<;>simp
   refine C.begin ⟨u3,0,[1000000,1000001]⟩ _ ok_refl hHp2 ?_
   refine sQ fun K15=>cj_reg ?_
   refine j_nextM 0 rfl (fun w' hH hf=>MapAt.keep0 hA2 (hkP w' [_,_,_] hH hf)) hM2.lt (Nat.le_refl _) rfl rfl (fun hall=>?_) (fun xe hxe hns=>?_)
   ·refine jX (k:=K15 (sQ fun K16=>?_))
    refine cj_if_f rfl ?_
    intro v7 hH7 hf7
    have hk7:=Hp.keepL (f:=⟨u3,0,[1000000,1000001]⟩) (w:=u3) (L:=[b99,b44,b50]) (es:=[_,_,_]) hH7 hf7
    have hkx7:KeepX [b44,b50] v3 v7:=hkx.thenNew (m:=[b99]) hk7 (by simpa using n99)
    have hmN7:v7.heap[b44]? =some (.map (List.toArray eN) cN):=hH7.obj (i:=1) rfl rfl
    have hmU7:v7.heap[b50]? =some (.map (List.toArray eU) cU):=hH7.obj (i:=2) rfl rfl
    have hLN:LabB tI64 (.int .i64) (fN t) v3.heap.size [b99,b44,b50] v7 xs2 mN R2:=hLB.keep hk7 fun c hc=>.inl hc
    have hNN:=hLN.non hM2 hn2 (hV.all hM2.born hall)
    have o4450:∀c∈[b44,b50],c∉s2.hot∧¬s2.cold c:=fun c hc=>by
     simp only[List.mem_cons,List.not_mem_nil,or_false]at hc
     rcases hc with rfl|rfl
     ·exact o44
     ·exact o50
    have hM7:MG w0 x n v7 s2:=hM3'.keep hkx7 o4450
    have hS7:MStep w s v7 s2:=hS3.thn hkx7 fun c hc=>by
     simp only[List.mem_cons,List.not_mem_nil,or_false]at hc
     rcases hc with rfl|rfl<;>assumption
    have hLT7:LabB tStr .string (fT t) v.heap.size [b77,b38] v7 xs mq R:=hLT.keep hkx7 fun c hc=>by
     simp only[List.mem_cons,List.not_mem_nil,or_false]at hc
     rcases hc with rfl|rfl
     ·exact .inr l44
     ·exact .inr l50
    replace hmT:=hkx7.keep _ _ hmT (by simp[e4438.symm,e5038.symm])
    replace hb52:=hkx7.blk hb52 (by simp[d44.1.symm,d50.1.symm])
    replace hb26:=hkx7.blk hb26 (by simp[d44.2.1.symm,d50.2.1.symm])
    replace hb32:=hkx7.blk hb32 (by simp[d44.2.2.symm,d50.2.2.symm])
    clear hH7 hKL2 hHp2 hkP hMu3 hLB hV hit hmN hmU hk7 hkx
    obtain ⟨t2,ht2⟩:∃t2:PSample,t2=⟨js.map fun j:Nat=>(j:Int),t.values,t.texts,t.nums⟩:=⟨_,rfl⟩
    have hsk2:t2.stack=js.map fun j:Nat=>(j:Int):=by rw[ht2]
    have hjl7:js.length=t.stack.length:=hjl
    have hOL:OS pLoc 1 v7 (.slice (some ⟨b26,0,none⟩) t.stack.length t.stack.length) (t2.stack.map (ptrAt s2.locs)):=by
     rw[hsk2,List.map_map]
     have:=OS.full (sz:=1) (l:=t.stack.length) hb26 (by rw[List.length_map,hjl7];omega)
     exact this
    have hUn:UnN v7 (.map (some b50)):=.inr ⟨b50,mU,eU,cU,rfl,hmU7,hMU,hUz⟩
    have hSY:SamY v7 s2.locs b52 t2:=⟨_,_,_,_,_,_,_,hb52,hOL,by rw[ht2];exact hLT7.toF hmT hMT hNT,by rw[ht2];exact hLN.toF hmN7 hMN hNN,hUn⟩
    have hzl:∀k∈t2.stack,0≤k∧k<s2.z.locs.length:=fun k hk=>by
     rw[hsk2]at hk
     obtain ⟨j,hj,rfl⟩:=List.mem_map.1 hk
     have:=hjr j hj
     omega
    have hLz:s2.z.locs.length≤1010000:=by
     have h1:=hM7.bL
     have h2:=hM7.jl
     have h3:=hX.nl
     omega
    have hloc:∀k∈t2.stack,0≤k∧k<2000000∧∃bl cs,ptrAt s2.locs k=ptr bl∧Blk v7 bl tLoc (.int .u64 (k+1)::cs):=fun k hk=>by
     obtain ⟨h1,h2⟩:=hzl k hk
     have hl1:k.toNat<s2.z.locs.length:=by omega
     have hl2:k.toNat<s2.locs.length:=by rw[hM7.oL.1];exact hl1
     obtain ⟨lsx,hbx, -⟩:=((hM7.oL.2 _ _ _ (List.getElem?_eq_getElem hl2) (List.getElem?_eq_getElem hl1)).now).ex
     have hid:=(hM7.wz.lc _ _ (List.getElem?_eq_getElem hl1)).1
     refine ⟨h1,by omega,_,[ptrAt s2.maps (s2.z.locs[k.toNat]).mapping,.int .u64 (s2.z.locs[k.toNat]).addr,lsx,.bool false,.int .u64 0],by unfold ptrAt;rw[if_pos h1,List.getElem?_eq_getElem hl2];rfl,?_⟩
     have e:(k+1:Int)=(s2.z.locs[k.toNat]).id:=by rw[hid];omega
     rw[e]
     exact hbx
    have hsl2:t2.stack.length≤60:=by rw[hsk2,List.length_map,hjl7];exact hst
    have hLab2:LabP t2:=by rw[ht2];exact ⟨hS.lab.tlen,hS.lab.nlen,hS.lab.tasc,hS.lab.nasc,hS.lab.tl,hS.lab.nl⟩
    have hTx2:TxS t2:=hS.tx.same (by rw[ht2]) (by rw[ht2])
    have hsm:Go.Fw.smK s2.z t2=Go.Fw.smK x t:=smK_eq (by
     rw[hsk2,List.map_map, ← hjk]
     refine List.map_congr_left fun j _=>?_
     show (atZ s2.z.locs ((j:Nat):Int)).map (plK s2.z)=_
     unfold atZ
     rw[if_pos (by omega),Int.toNat_natCast]) (by rw[ht2]) (by rw[ht2])
    obtain ⟨e5,k5,hmS,hM5⟩:=hM7.tS
    have hcs:=mc (f:=⟨v7,0,[]⟩) (hM7.kp _ _ hb0) rfl
    have hcp:=mc (f:=⟨v7,0,[]⟩) hM7.bpm rfl
    rw[hpm2]at hcp
    refine C.begin ⟨v7,0,[]⟩ [] ok_refl .nil ?_
    refine cj_exit (K13 (sQ fun K17=>cj_reg (jM (k:=?_))))
    refine j_callQ (φ:=fun v=>∃kk:SmpK,v=.agg (List.toArray [.string kk.1,.string kk.2.1,.string kk.2.2])∧SKey t2 kk) call54 rfl rfl (fun w' hH hf=>by
     have hkw:Keep v7 w':=Fr.keepAll hf (.inr rfl)
     refine (smpKey_c w' s2.locs b52 t2 ?_ (fun k hk=>?_) hsl2 hLab2 hTx2 (hT.keep (Keep.trans hM7.kp hkw))).mono ?_
     ·obtain ⟨_,_,_,_,_,_,_,y1,y2,y3,y4,y5⟩:=hSY.ex
      exact ⟨_,_,_,_,_,_,_,hkw _ _ y1,y2.mono fun b cs hb=>hkw _ _ hb,y3.mono (fun b cs hb=>hkw _ _ hb) (fun b es ck hb=>hkw _ _ hb),y4.mono (fun b cs hb=>hkw _ _ hb) (fun b es ck hb=>hkw _ _ hb),y5.mono fun b es ck hb=>hkw _ _ hb⟩
     ·obtain ⟨h1,h2,bl,cs,h3,h4⟩:=hloc k hk
      exact ⟨h1,h2,bl,cs,h3,hkw _ _ h4⟩
     ·exact Ret.mono fun v w3 hR=>⟨by obtain ⟨kk,h1,h2⟩:=hR.1;exact ⟨kk,h1,h2⟩,hR.2⟩) fun vK hvK=>?_
    obtain ⟨kk,rfl,hSK⟩:=hvK
    obtain ⟨pk,hlk5⟩:∃pk,(mget s2.kS kk).getD (.pointer none)=.pointer pk:=by
     cases hg:mget s2.kS kk with
     |none=>exact ⟨_,rfl⟩
     |some u=>
      obtain ⟨_,_,_, -, -,rfl, -⟩:=hM7.sS _ _ hg
      exact ⟨_,rfl⟩
    refine j_allocA (zs:=[(.string ⟨#[]⟩),(.string ⟨#[]⟩),(.string ⟨#[]⟩)]) zv154 rfl fun b16=>jB [_,_,_] [_] 0 so154 (k:=K17 (sQ fun K18=>sQ fun K19=>?_))
    refine cj_drawT 11 (lts [0,1,2,3,4,5,6,7,8,9,10]) [0] rfl (fun w=>w.heap[s2.mS]? =some (.map e5.toArray k5)) (by kernel_rfl) (by kernel_rfl) ?_
    refine dj_valT rfl rfl (sub_of [0] rfl) (fun w' hH hf=>(Fr.keepAll hf (.inr rfl)) _ _ hmS) (fun _ _ h=>r_move rfl h) (dj_valT rfl rfl (sub_of [0] rfl) (fun w' hH hf=>(Fr.keepAll hf (.inr rfl)) _ _ hmS) (fun _ _ h=>r_nil rfl h) (dj_valT rfl rfl (sub_of [0] rfl) (fun w' hH hf=>(Fr.keepAll hf (.inr rfl)) _ _ hmS) (fun _ _ h=>r_fl (q:=4) (ft:=107) ru115 rfl so107 rfl h) (dj_ldT rfl rfl (sub_of [0] rfl) (fun w' hH hf=>(Fr.keepAll hf (.inr rfl)) _ _ hmS) (fun a w ha hS=>r_load ag107 rfl (hcp w (hS.2) 4 _ rfl) ha) (dj_ldT rfl rfl (sub_of [0] rfl) (fun w' hH hf=>(Fr.keepAll hf (.inr rfl)) _ _ hmS) (fun a w ha hS=>r_ldSA (vs:=[_,_,_]) 0 rfl rfl ag154 so154 rfl rfl rfl ha hS) ?_))))
    refine dj_lkT rfl rfl (sub_of [0] rfl) (fun w' hH hf=>(Fr.keepAll hf (.inr rfl)) _ _ hmS) (fun a w ha hT=>(r_look2W (k:=kk) ru107 keySm hM5 zv98 rfl rfl ha hT).trans (by rw[hlk5])) ?_
    refine dj_valT rfl rfl (sub_of [0] rfl) (fun w' hH hf=>(Fr.keepAll hf (.inr rfl)) _ _ hmS) (fun _ _ h=>r_move rfl h) (dj_valT rfl rfl (sub_of [0] rfl) (fun w' hH hf=>(Fr.keepAll hf (.inr rfl)) _ _ hmS) (fun _ _ h=>r_extract rfl rfl h) (dj_valT rfl rfl (sub_of [0] rfl) (fun w' hH hf=>(Fr.keepAll hf (.inr rfl)) _ _ hmS) (fun _ _ h=>r_extract rfl rfl h) (dj_valT rfl rfl (sub_of [0] rfl) (fun w' hH hf=>(Fr.keepAll hf (.inr rfl)) _ _ hmS) (fun _ _ h=>r_assign rfl h) (dj_valT rfl rfl (sub_of [0] rfl) (fun w' hH hf=>(Fr.keepAll hf (.inr rfl)) _ _ hmS) (fun _ _ h=>r_assign rfl h) (K19 (CJ.t [(0,_),(1,_),(5,_),(16,_),(17,_),(18,_)] (k:=sQ fun K20=>cj_reg (jM (k:=K20 ?_)))))))))
    refine cj_if rfl (fun h146=>?_) (fun h146=>?_)
    ·obtain ⟨u5,hu5⟩:=Option.isSome_iff_exists.1 h146
     obtain ⟨j5,bs,mj,hbs,hmj,rfl,hkj⟩:=hM7.sS _ _ hu5
     have epk:pk=some ⟨bs,0,none⟩:=by rw[hu5]at hlk5;cases hlk5;rfl
     subst epk
     intro v8 hH8 hf8
     have hk8:KeepX [] v7 v8:=KeepX.of hf8
     have hM8:MG w0 x n v8 s2:=hM7.keep hk8 (by simp)
     have hS8:MStep w s v8 s2:=hS7.thn hk8 (by simp)
     clear hH8
     have hjb:j5<s2.vals.length:=by have h1:=(List.getElem?_eq_some_iff.1 hbs).1;have h2:=hM8.lS;omega
     obtain ⟨bv,hbv⟩:∃bv,s2.vals[j5]? =some bv:=⟨_,List.getElem?_eq_getElem hjb⟩
     have hrow:=hM8.oV.2 j5 _ _ hbv hmj
     obtain ⟨sls,slm,snm,sum',siv,sxv,hbsm, -⟩:=(hM8.oS j5 bs bv mj hbs hbv hmj).now
     obtain ⟨hmn,hmf, -⟩:=hM8.wz.sm mj (List.mem_of_getElem? hmj)
     have hbh:bv∈s2.hot:=hM8.hh _ (List.mem_append_right _ (List.mem_of_getElem? hbv))
     have hbw:w0.heap.size≤bv:=by
      by_cases hq:bv<w0.heap.size
      ·exact absurd hbh (hM8.cd _ (hM8.c0 _ hq)).2
      ·omega
     have hcs:=mc (f:=⟨v8,w0.heap.size,[tI64]⟩) (hM8.kp _ _ hb0) rfl
     have hcb:=mc (f:=⟨v8,w0.heap.size,[tI64]⟩) hbsm rfl
     have hkF:∀{w':World},Fm.ok ⟨v8,w0.heap.size,[tI64]⟩ w'→Keep w0 w':=fun hf b o ho=>hf.keep b o (hM8.kp _ _ ho) (.inl (Array.getElem?_eq_some_iff.1 ho).1)
     have hHp8:Hp ⟨v8,w0.heap.size,[tI64]⟩ v8 (⟨bv,tI64,mj.values.map (.int .i64),true,true,none⟩::restH v8 [bv]):=Hp.one hrow hbw rfl
     refine C.begin ⟨v8,w0.heap.size,[tI64]⟩ _ ok_refl hHp8 ?_
     refine sQ fun K21=>sQ fun K22=>cj_reg (jM (k:=jN (k:=jF 1 ru103 so49 (k:=jL ag49 hcs 1 (k:=jE ru49 (k:=jM (k:=K22 (cj_block ?_))))))))
     refine cj_loop (σ:=Nat) (fun k=>[(17,ptr bs),(150,.slice pV t.values.length cV),(151,.int .i64 (t.values.length:Nat)),(152,.int .i64 (k:Nat))])
      (fun k=>⟨bv,tI64,((addV mj.values t.values).take k++mj.values.drop k).map (.int .i64),true,true,none⟩::restH v8 [bv])
      (fun k _=>k≤t.values.length) (fun k=>t.values.length - k) 0 sR (fun w' hH hf=>⟨hH,Nat.zero_le _⟩) ?_
     intro k w1 hk1 hf1 hH1 KL3 hKL3
     refine C.begin _ _ hf1 hH1 ?_
     refine sQ fun K23=>cj_reg (jS (k:=K23 (sQ fun K24=>?_)))
     refine cj_dec rfl (fun h153=>?_) (fun h153=>?_)
     ·have hk':k<t.values.length:=by omega
      have hkm:k<mj.values.length:=by omega
      obtain ⟨pq,lq,cq,eq, -, -,hVx⟩:=hvs0.openF
      cases eq
      obtain ⟨bl,rfl,hVc⟩:=hVx (by omega)
      have hcell:∀w',Fm.ok ⟨v8,w0.heap.size,[tI64]⟩ w'→w'.cell? ⟨bl,0+k*1,none⟩=some (.int .i64 t.values[k]):=fun w' hf=>by
       have h1:=hVc ⟨w0,0,[]⟩ rfl rfl w0 ok_refl k (.int .i64 t.values[k]) (by rw[List.getElem?_map,List.getElem?_eq_getElem hk'];rfl)
       have h2:=(hkF hf).cell h1
       simpa using h2
      have hal:(addV mj.values t.values).length=n:=addV_len hmn hln
      have htk:((addV mj.values t.values).take k).length=k:=by rw[List.length_take];omega
      have hgk:(((addV mj.values t.values).take k++mj.values.drop k).map (Value.int .i64))[0+k*1]? =some (.int .i64 mj.values[k]):=by
       rw[List.getElem?_map,List.getElem?_append_right (by omega),htk,show 0+k*1 - k=0 by omega,List.getElem?_drop,Nat.add_zero,List.getElem?_eq_getElem hkm];rfl
      have hak:(addV mj.values t.values)[k]'(by omega)=IntKind.i64.wrap (mj.values[k]+t.values[k]):=by unfold addV;rw[List.getElem_zipWith]
      refine cj_skip (K24 (sQ fun K25=>cj_block (sQ fun K26=>cj_reg (jM (k:=jJ ru49 so2 (k:=?_))))))
      refine j_valw rfl (fun a w ha hH hf=>r_load ag2 rfl (hcell w hf) ha) (jA (k:=jA (k:=K26 (cj_reg (jM (k:=jN (k:=jF 1 ru103 so49 (k:=jL ag49 hcb 1 (k:=jM (k:=jJ ru49 so2 (k:=?_)))))))))))
      refine j_valw rfl (fun a w ha hH hf=>r_load ag2 rfl ((hH.get (i:=0) rfl rfl).cell' hgk) ha) (jM (k:=?_))
      refine j_val rfl (fun _ _ h=>r_add rfl rfl h) (jJ ru49 so2 (k:=?_))
      refine j_storeN (cs':=((addV mj.values t.values).take (k+1)++mj.values.drop (k+1)).map (.int .i64)) (H':=_) (o:=0+k*1) 0 rfl rfl rfl rfl so2 rfl rfl rfl rfl (Nat.ble_eq_true_of_le (by show 0+k*1+1≤(((addV mj.values t.values).take k++mj.values.drop k).map (Value.int .i64)).length;simp only[List.length_map,List.length_append,List.length_drop,htk];omega)) (by
       show setL (((addV mj.values t.values).take k++mj.values.drop k).map (Value.int .i64)) (0+k*1) [.int .i64 (IntKind.i64.wrap (mj.values[k]+t.values[k]))]=_
       rw[List.drop_eq_getElem_cons hkm,List.map_append,List.map_cons]
       have e:=setL_app (((addV mj.values t.values).take k).map (Value.int .i64)) (u:=.int .i64 mj.values[k]) (v:=.int .i64 (IntKind.i64.wrap (mj.values[k]+t.values[k]))) (r:=(mj.values.drop (k+1)).map (.int .i64))
       rw[List.length_map,htk]at e
       rw[Nat.zero_add,Nat.mul_one,e, ← List.take_append_getElem (show k<(addV mj.values t.values).length by omega),hak];simp) rfl ?_
      refine K25 (CJ.t [(17,_),(150,_),(151,_),(152,_)] (k:=cj_reg (jI (k:=jM (k:=j_nil (ej_then ?_))))))
      exact fun w' hH hf=>hKL3 (k+1) _ w' hk' hf hH (by omega) sR
     ·have hke:k=t.values.length:=by omega
      subst hke
      have hfin:((addV mj.values t.values).take t.values.length++mj.values.drop t.values.length)=addV mj.values t.values:=by
       rw[List.take_of_length_le (by rw[addV_len hmn hln];omega),List.drop_of_length_le (by omega),List.append_nil]
      rw[hfin]
      refine cj_exit (K21 (sQ fun K27=>cj_reg (jM (k:=jA (k:=K27 (cj_ret ?_))))))
      first
      |exact ej_ret1 results35 rfl fun w' hH hf=>by
         have kx:=Hp.keepL (f:=⟨v8,w0.heap.size,[tI64]⟩) (w:=v8) (L:=[bv]) (es:=[_]) hH hf
         obtain ⟨r1,r2⟩:=hM8.setS hbv hmj kx (hH.get (i:=0) rfl rfl) hln
         have hin:=SKey.inj (fun j hj=>(hzl j hj).1) (fun j hj=>(hM8.wz.sm mj (List.mem_of_getElem? hmj)).2.2.2.1 j hj|>.1) (List.pairwise_map.1 hLab2.tpw) (List.pairwise_map.1 (hM8.wz.sm mj (List.mem_of_getElem? hmj)).2.2.2.2.1.tpw) (List.pairwise_map.1 hLab2.npw) (List.pairwise_map.1 (hM8.wz.sm mj (List.mem_of_getElem? hmj)).2.2.2.2.1.npw) hSK hkj
         have hsmp:s2.z.samples=s.z.samples:=hS8.smp
         refine ⟨_,r1,hS8.s.trans r2,?_,fun u hu=>?_,fun F q=>?_⟩
         ·show (s2.z.samples.set j5 _).length≤_
          rw[List.length_set,hsmp];omega
         ·obtain ⟨i,hi⟩:=List.mem_iff_getElem?.1 hu
          by_cases e:j5=i
          ·subst e
           rw[List.getElem?_set_self (List.getElem?_eq_some_iff.1 hmj).1]at hi
           cases hi
           exact (hTx mj (by rw[← hsmp];exact List.mem_of_getElem? hmj)).same rfl rfl
          ·rw[List.getElem?_set_ne e]at hi
           exact hTx u (by rw[← hsmp];exact List.mem_of_getElem? hi)
         ·have e1:=sum_set (F:=F) (n:=n) (z:=s2.z) (z':={ s2.z with samples:=s2.z.samples.set j5 { mj with values:=addV mj.values t.values } }) (i:=j5) (t:=mj) (v:=t.values) hM8.samN ⟨List.prefix_rfl,List.prefix_rfl,List.prefix_rfl⟩ hmj hln rfl q
          have e2:Go.Fw.smK s2.z mj=Go.Fw.smK x t:=(SKey.smK hin.1.symm hin.2.1.symm hin.2.2.symm).trans hsm
          rw[e2,txL_grow h.samN hS8.gz hsmp]at e1
          exact e1
      |exact ej_ret1 results35 rfl fun w' hH hf=>by
         have kx:=Hp.keepL (f:=⟨v8,0,[tProf,pSam,1000000,tI64]⟩) (w:=v8) (L:=[s2.pb,s2.mS,b32]++rowL y) (es:=[_,_,_,_]) hH hf
         have hin:∀{c T:Nat} {cs:List Value},Blk v8 c T cs→T≠tProf→T≠pSam→T≠tI64→Blk w' c T cs:=fun {c T cs} hb n1 n2 n3=>kx.blk hb fun hm=>by
          rcases List.mem_append.1 hm with hm|hm
          ·simp only[List.mem_cons,List.not_mem_nil,or_false]at hm
           rcases hm with rfl|rfl|rfl
           ·exact hb.ne hpb n1 rfl
           ·exact map_neB hmS8 hb rfl
           ·exact hb.ne hb32 n3 rfl
          ·obtain ⟨ho,rfl⟩:=mem_rowL' hm
           exact hb.ne (hy ho).1 n2 rfl
         have hinm:∀{c:Nat} {e0:Array MapEntry} {k0:Nat},c≠s2.mS→v8.heap[c]? =some (.map e0 k0)→w'.heap[c]? =some (.map e0 k0):=fun {c e0 k0} n1 hb=>kx.keep _ _ hb fun hm=>by
          rcases List.mem_append.1 hm with hm|hm
          ·simp only[List.mem_cons,List.not_mem_nil,or_false]at hm
           rcases hm with rfl|rfl|rfl
           ·exact map_neB hb hpb rfl
           ·exact n1 rfl
           ·exact map_neB hb hb32 rfl
          ·obtain ⟨ho,rfl⟩:=mem_rowL' hm
           exact map_neB hb (hy ho).1 rfl
         have hmSh:s2.mS∈s2.hot:=hM8.hh _ (by simp)
         have q38:b38≠s2.mS:=fun e=>(hof b38 (by simp)).1 (e▸hmSh)
         have q44:b44≠s2.mS:=fun e=>(hof b44 (by simp)).1 (e▸hmSh)
         have q50:b50≠s2.mS:=fun e=>(hof b50 (by simp)).1 (e▸hmSh)
         have hR:∀c∈R++R2,v.heap.size≤c:=fun c hc=>by
          rcases List.mem_append.1 hc with hc|hc
          ·exact (hLT8.row c hc).1
          ·exact Nat.le_trans hkx3.size (hLN8.row c hc).1
         have hRl:∀c∈R++R2,c<v8.heap.size:=fun c hc=>by
          rcases List.mem_append.1 hc with hc|hc
          ·exact (hLT8.row c hc).2.1
          ·exact (hLN8.row c hc).2.1
         have hRL:∀c∈R++R2,c∉[s2.pb,s2.mS,b32]++rowL y∧c∉s2.hot:=fun c hc=>by
          have h1:=hR c hc
          have hh:c∉s2.hot:=(hMv.out h1).1
          refine ⟨fun hm=>?_,hh⟩
          rcases List.mem_append.1 hm with hm|hm
          ·simp only[List.mem_cons,List.not_mem_nil,or_false]at hm
           rcases hm with rfl|rfl|rfl
           ·exact hh (hM8.hh _ (by simp))
           ·exact hh hmSh
           ·omega
          ·obtain ⟨ho,rfl⟩:=mem_rowL' hm
           rcases List.mem_cons.1 (hy ho).2 with e|e
           ·omega
           ·exact hh e
         have yb52:=hin hb52 (by decide) (by decide) (by decide)
         have yb26:=hin hb26 (by decide) (by decide) (by decide)
         have ymT:=hinm q38 hmT
         have ymN:=hinm q44 hmN8
         have ymU:=hinm q50 hmU8
         have hlt9:v8.heap.size≤w'.heap.size:=kx.size
         have yLT:LabB tStr .string (fT t) v.heap.size [b77,b38] w' xs mq R:=⟨fun k z hk=>⟨(hLT8.lab k z hk).1,(hLT8.lab k z hk).2.keep (fun c o hc ho=>kx.keep c o ho (hRL c (List.mem_append_left _ hc)).1) fun _ hc=>hc⟩,hLT8.inn,fun c hc=>⟨(hLT8.row c hc).1,Nat.lt_of_lt_of_le (hLT8.row c hc).2.1 hlt9,(hLT8.row c hc).2.2⟩⟩
         have yLN:LabB tI64 (.int .i64) (fN t) v3.heap.size [b99,b44,b50] w' xs2 mN R2:=⟨fun k z hk=>⟨(hLN8.lab k z hk).1,(hLN8.lab k z hk).2.keep (fun c o hc ho=>kx.keep c o ho (hRL c (List.mem_append_right _ hc)).1) fun _ hc=>hc⟩,hLN8.inn,fun c hc=>⟨(hLN8.row c hc).1,Nat.lt_of_lt_of_le (hLN8.row c hc).2.1 hlt9,(hLN8.row c hc).2.2⟩⟩
         obtain ⟨N,hN⟩:∃N:Nat→Prop,N=fun c=>c=b52∨c=b26∨(c=b38∨c∈R)∨(c=b44∨c∈R2)∨c=b50:=⟨_,rfl⟩
         have hOn:On N w' (SamC s2.locs b52 b32 n t2):=by
          rw[← hln]
          intro w2 k2
          subst hN
          refine ⟨_,_,_,_,_,_,k2 b52 _ (.inl rfl) yb52,?_,?_,?_,?_,rfl,rfl⟩
          ·rw[hsk2,List.map_map]
           have:=OS.full (sz:=1) (l:=t.stack.length) (k2 b26 _ (.inr (.inl rfl)) yb26) (by rw[List.length_map,hjl7];omega)
           exact this
          ·rw[ht2];exact yLT.on ymT hMT hNT w2 fun c o hc=>k2 c o (.inr (.inr (.inl hc)))
          ·rw[ht2];exact yLN.on ymN hMN hNN w2 fun c o hc=>k2 c o (.inr (.inr (.inr (.inl hc))))
          ·exact .inr ⟨b50,mU,eU,cU,rfl,k2 b50 _ (.inr (.inr (.inr (.inr rfl)))) ymU,hMU,hUz⟩
         have hrow9:∀c,N c→w.heap.size≤c∧c<w'.heap.size∧c∉rowL y197∧c∉b32::s2.hot:=fun c hc=>by
          have hyr:∀{c T:Nat} {cs:List Value},Blk w' c T cs→T≠pSam→c∉rowL y197:=fun hb n1 hm=>by
           obtain ⟨ho,rfl⟩:=mem_rowL' hm
           have:=hH.get (i:=0) rfl ho
           rw[hO197.hT]at this
           exact hb.ne this n1 rfl
          have hyrm:∀{c:Nat} {e0:Array MapEntry} {k0:Nat},w'.heap[c]? =some (.map e0 k0)→c∉rowL y197:=fun hb hm=>by
           obtain ⟨ho,rfl⟩:=mem_rowL' hm
           have:=hH.get (i:=0) rfl ho
           rw[hO197.hT]at this
           exact map_neB hb this rfl
          have hvw:w.heap.size≤v.heap.size:=hSv.kx.size
          have hb32l:b32<v.heap.size:=hb32v
          have hRr:∀{T:Nat} {cs:List Value},c∈R++R2→w.heap.size≤c∧c<w'.heap.size∧c∉rowL y197∧c∉b32::s2.hot:=fun hcR=>by
           have h1:=hR c hcR
           refine ⟨Nat.le_trans hvw h1,Nat.lt_of_lt_of_le (hRl c hcR) hlt9,fun hm=>?_,fun hm=>?_⟩
           ·obtain ⟨ho,rfl⟩:=mem_rowL' hm
            rcases Hp.newOr (es:=[_,_,_]) hH (by simp[Ent.ex,ho]) with q|q
            ·exact (hRL _ hcR).1 q
            ·have:=hRl _ hcR;omega
           ·rcases List.mem_cons.1 hm with e|e
            ·omega
            ·exact (hRL c hcR).2 e
          have hoc:∀{c:Nat},c∈[b52,b26,b32,b38,b44,b50]→c≠b32→c∉b32::s2.hot:=fun h1 h2 hm=>by
           rcases List.mem_cons.1 hm with e|e
           ·exact h2 e
           ·exact (hof _ h1).1 e
          subst hN
          rcases hc with rfl|rfl|(rfl|hc)|(rfl|hc)|rfl
          ·exact ⟨n52,yb52.lt,hyr yb52 (by decide),hoc (by simp) fun e=>hb52.ne hb32 (by decide) e⟩
          ·exact ⟨n26,yb26.lt,hyr yb26 (by decide),hoc (by simp) fun e=>hb26.ne hb32 (by decide) e⟩
          ·exact ⟨n38,(Array.getElem?_eq_some_iff.1 ymT).1,hyrm ymT,hoc (by simp) d38.2.2⟩
          ·exact hRr (T:=0) (cs:=[]) (List.mem_append_left _ hc)
          ·exact ⟨n44,(Array.getElem?_eq_some_iff.1 ymN).1,hyrm ymN,hoc (by simp) d44.2.2⟩
          ·exact hRr (T:=0) (cs:=[]) (List.mem_append_right _ hc)
          ·exact ⟨n50,(Array.getElem?_eq_some_iff.1 ymU).1,hyrm ymU,hoc (by simp) d50.2.2⟩
         have hS9:SStep w s v8 { s2 with hot:=b32::s2.hot }:={ hS8.s with
          hs:=fun c hc=>(List.mem_cons.1 hc).elim (fun e=>.inr (e▸n32)) (hS8.hs c)
          hi:=fun c hc=>List.mem_cons_of_mem _ (hS8.hi c hc) }
         obtain ⟨s',r1,r2,r3⟩:=hMh.newS (y:=y) (y':=y197) (p:=p) (c:=c) (l:=lq) (bn:=b52) (bv:=b32) (m2:=t2) (N:=N) (kk:=kk) (List.mem_cons_self ..) hbvn rfl kx hpb hma hlo hfu hy ⟨_,hb32⟩ (hH.get (i:=1) rfl rfl) hO197
          (fun ho=>by have:=hH.get (i:=0) rfl ho;rw[hO197.hT]at this;exact this)
          (fun ho=>Hp.newOr (es:=[_,_,_]) hH (by simp[Ent.ex,ho])) hS9 hrow9 hOn (by rw[ht2];exact hH.get (i:=3) rfl rfl)
          ⟨by rw[ht2];exact hln,by rw[ht2];exact hS.fit,hsl2,hzl,hLab2,by rw[ht2];exact fun u hu=>(hS.tx.n u hu).2⟩ hSK ⟨_,_,hH.obj (i:=2) rfl rfl,hM5'⟩
         refine ⟨s',r1,r2,?_,fun u hu=>?_,fun F q=>?_⟩
         ·rw[r3]
          show (s2.z.samples++[t2]).length≤_
          rw[List.length_append,hsmp];simp
         ·rw[r3]at hu
          rcases List.mem_append.1 hu with hu|hu
          ·exact hTx u (by rw[← hsmp];exact hu)
          ·rw[List.mem_singleton.1 hu];exact hTx2
         ·have hG:Grows s2.z s'.z:=by rw[r3];exact ⟨List.prefix_rfl,List.prefix_rfl,List.prefix_rfl⟩
          have e1:=sum_snoc (F:=F) (n:=n) (z:=s2.z) (z':=s'.z) (t:=t2) (v:=t.values) hM8.samN hG (by rw[r3,ht2]) hln hS.fit q
          have e2:Go.Fw.smK s'.z t2=Go.Fw.smK x t:=(smK_grows hG hM8.wz.tab fun k hk=>(hzl k hk).2).trans hsm
          rw[e2,txL_grow h.samN hS8.gz hsmp]at e1
          exact e1
    ·have hnoS:mget s2.kS kk=none:=by
      cases hc:mget s2.kS kk with
      |none=>rfl
      |some v=>rw[hc]at h146;cases h146
     intro v8 hH8 hf8
     have hb16:=hH8.get (i:=0) rfl rfl
     have hk8:KeepX [] v7 v8:=KeepX.of hf8
     have hM8:MG w0 x n v8 s2:=hM7.keep hk8 (by simp)
     have hS8:MStep w s v8 s2:=hS7.thn hk8 (by simp)
     clear hH8
     replace hb52:=hk8.blk hb52 (by simp)
     replace hb26:=hk8.blk hb26 (by simp)
     replace hb32:=hk8.blk hb32 (by simp)
     replace hmT:=hk8.keep _ _ hmT (by simp)
     have hmN8:=hk8.keep _ _ hmN7 (by simp)
     have hmU8:=hk8.keep _ _ hmU7 (by simp)
     have hmS8:=hk8.keep _ _ hmS (by simp)
     have hLT8:LabB tStr .string (fT t) v.heap.size [b77,b38] v8 xs mq R:=hLT7.keep hk8 (by simp)
     have hLN8:LabB tI64 (.int .i64) (fN t) v3.heap.size [b99,b44,b50] v8 xs2 mN R2:=hLN.keep hk8 (by simp)
     have hof:∀c∈[b52,b26,b32,b38,b44,b50],c∉s2.hot∧¬s2.cold c:=hoo
     have o32:=hof b32 (by simp)
     have hMh:=hM8.hotAdd (b:=b32) hb32.lt o32.2
     have hLc:=hM8.lS
     have hLc2:=hM8.oV.1
     have hsmp:s2.z.samples=s.z.samples:=hS8.smp
     have hsl9:s2.z.samples.length=s.z.samples.length:=by rw[hsmp]
     obtain ⟨sa2,ma2,lo2,fu2,hpb,⟨y,p,lq,c,rfl,hO,hy⟩,hma,hlo,hfu⟩:=hMh.prof
     have hlq:lq=s2.sams.length:=by have:=hO.sl.1;simp at this;omega
     have hpb:Blk v8 s2.pb tProf (cProf s2.z s2.ty (.slice p lq c) ma2 lo2 fu2 (.slice none 0 0) s2.per):=hpb
     have hO:Own pSam 1 y p lq c (s2.sams.map ptr):=hO
     have hy:y.on=true→Blk v8 y.b pSam y.cs∧y.b∈b32::s2.hot:=hy
     have hbvn:b32∉s2.vals:=fun hm=>o32.1 (hM8.hh _ (List.mem_append_right _ hm))
     have hcs:=mc (f:=⟨v8,0,[tProf,pSam,1000000,tI64]⟩) (hM8.kp _ _ hb0) rfl
     have hcp:=mc (f:=⟨v8,0,[tProf,pSam,1000000,tI64]⟩) hM8.bpm rfl
     rw[hpm2]at hcp
     have hc5:=mc (f:=⟨v8,0,[tProf,pSam,1000000,tI64]⟩) hb52 rfl
     have hc16:=mc (f:=⟨v8,0,[tProf,pSam,1000000,tI64]⟩) hb16 rfl
     have hyx:=fun he=>own_ex hO he
     have hHp9:Hp ⟨v8,0,[tProf,pSam,1000000,tI64]⟩ v8 (y::⟨s2.pb,tProf,cProf s2.z s2.ty (.slice p lq c) ma2 lo2 fu2 (.slice none 0 0) s2.per,true,true,none⟩::mpE s2.mS e5 k5::⟨b32,tI64,List.replicate t.values.length (.int .i64 0),true,true,none⟩::restH v8 ([s2.pb,s2.mS,b32]++rowL y)):=by
      refine Hp.listL (es:=[y,⟨s2.pb,tProf,cProf s2.z s2.ty (.slice p lq c) ma2 lo2 fu2 (.slice none 0 0) s2.per,true,true,none⟩,mpE s2.mS e5 k5,⟨b32,tI64,List.replicate t.values.length (.int .i64 0),true,true,none⟩]) ?_ ?_ ?_ ?_
      ·intro q hq
       simp only[List.mem_cons,List.not_mem_nil,or_false]at hq
       rcases hq with rfl|rfl|rfl|rfl
       ·exact has_own hO fun ho=>(hy ho).1
       ·exact has_blk hpb
       ·exact has_map hmS8
       ·exact has_blk hb32
      ·intro q hq he _
       simp only[List.mem_cons,List.not_mem_nil,or_false]at hq
       rcases hq with rfl|rfl|rfl|rfl
       ·exact ⟨Nat.zero_le _,by rw[hO.tag];decide⟩
       ·exact ⟨Nat.zero_le _,by show tProf∈_;decide⟩
       ·exact ⟨Nat.zero_le _,by show 1000000∈_;decide⟩
       ·exact ⟨Nat.zero_le _,by show tI64∈_;decide⟩
      ·simp only[List.pairwise_cons,List.mem_cons,List.not_mem_nil,or_false,forall_eq_or_imp,forall_eq,false_imp_iff,implies_true,and_true,List.Pairwise.nil]
       refine ⟨⟨fun he _=>((hy (hyx he)).1.ne hpb (by decide)).symm,fun he _=>map_neB hmS8 (hy (hyx he)).1,fun he _=>((hy (hyx he)).1.ne hb32 (by decide)).symm⟩,⟨fun _ _=>map_neB hmS8 hpb,fun _ _=>(hpb.ne hb32 (by decide)).symm⟩,fun _ _=>(map_neB hmS8 hb32).symm⟩
      ·intro q hq he
       simp only[List.mem_cons,List.not_mem_nil,or_false]at hq
       rcases hq with rfl|rfl|rfl|rfl
       ·simp[rowL,own_ex hO he]
       ·simp
       ·simp
       ·simp
     have hnc:∀c∈[s2.pb,s2.mS,b32]++rowL y,¬s2.cold c:=fun c hc hcc=>by
      have hh:=hM8.hh
      rcases List.mem_append.1 hc with hc|hc
      ·simp only[List.mem_cons,List.not_mem_nil,or_false]at hc
       rcases hc with rfl|rfl|rfl
       ·exact (hM8.cd _ hcc).2 (hh _ (by simp))
       ·exact (hM8.cd _ hcc).2 (hh _ (by simp))
       ·exact o32.2 hcc
      ·obtain ⟨ho,rfl⟩:=mem_rowL' hc
       rcases List.mem_cons.1 (hy ho).2 with e|e
       ·rw[e]at hcc;exact o32.2 hcc
       ·exact (hM8.cd _ hcc).2 e
     refine C.begin ⟨v8,0,[tProf,pSam,1000000,tI64]⟩ _ ok_refl hHp9 ?_
     refine cj_skip (K18 (sQ fun K28=>cj_drawI 9 (lts [0,1,2,3,4,5,6,7]++(8,false)::[]) [] rfl (by kernel_rfl) (by kernel_rfl) (dM [] (k:=dN [] (k:=dF [] 1 ru103 so49 (k:=dL [] ag49 hc5 1 (k:=dM [] (k:=dN [] (k:=dF [] 1 ru103 so49 (k:=dL [] ag49 hcs 1 (k:=dE (h:=fun Kd=>?_))))))))))))
     refine j_copyO (m:=t.values.length) (xs:=t.values.map (.int .i64)) 3 rfl ru49 so2 (by simp) (by simp) rfl rfl hvs0 (fun w' hH hf=>hM8.kpx (Hp.keepL (es:=[_,_,_,_]) hH hf) hnc) (by simp[List.all_eq_true,scal]) rfl ?_
     refine Kd (sb []) (K28 (sQ fun K29=>cj_drawI 6 (lts [0,1,2,3,4,5]++(6,false)::[]) [] rfl (by kernel_rfl) (by kernel_rfl) (dM [] (k:=dN [] (k:=dF [] 4 ru115 so107 (k:=dL [] ag107 hcp 4 (k:=?_)))))))
     refine dj_ld rfl rfl (sub_of [] rfl) (fun a w ha hS=>r_loadA ag154 so154 rfl rfl (hc16 w (hS.2)) ha) (dM [] (k:=dE (h:=fun Kd=>?_)))
     refine j_mapupd (k:=kk) 2 rfl ru107 keySm hM5 rfl rfl rfl (fun _ _ _=>⟨fun _ _=>trivial,trivial⟩) fun es5' ck5' hM5'=>?_
     refine Kd (.inl rfl) (K29 (CJ.t [(0,_),(5,_)] (k:=sQ fun K30=>?_)))
     refine cj_drawI 14 (lts [0,1,2,3,4,5,6,7,8,9,10,11]++(12,false)::(13,false)::(14,false)::(15,false)::(16,false)::[]) [1] rfl (by kernel_rfl) (by kernel_rfl) (dM [1] (k:=dN [1] (k:=dF [1] 0 ru115 so42 (k:=dL [1] ag42 hcp 0 (k:=dM [1] (k:=dN [1] (k:=dF [1] 0 ru115 so42 (k:=dL [1] ag42 hcp 0 (k:=dN [1] (k:=dF [1] 2 ru75 so70 (k:=dH [1] 0 ag70 (k:=dM [1] (k:=dE (h:=fun Kd=>?_))))))))))))))
     refine j_bslice1 ru70 so98 zv98 rfl rfl rfl rfl rfl fun b196=>Kd (sb [2]) (dE (h:=fun Kd=>?_))
     refine j_appO 0 rfl hO ru70 el98 rfl rfl rfl rfl rfl (by omega) rfl fun y197 p197 c197 hO197=>?_
     refine Kd (sb [1]) (dE (h:=fun Kd=>jN (k:=Kd (.inl rfl) (dE (h:=fun Kd=>jF 2 ru75 so70 (k:=Kd (.inl rfl) (dE (h:=fun Kd=>jB [_,_,_,_,_,_,_,_,_,_,_,_,_,_,_,_,_,_] (_::_::_::_::_) 1 so70 (k:=Kd (.inl rfl) (K30 (CJ.t [(5,_)] (k:=sQ fun K31=>cj_reg ?_))))))))))))
     refine jM (k:=jA (k:=K31 (cj_ret ?_)))
     first
     |exact ej_ret1 results35 rfl fun w' hH hf=>by
        have kx:=Hp.keepL (f:=⟨v8,w0.heap.size,[tI64]⟩) (w:=v8) (L:=[bv]) (es:=[_]) hH hf
        obtain ⟨r1,r2⟩:=hM8.setS hbv hmj kx (hH.get (i:=0) rfl rfl) hln
        have hin:=SKey.inj (fun j hj=>(hzl j hj).1) (fun j hj=>(hM8.wz.sm mj (List.mem_of_getElem? hmj)).2.2.2.1 j hj|>.1) (List.pairwise_map.1 hLab2.tpw) (List.pairwise_map.1 (hM8.wz.sm mj (List.mem_of_getElem? hmj)).2.2.2.2.1.tpw) (List.pairwise_map.1 hLab2.npw) (List.pairwise_map.1 (hM8.wz.sm mj (List.mem_of_getElem? hmj)).2.2.2.2.1.npw) hSK hkj
        have hsmp:s2.z.samples=s.z.samples:=hS8.smp
        refine ⟨_,r1,hS8.s.trans r2,?_,fun u hu=>?_,fun F q=>?_⟩
        ·show (s2.z.samples.set j5 _).length≤_
         rw[List.length_set,hsmp];omega
        ·obtain ⟨i,hi⟩:=List.mem_iff_getElem?.1 hu
         by_cases e:j5=i
         ·subst e
          rw[List.getElem?_set_self (List.getElem?_eq_some_iff.1 hmj).1]at hi
          cases hi
          exact (hTx mj (by rw[← hsmp];exact List.mem_of_getElem? hmj)).same rfl rfl
         ·rw[List.getElem?_set_ne e]at hi
          exact hTx u (by rw[← hsmp];exact List.mem_of_getElem? hi)
        ·have e1:=sum_set (F:=F) (n:=n) (z:=s2.z) (z':={ s2.z with samples:=s2.z.samples.set j5 { mj with values:=addV mj.values t.values } }) (i:=j5) (t:=mj) (v:=t.values) hM8.samN ⟨List.prefix_rfl,List.prefix_rfl,List.prefix_rfl⟩ hmj hln rfl q
         have e2:Go.Fw.smK s2.z mj=Go.Fw.smK x t:=(SKey.smK hin.1.symm hin.2.1.symm hin.2.2.symm).trans hsm
         rw[e2,txL_grow h.samN hS8.gz hsmp]at e1
         exact e1
     |exact ej_ret1 results35 rfl fun w' hH hf=>by
        have kx:=Hp.keepL (f:=⟨v8,0,[tProf,pSam,1000000,tI64]⟩) (w:=v8) (L:=[s2.pb,s2.mS,b32]++rowL y) (es:=[_,_,_,_]) hH hf
        have hin:∀{c T:Nat} {cs:List Value},Blk v8 c T cs→T≠tProf→T≠pSam→T≠tI64→Blk w' c T cs:=fun {c T cs} hb n1 n2 n3=>kx.blk hb fun hm=>by
         rcases List.mem_append.1 hm with hm|hm
         ·simp only[List.mem_cons,List.not_mem_nil,or_false]at hm
          rcases hm with rfl|rfl|rfl
          ·exact hb.ne hpb n1 rfl
          ·exact map_neB hmS8 hb rfl
          ·exact hb.ne hb32 n3 rfl
         ·obtain ⟨ho,rfl⟩:=mem_rowL' hm
          exact hb.ne (hy ho).1 n2 rfl
        have hinm:∀{c:Nat} {e0:Array MapEntry} {k0:Nat},c≠s2.mS→v8.heap[c]? =some (.map e0 k0)→w'.heap[c]? =some (.map e0 k0):=fun {c e0 k0} n1 hb=>kx.keep _ _ hb fun hm=>by
         rcases List.mem_append.1 hm with hm|hm
         ·simp only[List.mem_cons,List.not_mem_nil,or_false]at hm
          rcases hm with rfl|rfl|rfl
          ·exact map_neB hb hpb rfl
          ·exact n1 rfl
          ·exact map_neB hb hb32 rfl
         ·obtain ⟨ho,rfl⟩:=mem_rowL' hm
          exact map_neB hb (hy ho).1 rfl
        have hmSh:s2.mS∈s2.hot:=hM8.hh _ (by simp)
        have q38:b38≠s2.mS:=fun e=>(hof b38 (by simp)).1 (e▸hmSh)
        have q44:b44≠s2.mS:=fun e=>(hof b44 (by simp)).1 (e▸hmSh)
        have q50:b50≠s2.mS:=fun e=>(hof b50 (by simp)).1 (e▸hmSh)
        have hR:∀c∈R++R2,v.heap.size≤c:=fun c hc=>by
         rcases List.mem_append.1 hc with hc|hc
         ·exact (hLT8.row c hc).1
         ·exact Nat.le_trans hkx3.size (hLN8.row c hc).1
        have hRl:∀c∈R++R2,c<v8.heap.size:=fun c hc=>by
         rcases List.mem_append.1 hc with hc|hc
         ·exact (hLT8.row c hc).2.1
         ·exact (hLN8.row c hc).2.1
        have hRL:∀c∈R++R2,c∉[s2.pb,s2.mS,b32]++rowL y∧c∉s2.hot:=fun c hc=>by
         have h1:=hR c hc
         have hh:c∉s2.hot:=(hMv.out h1).1
         refine ⟨fun hm=>?_,hh⟩
         rcases List.mem_append.1 hm with hm|hm
         ·simp only[List.mem_cons,List.not_mem_nil,or_false]at hm
          rcases hm with rfl|rfl|rfl
          ·exact hh (hM8.hh _ (by simp))
          ·exact hh hmSh
          ·omega
         ·obtain ⟨ho,rfl⟩:=mem_rowL' hm
          rcases List.mem_cons.1 (hy ho).2 with e|e
          ·omega
          ·exact hh e
        have yb52:=hin hb52 (by decide) (by decide) (by decide)
        have yb26:=hin hb26 (by decide) (by decide) (by decide)
        have ymT:=hinm q38 hmT
        have ymN:=hinm q44 hmN8
        have ymU:=hinm q50 hmU8
        have hlt9:v8.heap.size≤w'.heap.size:=kx.size
        have yLT:LabB tStr .string (fT t) v.heap.size [b77,b38] w' xs mq R:=⟨fun k z hk=>⟨(hLT8.lab k z hk).1,(hLT8.lab k z hk).2.keep (fun c o hc ho=>kx.keep c o ho (hRL c (List.mem_append_left _ hc)).1) fun _ hc=>hc⟩,hLT8.inn,fun c hc=>⟨(hLT8.row c hc).1,Nat.lt_of_lt_of_le (hLT8.row c hc).2.1 hlt9,(hLT8.row c hc).2.2⟩⟩
        have yLN:LabB tI64 (.int .i64) (fN t) v3.heap.size [b99,b44,b50] w' xs2 mN R2:=⟨fun k z hk=>⟨(hLN8.lab k z hk).1,(hLN8.lab k z hk).2.keep (fun c o hc ho=>kx.keep c o ho (hRL c (List.mem_append_right _ hc)).1) fun _ hc=>hc⟩,hLN8.inn,fun c hc=>⟨(hLN8.row c hc).1,Nat.lt_of_lt_of_le (hLN8.row c hc).2.1 hlt9,(hLN8.row c hc).2.2⟩⟩
        obtain ⟨N,hN⟩:∃N:Nat→Prop,N=fun c=>c=b52∨c=b26∨(c=b38∨c∈R)∨(c=b44∨c∈R2)∨c=b50:=⟨_,rfl⟩
        have hOn:On N w' (SamC s2.locs b52 b32 n t2):=by
         rw[← hln]
         intro w2 k2
         subst hN
         refine ⟨_,_,_,_,_,_,k2 b52 _ (.inl rfl) yb52,?_,?_,?_,?_,rfl,rfl⟩
         ·rw[hsk2,List.map_map]
          have:=OS.full (sz:=1) (l:=t.stack.length) (k2 b26 _ (.inr (.inl rfl)) yb26) (by rw[List.length_map,hjl7];omega)
          exact this
         ·rw[ht2];exact yLT.on ymT hMT hNT w2 fun c o hc=>k2 c o (.inr (.inr (.inl hc)))
         ·rw[ht2];exact yLN.on ymN hMN hNN w2 fun c o hc=>k2 c o (.inr (.inr (.inr (.inl hc))))
         ·exact .inr ⟨b50,mU,eU,cU,rfl,k2 b50 _ (.inr (.inr (.inr (.inr rfl)))) ymU,hMU,hUz⟩
        have hrow9:∀c,N c→w.heap.size≤c∧c<w'.heap.size∧c∉rowL y197∧c∉b32::s2.hot:=fun c hc=>by
         have hyr:∀{c T:Nat} {cs:List Value},Blk w' c T cs→T≠pSam→c∉rowL y197:=fun hb n1 hm=>by
          obtain ⟨ho,rfl⟩:=mem_rowL' hm
          have:=hH.get (i:=0) rfl ho
          rw[hO197.hT]at this
          exact hb.ne this n1 rfl
         have hyrm:∀{c:Nat} {e0:Array MapEntry} {k0:Nat},w'.heap[c]? =some (.map e0 k0)→c∉rowL y197:=fun hb hm=>by
          obtain ⟨ho,rfl⟩:=mem_rowL' hm
          have:=hH.get (i:=0) rfl ho
          rw[hO197.hT]at this
          exact map_neB hb this rfl
         have hvw:w.heap.size≤v.heap.size:=hSv.kx.size
         have hb32l:b32<v.heap.size:=hb32v
         have hRr:∀{T:Nat} {cs:List Value},c∈R++R2→w.heap.size≤c∧c<w'.heap.size∧c∉rowL y197∧c∉b32::s2.hot:=fun hcR=>by
          have h1:=hR c hcR
          refine ⟨Nat.le_trans hvw h1,Nat.lt_of_lt_of_le (hRl c hcR) hlt9,fun hm=>?_,fun hm=>?_⟩
          ·obtain ⟨ho,rfl⟩:=mem_rowL' hm
           rcases Hp.newOr (es:=[_,_,_]) hH (by simp[Ent.ex,ho]) with q|q
           ·exact (hRL _ hcR).1 q
           ·have:=hRl _ hcR;omega
          ·rcases List.mem_cons.1 hm with e|e
           ·omega
           ·exact (hRL c hcR).2 e
         have hoc:∀{c:Nat},c∈[b52,b26,b32,b38,b44,b50]→c≠b32→c∉b32::s2.hot:=fun h1 h2 hm=>by
          rcases List.mem_cons.1 hm with e|e
          ·exact h2 e
          ·exact (hof _ h1).1 e
         subst hN
         rcases hc with rfl|rfl|(rfl|hc)|(rfl|hc)|rfl
         ·exact ⟨n52,yb52.lt,hyr yb52 (by decide),hoc (by simp) fun e=>hb52.ne hb32 (by decide) e⟩
         ·exact ⟨n26,yb26.lt,hyr yb26 (by decide),hoc (by simp) fun e=>hb26.ne hb32 (by decide) e⟩
         ·exact ⟨n38,(Array.getElem?_eq_some_iff.1 ymT).1,hyrm ymT,hoc (by simp) d38.2.2⟩
         ·exact hRr (T:=0) (cs:=[]) (List.mem_append_left _ hc)
         ·exact ⟨n44,(Array.getElem?_eq_some_iff.1 ymN).1,hyrm ymN,hoc (by simp) d44.2.2⟩
         ·exact hRr (T:=0) (cs:=[]) (List.mem_append_right _ hc)
         ·exact ⟨n50,(Array.getElem?_eq_some_iff.1 ymU).1,hyrm ymU,hoc (by simp) d50.2.2⟩
        have hS9:SStep w s v8 { s2 with hot:=b32::s2.hot }:={ hS8.s with
         hs:=fun c hc=>(List.mem_cons.1 hc).elim (fun e=>.inr (e▸n32)) (hS8.hs c)
         hi:=fun c hc=>List.mem_cons_of_mem _ (hS8.hi c hc) }
        obtain ⟨s',r1,r2,r3⟩:=hMh.newS (y:=y) (y':=y197) (p:=p) (c:=c) (l:=lq) (bn:=b52) (bv:=b32) (m2:=t2) (N:=N) (kk:=kk) (List.mem_cons_self ..) hbvn rfl kx hpb hma hlo hfu hy ⟨_,hb32⟩ (hH.get (i:=1) rfl rfl) hO197
         (fun ho=>by have:=hH.get (i:=0) rfl ho;rw[hO197.hT]at this;exact this)
         (fun ho=>Hp.newOr (es:=[_,_,_]) hH (by simp[Ent.ex,ho])) hS9 hrow9 hOn (by rw[ht2];exact hH.get (i:=3) rfl rfl)
         ⟨by rw[ht2];exact hln,by rw[ht2];exact hS.fit,hsl2,hzl,hLab2,by rw[ht2];exact fun u hu=>(hS.tx.n u hu).2⟩ hSK ⟨_,_,hH.obj (i:=2) rfl rfl,hM5'⟩
        refine ⟨s',r1,r2,?_,fun u hu=>?_,fun F q=>?_⟩
        ·rw[r3]
         show (s2.z.samples++[t2]).length≤_
         rw[List.length_append,hsmp];simp
        ·rw[r3]at hu
         rcases List.mem_append.1 hu with hu|hu
         ·exact hTx u (by rw[← hsmp];exact hu)
         ·rw[List.mem_singleton.1 hu];exact hTx2
        ·have hG:Grows s2.z s'.z:=by rw[r3];exact ⟨List.prefix_rfl,List.prefix_rfl,List.prefix_rfl⟩
         have e1:=sum_snoc (F:=F) (n:=n) (z:=s2.z) (z':=s'.z) (t:=t2) (v:=t.values) hM8.samN hG (by rw[r3,ht2]) hln hS.fit q
         have e2:Go.Fw.smK s'.z t2=Go.Fw.smK x t:=(smK_grows hG hM8.wz.tab fun k hk=>(hzl k hk).2).trans hsm
         rw[e2,txL_grow h.samN hS8.gz hsmp]at e1
         exact e1
   ·refine jX (k:=K15 (sQ fun K32=>?_))
    refine cj_if_t rfl (cj_skip (K32 (cj_block (sQ fun K33=>cj_reg (j_valw rfl (fun a w' ha hH hf=>r_entryM 0 rfl (fun w' hH hf=>MapAt.keep0 hA2 (hkP w' [_,_,_] hH hf)) rfl hxe hM2.born ha hH hf) (jX (k:=?_)))))))
    obtain ⟨⟨qs,qv⟩,hq,hqk,hqv⟩:=menc_entry hM2 hxe
    obtain ⟨hqn,hqo⟩:=hg2 qs qv (mget_of_mem hM2.keys hq)
    obtain ⟨tq,htq,htk,hte⟩:=find_mem hqn
    replace hte:fN t qs=tq.list:=hte
    have htl:=hS.lab.nl tq htq
    rw[hte]at hqo
    have hqo2:=hqo
    obtain ⟨pq,lq,dq,rfl,hlq, -⟩:=hqo2.openF
    simp only[List.length_map,Nat.mul_one]at hlq
    subst hlq
    obtain ⟨up,uc,hue⟩:=hg3 qs
    refine j_eqv hqk ?_
    refine jX (k:=?_)
    refine j_eqv hqv ?_
    refine jA (k:=jA (k:=K33 (sQ fun K34=>cj_reg (jM (k:=jN (k:=jF 4 ru103 so99 (k:=jL ag99 hc1 4 (k:=jM (k:=?_)))))))))
    refine j_valw rfl (fun a w' ha hH hf=>(r_mlookM (k:=qs) ru99 keyStr hM3 zv29 rfl rfl ha (MapAt.keep0 hA3 (hkP w' [_,_,_] hH hf))).trans (by rw[hue])) (jA (k:=K34 (CJ.t [(0,_),(1,_),(5,_),(11,_),(12,_),(13,_),(99,_)] (k:=sQ fun K35=>cj_reg (jM (k:=jE ru49 (k:=?_)))))))
    refine j_make (l:=tq.list.length) (c:=tq.list.length) ru49 el2 rfl rfl rfl (Nat.le_refl _) (by omega) rfl fun b113 cs113 hcs113 _=>?_
    refine jA (k:=K35 (sQ fun K36=>cj_reg (jM (k:=jE ru29 (k:=?_)))))
    refine j_make (l:=0) (c:=0) ru29 el9 rfl rfl rfl (Nat.le_refl _) (by omega) rfl fun b116 cs116 hcs116 _=>?_
    refine jA (k:=K36 (sQ fun K37=>cj_reg (jM (k:=jM (k:=?_)))))
    refine j_copyO (m:=tq.list.length) (xs:=tq.list.map (.int .i64)) 1 rfl ru49 so2 (by simp) (by rw[hcs113,Nat.mul_one]) rfl rfl hqo (fun w' hH hf=>hkP w' [_,_,_,_,_] hH hf) (by simp[List.all_eq_true,scal]) rfl ?_
    refine K37 (CJ.t [(0,_),(1,_),(5,_),(11,_),(13,_),(14,_),(15,_),(99,_)] (k:=sQ fun K38=>cj_reg (jM (k:=jM (k:=?_)))))
    refine j_copy0 0 rfl ru29 so9 rfl rfl rfl ?_
    refine K38 (sQ fun K39=>cj_reg (jM (k:=jN (k:=jF 3 ru103 so37 (k:=jL ag37 hc5 3 (k:=jM (k:=jM (k:=?_))))))))
    refine j_mapupd (k:=qs) 3 rfl ru37 keyStr hMN rfl rfl rfl (fun _ _ _=>⟨fun _ _=>trivial,trivial⟩) fun esN' ckN' hMN'=>?_
    refine K39 (cj_reg (jM (k:=jN (k:=jF 4 ru103 so99 (k:=jL ag99 hc5 4 (k:=jM (k:=jM (k:=?_))))))))
    refine j_mapupd (k:=qs) 4 rfl ru99 keyStr hMU rfl rfl rfl (fun _ _ _=>⟨fun _ _=>trivial,trivial⟩) fun esU' ckU' hMU'=>?_
    refine j_nil (ej_blk (ej_then ?_))
    have hlt:seen2.length<es2.length:=by
     have:=(hV.push hxe hns).len hM2.born
     simp at this;omega
    exact fun w' hH hf=>by
     have kx:=Hp.keepL (f:=⟨u3,0,[1000000,1000001]⟩) (w:=u3) (L:=[b99,b44,b50]) (es:=[_,_,_,_,_]) hH hf
     exact hKL2 (seen2++[xe.born],xs2++[xe],(mset mN qs (.slice (some ⟨b113,0,none⟩) tq.list.length tq.list.length),esN',ckN'),(mset mU qs (.slice (some ⟨b116,0,none⟩) 0 0),esU',ckU'),b113::R2) _ w' ⟨hV.push hxe hns,hH.obj (i:=2) rfl rfl,⟨hH.obj (i:=3) rfl rfl,hMN'⟩,⟨hH.obj (i:=4) rfl rfl,hMU',fun k z hz=>by
       rw[mget_mset]at hz
       split at hz
       ·cases hz;exact ⟨_,_,rfl⟩
       ·exact hUz k z hz⟩,hkx.thenNew (m:=[b99]) kx (by simpa using n99),hLB.step kx hqk hte htl.1 (hH.get (i:=1) rfl rfl) (hH.fresh' (i:=1) rfl rfl) hkx.size (fun c hc=>by
      simp only[List.mem_cons,List.not_mem_nil,or_false]at hc
      rcases hc with rfl|rfl|rfl
      ·exact (Array.getElem?_eq_some_iff.1 hit).1
      ·exact (Array.getElem?_eq_some_iff.1 hmN).1
      ·exact (Array.getElem?_eq_some_iff.1 hmU).1)⟩ (by simp only[List.length_append,List.length_singleton];omega) ⟨rfl,rfl,rfl,rfl,trivial⟩
  ·refine jX (k:=K11 (CJ.t [(0,_),(1,_),(5,_),(77,_),(79,_)] (k:=sQ fun K40=>?_)))
   refine cj_if_t rfl (cj_skip (K40 (cj_block (sQ fun K41=>cj_reg (j_valw rfl (fun a w' ha hH hf=>r_entryM 0 rfl (fun w' hH hf=>MapAt.keep0 hA1 (hkP w' [_,_] hH hf)) rfl hxe hM1.born ha hH hf) (jX (k:=?_)))))))
   obtain ⟨⟨qs,qv⟩,hq,hqk,hqv⟩:=menc_entry hM1 hxe
   obtain ⟨hqn,hqo⟩:=hg1 qs qv (mget_of_mem hM1.keys hq)
   obtain ⟨tq,htq,htk,hte⟩:=find_mem hqn
   replace hte:fT t qs=tq.list:=hte
   have htl:=hS.lab.tl tq htq
   rw[hte]at hqo
   have hqo2:=hqo
   obtain ⟨pq,lq,dq,rfl,hlq, -⟩:=hqo2.openF
   simp only[List.length_map,Nat.mul_one]at hlq
   subst hlq
   refine j_eqv hqk ?_
   refine jX (k:=?_)
   refine j_eqv hqv ?_
   refine jA (k:=jA (k:=K41 (sQ fun K42=>cj_reg (jM (k:=jE ru29 (k:=?_))))))
   refine j_make (l:=tq.list.length) (c:=tq.list.length) ru29 el9 rfl rfl rfl (Nat.le_refl _) (by omega) rfl fun b85 cs85 hcs85 _=>?_
   refine jA (k:=K42 (sQ fun K43=>cj_reg (jM (k:=jM (k:=?_)))))
   refine j_copyO (m:=tq.list.length) (xs:=tq.list.map .string) 0 rfl ru29 so9 (by simp) (by rw[hcs85,Nat.mul_one]) rfl rfl hqo (fun w' hH hf=>hkP w' [_,_,_] hH hf) (by simp[List.all_eq_true,scal]) rfl ?_
   refine K43 (CJ.t [(0,_),(1,_),(5,_),(8,_),(10,_),(77,_)] (k:=cj_reg (jM (k:=jN (k:=jF 2 ru103 so99 (k:=jL ag99 hc5 2 (k:=jM (k:=jM (k:=?_)))))))))
   refine j_mapupd (k:=qs) 2 rfl ru99 keyStr hMq rfl rfl rfl (fun _ _ _=>⟨fun _ _=>trivial,trivial⟩) fun es' ck' hM'=>?_
   refine j_nil (ej_blk (ej_then ?_))
   have hlt:seen.length<es1.length:=by
    have:=(hV.push hxe hns).len hM1.born
    simp at this;omega
   exact fun w' hH hf=>by
    have kx:=Hp.keepL (f:=⟨u2,0,[1000000,1000001]⟩) (w:=u2) (L:=[b77,b38]) (es:=[_,_,_]) hH hf
    exact hKL (seen++[xe.born],xs++[xe],mset mq qs (.slice (some ⟨b85,0,none⟩) tq.list.length tq.list.length),es',ck',b85::R) _ w' ⟨hV.push hxe hns,hH.obj (i:=1) rfl rfl,hH.obj (i:=2) rfl rfl,hM',hkx.thenNew (m:=[b77]) kx (by simpa using n77),hLB.step kx hqk hte htl.1 (hH.get (i:=0) rfl rfl) (hH.fresh' (i:=0) rfl rfl) hkx.size (fun c hc=>by
     simp only[List.mem_cons,List.not_mem_nil,or_false]at hc
     rcases hc with rfl|rfl
     ·exact (Array.getElem?_eq_some_iff.1 hit).1
     ·exact (Array.getElem?_eq_some_iff.1 hm).1)⟩ (by simp only[List.length_append,List.length_singleton];omega) ⟨rfl,rfl,rfl,rfl,trivial⟩
theorem evt_c (w:World) (a b:Nat) (t:PType) (h1:Blk w a tVT (cVT t)) (h2:Blk w b tVT (cVT t)):Calls Tryz.prog 68 #[ptr a,ptr b] w (Ret fun v w'=>v=.bool true∧Fr 0 [] w w'):=by
 have hc1:=mc (f:=⟨w,0,[]⟩) h1 rfl
 have hc2:=mc (f:=⟨w,0,[]⟩) h2 rfl
 refine startJ (args:=[_,_]) [(0,_),(1,_)] 0 [] [] func68 rfl ntmps68 rfl rfl .nil ?_
 refine sQ fun K1=>cj_reg (jA (k:=K1 (sQ fun K2=>?_)))
 refine cj_drawI 21 (lts [0,1,2,3,4,5,6,7,8,9,10,11,12,13,14,15,16,17,18,19,20]) [] rfl (by kernel_rfl) (by kernel_rfl) (dM [] (k:=dN [] (k:=dF [] 0 ru122 so9 (k:=dL [] ag9 hc1 0 (k:=dM [] (k:=dN [] (k:=dF [] 0 ru122 so9 (k:=dL [] ag9 hc2 0 (k:=?_)))))))))
 refine dj_val rfl rfl (sub_of [] rfl) (fun _ _ h=>r_seql rfl rfl h) ?_
 refine dj_eqv (u:=.bool true) (by simp) ?_
 refine dM [] (k:=?_)
 refine dj_gt rfl rfl rfl rfl (sub_of [] rfl) (fun a w ha hS=>r_move rfl ha) (dj_gt rfl rfl rfl rfl (sub_of [] rfl) (fun a w ha hS=>r_nil rfl ha) (dj_gt rfl rfl rfl rfl (sub_of [] rfl) (fun a w ha hS=>r_fl (q:=1) (ft:=9) ru122 rfl so9 rfl ha) (dj_gt rfl rfl rfl rfl (sub_of [] rfl) (fun a w ha hS=>r_load ag9 rfl (hc1 w (hS.2) 1 _ rfl) ha) (dj_gt rfl rfl rfl rfl (sub_of [] rfl) (fun a w ha hS=>r_move rfl ha) (dj_gt rfl rfl rfl rfl (sub_of [] rfl) (fun a w ha hS=>r_nil rfl ha) (dj_gt rfl rfl rfl rfl (sub_of [] rfl) (fun a w ha hS=>r_fl (q:=1) (ft:=9) ru122 rfl so9 rfl ha) (dj_gt rfl rfl rfl rfl (sub_of [] rfl) (fun a w ha hS=>r_load ag9 rfl (hc2 w (hS.2) 1 _ rfl) ha) (dj_gt rfl rfl rfl rfl (sub_of [] rfl) (fun a w ha hS=>r_seql rfl rfl ha) ?_))))))))
 refine dj_eqv (u:=.bool true) (by simp) ?_
 refine dj_val rfl rfl (sub_of [] rfl) (fun _ _ h=>r_pick_t rfl rfl h) (dA [] (k:=K2 (CJ.t [(4,_)] (k:=cj_ret ?_))))
 exact ej_ret1 results68 rfl fun w' hH hf=>⟨rfl,hf⟩
set_option maxHeartbeats 1000000 in
theorem compat_c (w:World) (x y:PProf) (g g':G) (hG:OfS w x g) (hG':OfS w y g') (ht:x.types=y.types) (hp:x.per=y.per) (hn:x.types.length≤1000):
  Calls Tryz.prog 51 #[ptr g.pb,ptr g'.pb] w (Ret fun v w'=>v=.nilIface∧Fr 0 [] w w'):=by
 obtain ⟨tyv,sav,mav,lov,fuv,cov,hpb,hty, -⟩:=hG.prof
 obtain ⟨tyv',sav',mav',lov',fuv',cov',hpb',hty', -⟩:=hG'.prof
 obtain ⟨p1,l1,c1,rfl,hl1, -,hx1⟩:=hty.openF
 obtain ⟨p2,l2,c2,rfl,hl2, -,hx2⟩:=hty'.openF
 obtain rfl:l1=x.types.length:=by have:=hG.types.1;simp at hl1;omega
 obtain rfl:l2=x.types.length:=by have:=hG'.types.1;rw[← ht]at this;simp at hl2;omega
 have hc0:=mc (f:=⟨w,0,[]⟩) hpb rfl
 have hc1:=mc (f:=⟨w,0,[]⟩) hpb' rfl
 refine startJ (args:=[_,_]) [(0,_),(1,_)] 0 [] [] func51 rfl ntmps51 rfl rfl .nil ?_
 refine sQ fun K1=>cj_reg (jA (k:=K1 ?_))
 refine cj_seqF fun K2 hK2=>sQ fun K3=>cj_drawI 10 (lts [0,1,2,3,4,5,6,7]++(8,false)::lts [9]) [] rfl (by kernel_rfl) (by kernel_rfl) (dM [] (k:=dN [] (k:=dF [] 11 ru75 so67 (k:=dL [] ag67 hc0 11 (k:=dM [] (k:=dN [] (k:=dF [] 11 ru75 so67 (k:=dL [] ag67 hc1 11 (k:=dE (h:=fun Kd=>?_))))))))))
 refine j_callQ (φ:=fun v=>v=.bool true) call68 rfl rfl (fun w' hH hf=>evt_c w' g.per g'.per x.per (fr_row hf rfl _ _ hG.per) (by rw[hp];exact fr_row hf rfl _ _ hG'.per)) fun v hv=>?_
 subst hv
 refine Kd (sb []) (dj_val rfl rfl (sub_of [] rfl) (fun _ _ h=>r_not rfl h) (K3 (CJ.t [(0,_),(1,_),(15,_)] (k:=?_))))
 refine cj_if_f rfl (cj_skip (ej_then (hK2 _ _ _ (sQ fun K4=>sQ fun K5=>cj_drawI 11 (lts [0,1,2,3,4,5,6,7,8,9,10]) [] rfl (by kernel_rfl) (by kernel_rfl) (dM [] (k:=dN [] (k:=dF [] 0 ru75 so69 (k:=dL [] ag69 hc0 0 (k:=?_)))))))))
 refine dj_val rfl rfl (sub_of [] rfl) (fun _ _ h=>r_len ru69 rfl h) (dM [] (k:=dN [] (k:=dF [] 0 ru75 so69 (k:=dL [] ag69 hc1 0 (k:=?_)))))
 refine dj_val rfl rfl (sub_of [] rfl) (fun _ _ h=>r_len ru69 rfl h) (dj_val rfl rfl (sub_of [] rfl) (fun _ _ h=>r_neq rfl rfl h) ?_)
 refine dj_eqv (u:=.bool false) (by simp) ?_
 refine K5 (cj_if_f rfl (cj_skip (K4 (sQ fun K6=>sQ fun K7=>cj_reg (jM (k:=jN (k:=jF 0 ru75 so69 (k:=jL ag69 hc0 0 (k:=jE ru69 (k:=jM (k:=K7 (CJ.t [(0,_),(1,_),(33,_),(34,_)] (k:=?_)))))))))))))
 refine cj_block ?_
 refine cj_loop (σ:=Nat) (fun s=>[(0,ptr g.pb),(1,ptr g'.pb),(33,.int .i64 (x.types.length:Nat)),(34,.int .i64 (s:Nat))]) (fun _=>[]) (fun s _=>s≤x.types.length) (fun s=>x.types.length - s) 0 sR (fun w' hH hf=>⟨hH,Nat.zero_le _⟩) ?_
 rintro k2 u2 hk2 hf2 hH2 KL2 hKL2
 try dsimp only at hk2
 refine C.begin _ _ hf2 hH2 ?_
 try dsimp only
 refine sQ fun K8=>cj_reg (jS (k:=K8 (sQ fun K9=>?_)))
 refine cj_dec rfl (fun h35=>?_) (fun h35=>?_)
 ·have hk':k2<x.types.length:=by omega
  have hk2':k2<y.types.length:=by rw[← ht];exact hk'
  obtain ⟨bq,rfl,hsq⟩:=hx1 (by omega)
  obtain ⟨br,rfl,hsr⟩:=hx2 (by omega)
  have hkb:k2<g.types.length:=by rw[hG.types.1];exact hk'
  have hkb':k2<g'.types.length:=by rw[hG'.types.1];exact hk2'
  have hcell:=osCell (k:=k2) (v:=ptr g.types[k2]) (Fr.refl 0 [] w) rfl hsq (by simp[hkb])
  have hcell':=osCell (k:=k2) (v:=ptr g'.types[k2]) (Fr.refl 0 [] w) rfl hsr (by simp[hkb'])
  have hb1:=hG.types.2 _ _ _ (List.getElem?_eq_getElem hkb) (List.getElem?_eq_getElem hk')
  have hb2:=hG'.types.2 _ _ _ (List.getElem?_eq_getElem hkb') (List.getElem?_eq_getElem hk2')
  have hte:y.types[k2]=x.types[k2]:=by simp only[ht]
  rw[hte]at hb2
  refine cj_skip (K9 (sQ fun K10=>cj_block (sQ fun K11=>cj_reg (jM (k:=jA (k:=K11 (sQ fun K12=>?_)))))))
  refine cj_drawI 16 (lts [0,1,2,3,4,5,6,7,8,9,10,11,12,13]++(14,false)::lts [15]) [] rfl (by kernel_rfl) (by kernel_rfl) (dM [] (k:=dN [] (k:=dF [] 0 ru75 so69 (k:=dL [] ag69 hc0 0 (k:=dM [] (k:=?_))))))
  refine dj_val rfl rfl (sub_of [] rfl) (fun _ _ h=>r_idx ru69 so67 rfl rfl (by omega) h) (dL [] ag67 hcell 0 (k:=dM [] (k:=dN [] (k:=dF [] 0 ru75 so69 (k:=dL [] ag69 hc1 0 (k:=dM [] (k:=?_)))))))
  refine dj_val rfl rfl (sub_of [] rfl) (fun _ _ h=>r_idx ru69 so67 rfl rfl (by omega) h) (dj_ld rfl rfl (sub_of [] rfl) (fun a w ha hS=>r_load ag67 rfl (hcell' w (hS.2) 0 _ rfl) ha) (dE (h:=fun Kd=>?_)))
  refine j_callQ (φ:=fun v=>v=.bool true) call68 rfl rfl (fun w' hH hf=>evt_c w' _ _ x.types[k2] (fr_row hf rfl _ _ hb1) (fr_row hf rfl _ _ hb2)) fun v hv=>?_
  subst hv
  refine Kd (sb []) (dj_val rfl rfl (sub_of [] rfl) (fun _ _ h=>r_not rfl h) (K12 (CJ.t [(0,_),(1,_),(33,_),(34,_),(52,_)] (k:=?_))))
  refine cj_if_f rfl (cj_skip (K10 (cj_reg (jI (k:=jM (k:=j_nil (ej_then ?_)))))))
  exact fun w' hH hf=>hKL2 (k2+1) _ w' hk' hf hH (by omega) sR
 ·clear hKL2
  refine cj_exit (K6 (sQ fun K13=>cj_reg (jA (k:=K13 (cj_ret ?_)))))
  exact ej_ret1 results51 rfl fun w' hH hf=>⟨rfl,hf⟩
structure SrcM (w:World) (n:Nat) (ty:List PType) (per:PType) (x:PProf) (g:G):Prop where
 t:SrcT w x g
 l:SrcL x
 s:∀t∈x.samples,SrcS x n t
 ty:x.types=ty
 pe:x.per=per
 co:x.comments=[]
 df:x.deflt=⟨#[]⟩
 ns:x.samples.length≤10000
 wr:IntKind.i64.wrap x.time=x.time∧IntKind.i64.wrap x.dur=x.dur∧IntKind.i64.wrap x.period=x.period
theorem SrcM.keep {ty:List PType} {per:PType} {x:PProf} {g:G} (h:SrcM w n ty per x g) (k:Keep w w'):SrcM w' n ty per x g:=
 { h with t:={ h.t with of:=h.t.of.keep k } }
abbrev pProf:Nat:=42
abbrev hdP (ty:List PType) (per:PType) (dr kp:ByteArray) (ti du pe:Int):PProf:=⟨ty,⟨#[]⟩,[],[],[],[],[],dr,kp,ti,du,pe,per⟩
theorem wrw (z:Int):IntKind.i64.wrap (IntKind.i64.wrap z)=IntKind.i64.wrap z:=by
 have:=wr_add z 0
 simpa using this
set_option maxHeartbeats 8000000 in
theorem heads_c (w:World) (v:Value) (n:Nat) (ty:List PType) (per:PType) (xs:List PProf) (gs:List G) (hv:OS pProf 1 w v (gs.map fun g=>ptr g.pb)) (hl:xs.length=gs.length) (hpos:0<gs.length) (hlen:gs.length≤1000) (hx:∀(i:Nat) (x:PProf) (g:G),xs[i]? =some x→gs[i]? =some g→SrcM w n ty per x g) (hty:ty.length≤1000):
  Calls Tryz.prog 32 #[v] w (Ret fun r w'=>(∃(pb rb:Nat) (g0:G) (dr kp:ByteArray) (ti du pe:Int),r=.tuple #[ptr pb,.nilIface]∧gs[0]? =some g0∧w.heap.size≤pb∧w.heap.size≤rb∧Blk w' pb tProf (cProf (hdP ty per dr kp ti du pe) (.slice (some ⟨rb,0,none⟩) g0.types.length g0.types.length) (.slice none 0 0) (.slice none 0 0) (.slice none 0 0) (.slice none 0 0) (.slice none 0 0) g0.per)∧
   Blk w' rb pVT (g0.types.map ptr)∧IntKind.i64.wrap ti=ti∧IntKind.i64.wrap du=du∧IntKind.i64.wrap pe=pe)∧Fr 0 [] w w'):=by
 obtain ⟨p,l,c,rfl,hll,hlc,hxv⟩:=hv.openF
 simp only[List.length_map,Nat.mul_one]at hll
 subst hll
 obtain ⟨bs,rfl,hcs⟩:=hxv hpos
 obtain ⟨g0,hg0⟩:∃g0,gs[0]? =some g0:=⟨_,List.getElem?_eq_getElem hpos⟩
 obtain ⟨x0,hx0⟩:∃x0,xs[0]? =some x0:=⟨_,List.getElem?_eq_getElem (by omega)⟩
 have hS0:=hx 0 x0 g0 hx0 hg0
 obtain ⟨tyv,sav,mav,lov,fuv,cov,hpb0,hty0, -⟩:=hS0.t.of.prof
 have hty0':=hty0
 obtain ⟨p1,l1,c1,rfl,hl1, -, -⟩:=hty0.openF
 simp only[List.length_map,Nat.mul_one]at hl1
 subst hl1
 have hn0:g0.types.length=ty.length:=by rw[hS0.t.of.types.1,hS0.ty]
 have hc0:=mc (f:=⟨w,0,[]⟩) hpb0 rfl
 have hcell:∀(k:Nat) (hk:k<gs.length) (w':World),Fm.ok ⟨w,0,[]⟩ w'→w'.cell? ⟨bs,0+k*1,none⟩=some (ptr (gs[k]).pb):=fun k hk w' hf=>by
  have:=hcs ⟨w,0,[]⟩ rfl rfl w' hf k (ptr (gs[k]).pb) (by rw[List.getElem?_map,List.getElem?_eq_getElem hk];rfl)
  simpa using this
 have hcell0:∀(w':World),Fm.ok ⟨w,0,[]⟩ w'→w'.cell? ⟨bs,0+0*1,none⟩=some (ptr g0.pb):=fun w' hf=>by
  have h1:=hcell 0 hpos w' hf
  rw[List.getElem?_eq_getElem hpos]at hg0
  rw[Option.some.inj hg0]at h1
  exact h1
 refine startJ (args:=[_]) [(0,_)] 0 [] [] func32 rfl ntmps32 rfl rfl .nil ?_
 refine sQ fun K1=>cj_reg (jA (k:=jA (k:=K1 ?_)))
 refine cj_seqF fun K2 hK2=>sQ fun K3=>cj_reg (jM (k:=?_))
 refine j_val rfl (fun _ _ h=>r_slcut (i:=1) ru41 so42 rfl rfl (by omega) h) ?_
 have hcut:∀(k:Nat),k+1<gs.length→cut 0 c 1 1=1:=fun k hk=>by unfold cut;rw[if_neg (by omega)]
 refine jE ru41 (k:=jM (k:=K3 (cj_block ?_)))
 refine cj_loop (σ:=Nat) (fun k=>[(0,.slice (some ⟨bs,0,none⟩) gs.length c),(20,.slice (some ⟨bs,cut 0 c 1 1,none⟩) (gs.length - 1) (c - 1)),(21,.int .i64 ((gs.length - 1:Nat):Int)),(22,.int .i64 (k:Nat))]) (fun _=>[]) (fun k _=>k≤gs.length - 1) (fun k=>gs.length - 1 - k) 0 sR (fun w' hH hf=>⟨.nil,Nat.zero_le _⟩) ?_
 intro k w1 hk hf1 hH1 KL hKL
 refine C.begin _ _ hf1 hH1 ?_
 refine sQ fun K4=>cj_reg (jS (k:=K4 (sQ fun K5=>?_)))
 refine cj_dec rfl (fun h23=>?_) (fun h23=>?_)
 ·have hk':k+1<gs.length:=by omega
  have hk1:k+1<xs.length:=by omega
  have hSk:=hx (k+1) _ _ (List.getElem?_eq_getElem hk1) (List.getElem?_eq_getElem hk')
  refine cj_skip (K5 (sQ fun K6=>cj_block (sQ fun K7=>cj_reg (jJ ru41 so42 (k:=?_)))))
  refine j_valw rfl (fun a w ha hH hf=>r_load ag42 rfl (by rw[hcut k hk',show 1+k*1=0+(k+1)*1 by omega];exact hcell (k+1) hk' w hf) ha) ?_
  refine jA (k:=K7 (sQ fun K8=>cj_reg (jM (k:=?_))))
  refine j_val rfl (fun _ _ h=>r_idxI 0 ru41 so42 rfl rfl rfl rfl hpos h) (j_valw rfl (fun a w ha hH hf=>r_load ag42 rfl (hcell0 w hf) ha) (jM (k:=?_)))
  refine j_callQ (φ:=fun v=>v=.nilIface) call51 rfl rfl (fun w' hH hf=>compat_c w' x0 xs[k+1] g0 gs[k+1] (hS0.t.of.keep (Fr.keepAll hf (.inr rfl))) (hSk.t.of.keep (Fr.keepAll hf (.inr rfl))) (hS0.ty.trans hSk.ty.symm) (hS0.pe.trans hSk.pe.symm) (by rw[hS0.ty];exact hty)) fun v hv=>?_
  subst hv
  refine jA (k:=K8 (sQ fun K9=>cj_reg (jM (k:=?_))))
  refine j_val rfl (fun _ _ h=>r_inil ud45 rfl h) (K9 (CJ.t [(0,_),(6,_),(20,_),(21,_),(22,_),(32,_)] (k:=?_)))
  refine cj_if_f rfl (cj_skip (K6 (cj_reg (jI (k:=jM (k:=j_nil (ej_then ?_)))))))
  exact fun w' hH hf=>hKL (k+1) _ w' (by omega) hf .nil (by omega) sR
 ·refine cj_exit (ej_then_exit (ej_then_exit (ej_blk_hit (ej_then (hK2 _ _ _ (sQ fun K10=>cj_reg (jA (k:=jA (k:=jA (k:=K10 (sQ fun K11=>cj_reg (jA (k:=K11 (sQ fun K12=>cj_reg ?_))))))))))))))
  refine j_mkmap (fun x hx0=>by cases hx0) rfl fun b35=>?_
  refine jA (k:=K12 (sQ fun K13=>cj_reg (jA (k:=K13 (CJ.t [(0,_),(7,_),(8,_),(9,_),(10,_),(11,_),(12,_)] (k:=sQ fun K14=>sQ fun K15=>cj_reg (jM (k:=jE ru41 (k:=jM (k:=K15 ?_))))))))))
  refine cj_block ?_
  refine cj_loop (σ:=Nat×Int×Int×Int) (fun q=>[(0,.slice (some ⟨bs,0,none⟩) gs.length c),(7,.int .i64 q.2.1),(8,.int .i64 q.2.2.1),(9,.int .i64 q.2.2.2),(10,.slice none 0 0),(11,.map (some b35)),(12,.string ⟨#[]⟩),(36,.slice (some ⟨bs,0,none⟩) gs.length c),(37,.int .i64 (gs.length:Nat)),(38,.int .i64 (q.1:Nat))]) (fun _=>[])
   (fun q _=>q.1≤gs.length∧IntKind.i64.wrap q.2.1=q.2.1∧IntKind.i64.wrap q.2.2.1=q.2.2.1∧IntKind.i64.wrap q.2.2.2=q.2.2.2) (fun q=>gs.length - q.1) (0,0,0,0) sR (fun w' hH hf=>⟨.nil,Nat.zero_le _,rfl,rfl,rfl⟩) ?_
  rintro ⟨k,ti,du,pe⟩ w1 ⟨hk,hti,hdu,hpe⟩ hf1 hH1 KL hKL
  try dsimp only at hk hti hdu hpe
  refine C.begin _ _ hf1 hH1 ?_
  try dsimp only
  refine sQ fun K16=>cj_reg (jS (k:=K16 (sQ fun K17=>?_)))
  refine cj_dec rfl (fun h39=>?_) (fun h39=>?_)
  ·have hk':k<gs.length:=by omega
   have hk1:k<xs.length:=by omega
   have hSk:=hx k _ _ (List.getElem?_eq_getElem hk1) (List.getElem?_eq_getElem hk')
   obtain ⟨tyk,sak,mak,lok,fuk,cok,hpbk, -, -, -, -, -,hcok⟩:=hSk.t.of.prof
   rw[hSk.co]at hcok
   obtain ⟨pk,lk,ck,rfl,hlk, -, -⟩:=hcok.openF
   simp at hlk
   subst hlk
   have hck:=mc (f:=⟨w,0,[]⟩) hpbk rfl
   obtain ⟨ht1,ht2,ht3⟩:=hSk.wr
   refine cj_skip (K17 (sQ fun K18=>cj_block (sQ fun K19=>cj_reg (jJ ru41 so42 (k:=?_)))))
   refine j_valw rfl (fun a w ha hH hf=>r_load ag42 rfl (hcell k hk' w hf) ha) (jA (k:=K19 (sQ fun K20=>sQ fun K21=>cj_reg (jM (k:=jQ (k:=jM (k:=?_)))))))
   refine j_split (t:=44) rfl (fun hg44=>?_) (fun hg44=>?_)
   ·refine j_gf rfl rfl rfl rfl (j_gf rfl rfl rfl rfl (j_gf rfl rfl rfl rfl (j_gf rfl rfl rfl rfl (j_gf rfl rfl rfl rfl (j_gf rfl rfl rfl rfl (jT (k:=K21 (CJ.t [(0,_),(7,_),(8,_),(9,_),(10,_),(11,_),(12,_),(14,_),(36,_),(37,_),(38,_),(51,_)] (k:=?_)))))))))
    refine cj_if_t rfl (cj_reg (jM (k:=jN (k:=jF 9 ru75 so2 (k:=jL ag2 hck 9 (k:=jA (k:=K20 (sQ fun K22=>cj_reg (jM (k:=jM (k:=jN (k:=jF 10 ru75 so2 (k:=?_)))))))))))))
    refine jL ag2 hck 10 (k:=?_)
    refine j_val rfl (fun _ _ h=>r_add rfl rfl h) (jA (k:=K22 (CJ.t [(0,_),(7,_),(8,_),(9,_),(10,_),(11,_),(12,_),(14,_),(36,_),(37,_),(38,_)] (k:=sQ fun K23=>sQ fun K24=>cj_reg (jM (k:=jQ (k:=jM (k:=?_))))))))
    refine j_split (t:=64) rfl (fun hg64=>?_) (fun hg64=>?_)
    ·refine j_gf rfl rfl rfl rfl (j_gf rfl rfl rfl rfl (j_gf rfl rfl rfl rfl (j_gf rfl rfl rfl rfl (j_gf rfl rfl rfl rfl (j_gf rfl rfl rfl rfl (jT (k:=K24 ?_)))))))
     refine cj_if_t rfl (cj_reg (jM (k:=jN (k:=jF 12 ru75 so2 (k:=jL ag2 hck 12 (k:=jA (k:=K23 (CJ.t [(0,_),(7,_),(8,_),(9,_),(10,_),(11,_),(12,_),(14,_),(36,_),(37,_),(38,_)] (k:=sQ fun K25=>sQ fun K26=>cj_reg (jM (k:=jN (k:=?_))))))))))))
     refine jF 6 ru75 so29 (k:=jL ag29 hck 6 (k:=jE ru29 (k:=jM (k:=K26 (cj_block ?_)))))
     refine cj_loop (σ:=Unit) (fun _=>[(0,_),(7,_),(8,_),(9,_),(10,_),(11,_),(12,.string ⟨#[]⟩),(14,_),(36,_),(37,_),(38,_),(79,.slice pk 0 ck),(80,.int .i64 (0:Nat)),(81,.int .i64 0)]) (fun _=>[]) (fun _ _=>True) (fun _=>0) () sR (fun w hH hf=>⟨.nil,trivial⟩) ?_
     intro _ w2 _ hf2 hH2 KL2 hKL2
     refine C.begin _ _ hf2 hH2 ?_
     refine sQ fun K27=>cj_reg (jS (k:=?_))
     refine j_eqv (u:=.bool false) rfl ?_
     refine K27 (sQ fun K28=>cj_if_f rfl (cj_exit (K25 (sQ fun K29=>cj_reg (jM (k:=?_))))))
     refine j_val rfl (fun _ _ h=>r_seql rfl rfl h) ?_
     refine j_eqv (u:=.bool true) (by simp) ?_
     refine K29 (cj_if_t rfl (cj_reg (jM (k:=jN (k:=jF 1 ru75 so9 (k:=jL ag9 hck 1 (k:=?_)))))))
     refine j_eqv (u:=.string ⟨#[]⟩) (by rw[hSk.df]) ?_
     refine jA (k:=K18 (CJ.t [(0,_),(7,_),(8,_),(9,_),(10,_),(11,_),(12,_),(36,_),(37,_),(38,_)] (k:=cj_reg (jI (k:=jM (k:=j_nil (ej_then ?_)))))))
     exact fun w' hH hf=>hKL (k+1,_,_,_) _ w' ⟨hk',by first|exact hti|exact ht1,wrw _,by first|exact hpe|exact ht3⟩ hf .nil (by simp only;omega) ⟨rfl,rfl,rfl,rfl,rfl,rfl,rfl,rfl,rfl,rfl,trivial⟩
    ·refine j_gt rfl rfl (jM (k:=?_))
     refine j_gt rfl rfl (jM (k:=?_))
     refine j_gt rfl rfl (jN (k:=?_))
     refine j_gt rfl rfl (jF 12 ru75 so2 (k:=?_))
     refine j_gt rfl rfl (jL ag2 hck 12 (k:=?_))
     refine j_gt rfl rfl (jS (k:=jK (k:=K24 (CJ.t [(0,_),(7,_),(8,_),(9,_),(10,_),(11,_),(12,_),(14,_),(36,_),(37,_),(38,_),(71,_)] (k:=?_)))))
     refine cj_if rfl (fun h71=>?_) (fun h71=>?_)
     ·refine cj_reg (jM (k:=jN (k:=jF 12 ru75 so2 (k:=jL ag2 hck 12 (k:=jA (k:=K23 (sQ fun K30=>sQ fun K31=>cj_reg (jM (k:=jN (k:=jF 6 ru75 so29 (k:=jL ag29 hck 6 (k:=?_))))))))))))
      refine jE ru29 (k:=jM (k:=K31 (cj_block ?_)))
      refine cj_loop (σ:=Unit) (fun _=>[(0,_),(7,_),(8,_),(9,_),(10,_),(11,_),(12,.string ⟨#[]⟩),(14,_),(36,_),(37,_),(38,_),(79,.slice pk 0 ck),(80,.int .i64 (0:Nat)),(81,.int .i64 0)]) (fun _=>[]) (fun _ _=>True) (fun _=>0) () sR (fun w hH hf=>⟨.nil,trivial⟩) ?_
      intro _ w2 _ hf2 hH2 KL2 hKL2
      refine C.begin _ _ hf2 hH2 ?_
      refine sQ fun K32=>cj_reg (jS (k:=?_))
      refine j_eqv (u:=.bool false) rfl ?_
      refine K32 (sQ fun K33=>cj_if_f rfl (cj_exit (K30 (sQ fun K34=>cj_reg (jM (k:=?_))))))
      refine j_val rfl (fun _ _ h=>r_seql rfl rfl h) ?_
      refine j_eqv (u:=.bool true) (by simp) ?_
      refine K34 (cj_if_t rfl (cj_reg (jM (k:=jN (k:=jF 1 ru75 so9 (k:=jL ag9 hck 1 (k:=?_)))))))
      refine j_eqv (u:=.string ⟨#[]⟩) (by rw[hSk.df]) ?_
      refine jA (k:=K18 (CJ.t [(0,_),(7,_),(8,_),(9,_),(10,_),(11,_),(12,_),(36,_),(37,_),(38,_)] (k:=cj_reg (jI (k:=jM (k:=j_nil (ej_then ?_)))))))
      exact fun w' hH hf=>hKL (k+1,_,_,_) _ w' ⟨hk',by first|exact hti|exact ht1,wrw _,by first|exact hpe|exact ht3⟩ hf .nil (by simp only;omega) ⟨rfl,rfl,rfl,rfl,rfl,rfl,rfl,rfl,rfl,rfl,trivial⟩
     ·refine cj_skip (K23 (sQ fun K35=>sQ fun K36=>cj_reg (jM (k:=jN (k:=jF 6 ru75 so29 (k:=jL ag29 hck 6 (k:=jE ru29 (k:=jM (k:=K36 (cj_block ?_))))))))))
      refine cj_loop (σ:=Unit) (fun _=>[(0,_),(7,_),(8,_),(9,_),(10,_),(11,_),(12,.string ⟨#[]⟩),(14,_),(36,_),(37,_),(38,_),(79,.slice pk 0 ck),(80,.int .i64 (0:Nat)),(81,.int .i64 0)]) (fun _=>[]) (fun _ _=>True) (fun _=>0) () sR (fun w hH hf=>⟨.nil,trivial⟩) ?_
      intro _ w2 _ hf2 hH2 KL2 hKL2
      refine C.begin _ _ hf2 hH2 ?_
      refine sQ fun K37=>cj_reg (jS (k:=?_))
      refine j_eqv (u:=.bool false) rfl ?_
      refine K37 (sQ fun K38=>cj_if_f rfl (cj_exit (K35 (sQ fun K39=>cj_reg (jM (k:=?_))))))
      refine j_val rfl (fun _ _ h=>r_seql rfl rfl h) ?_
      refine j_eqv (u:=.bool true) (by simp) ?_
      refine K39 (cj_if_t rfl (cj_reg (jM (k:=jN (k:=jF 1 ru75 so9 (k:=jL ag9 hck 1 (k:=?_)))))))
      refine j_eqv (u:=.string ⟨#[]⟩) (by rw[hSk.df]) ?_
      refine jA (k:=K18 (CJ.t [(0,_),(7,_),(8,_),(9,_),(10,_),(11,_),(12,_),(36,_),(37,_),(38,_)] (k:=cj_reg (jI (k:=jM (k:=j_nil (ej_then ?_)))))))
      exact fun w' hH hf=>hKL (k+1,_,_,_) _ w' ⟨hk',by first|exact hti|exact ht1,wrw _,by first|exact hpe|exact ht3⟩ hf .nil (by simp only;omega) ⟨rfl,rfl,rfl,rfl,rfl,rfl,rfl,rfl,rfl,rfl,trivial⟩
   ·refine j_gt rfl rfl (jM (k:=?_))
    refine j_gt rfl rfl (jN (k:=?_))
    refine j_gt rfl rfl (jF 9 ru75 so2 (k:=?_))
    refine j_gt rfl rfl (jL ag2 hck 9 (k:=?_))
    refine j_gt rfl rfl (jM (k:=?_))
    refine j_gt rfl rfl (jS (k:=jK (k:=K21 (CJ.t [(0,_),(7,_),(8,_),(9,_),(10,_),(11,_),(12,_),(14,_),(36,_),(37,_),(38,_),(51,_)] (k:=?_)))))
    refine cj_if rfl (fun h51=>?_) (fun h51=>?_)
    ·refine cj_reg (jM (k:=jN (k:=jF 9 ru75 so2 (k:=jL ag2 hck 9 (k:=jA (k:=K20 (sQ fun K40=>cj_reg (jM (k:=jM (k:=jN (k:=jF 10 ru75 so2 (k:=jL ag2 hck 10 (k:=?_)))))))))))))
     refine j_val rfl (fun _ _ h=>r_add rfl rfl h) (jA (k:=K40 (CJ.t [(0,_),(7,_),(8,_),(9,_),(10,_),(11,_),(12,_),(14,_),(36,_),(37,_),(38,_)] (k:=sQ fun K41=>sQ fun K42=>cj_reg (jM (k:=jQ (k:=jM (k:=?_))))))))
     refine j_split (t:=64) rfl (fun hg64=>?_) (fun hg64=>?_)
     ·refine j_gf rfl rfl rfl rfl (j_gf rfl rfl rfl rfl (j_gf rfl rfl rfl rfl (j_gf rfl rfl rfl rfl (j_gf rfl rfl rfl rfl (j_gf rfl rfl rfl rfl (jT (k:=K42 ?_)))))))
      refine cj_if_t rfl (cj_reg (jM (k:=jN (k:=jF 12 ru75 so2 (k:=jL ag2 hck 12 (k:=jA (k:=K41 (CJ.t [(0,_),(7,_),(8,_),(9,_),(10,_),(11,_),(12,_),(14,_),(36,_),(37,_),(38,_)] (k:=sQ fun K43=>sQ fun K44=>cj_reg (jM (k:=jN (k:=?_))))))))))))
      refine jF 6 ru75 so29 (k:=jL ag29 hck 6 (k:=jE ru29 (k:=jM (k:=K44 (cj_block ?_)))))
      refine cj_loop (σ:=Unit) (fun _=>[(0,_),(7,_),(8,_),(9,_),(10,_),(11,_),(12,.string ⟨#[]⟩),(14,_),(36,_),(37,_),(38,_),(79,.slice pk 0 ck),(80,.int .i64 (0:Nat)),(81,.int .i64 0)]) (fun _=>[]) (fun _ _=>True) (fun _=>0) () sR (fun w hH hf=>⟨.nil,trivial⟩) ?_
      intro _ w2 _ hf2 hH2 KL2 hKL2
      refine C.begin _ _ hf2 hH2 ?_
      refine sQ fun K45=>cj_reg (jS (k:=?_))
      refine j_eqv (u:=.bool false) rfl ?_
      refine K45 (sQ fun K46=>cj_if_f rfl (cj_exit (K43 (sQ fun K47=>cj_reg (jM (k:=?_))))))
      refine j_val rfl (fun _ _ h=>r_seql rfl rfl h) ?_
      refine j_eqv (u:=.bool true) (by simp) ?_
      refine K47 (cj_if_t rfl (cj_reg (jM (k:=jN (k:=jF 1 ru75 so9 (k:=jL ag9 hck 1 (k:=?_)))))))
      refine j_eqv (u:=.string ⟨#[]⟩) (by rw[hSk.df]) ?_
      refine jA (k:=K18 (CJ.t [(0,_),(7,_),(8,_),(9,_),(10,_),(11,_),(12,_),(36,_),(37,_),(38,_)] (k:=cj_reg (jI (k:=jM (k:=j_nil (ej_then ?_)))))))
      exact fun w' hH hf=>hKL (k+1,_,_,_) _ w' ⟨hk',by first|exact hti|exact ht1,wrw _,by first|exact hpe|exact ht3⟩ hf .nil (by simp only;omega) ⟨rfl,rfl,rfl,rfl,rfl,rfl,rfl,rfl,rfl,rfl,trivial⟩
     ·refine j_gt rfl rfl (jM (k:=?_))
      refine j_gt rfl rfl (jM (k:=?_))
      refine j_gt rfl rfl (jN (k:=?_))
      refine j_gt rfl rfl (jF 12 ru75 so2 (k:=?_))
      refine j_gt rfl rfl (jL ag2 hck 12 (k:=?_))
      refine j_gt rfl rfl (jS (k:=jK (k:=K42 (CJ.t [(0,_),(7,_),(8,_),(9,_),(10,_),(11,_),(12,_),(14,_),(36,_),(37,_),(38,_),(71,_)] (k:=?_)))))
      refine cj_if rfl (fun h71=>?_) (fun h71=>?_)
      ·refine cj_reg (jM (k:=jN (k:=jF 12 ru75 so2 (k:=jL ag2 hck 12 (k:=jA (k:=K41 (sQ fun K48=>sQ fun K49=>cj_reg (jM (k:=jN (k:=jF 6 ru75 so29 (k:=jL ag29 hck 6 (k:=?_))))))))))))
       refine jE ru29 (k:=jM (k:=K49 (cj_block ?_)))
       refine cj_loop (σ:=Unit) (fun _=>[(0,_),(7,_),(8,_),(9,_),(10,_),(11,_),(12,.string ⟨#[]⟩),(14,_),(36,_),(37,_),(38,_),(79,.slice pk 0 ck),(80,.int .i64 (0:Nat)),(81,.int .i64 0)]) (fun _=>[]) (fun _ _=>True) (fun _=>0) () sR (fun w hH hf=>⟨.nil,trivial⟩) ?_
       intro _ w2 _ hf2 hH2 KL2 hKL2
       refine C.begin _ _ hf2 hH2 ?_
       refine sQ fun K50=>cj_reg (jS (k:=?_))
       refine j_eqv (u:=.bool false) rfl ?_
       refine K50 (sQ fun K51=>cj_if_f rfl (cj_exit (K48 (sQ fun K52=>cj_reg (jM (k:=?_))))))
       refine j_val rfl (fun _ _ h=>r_seql rfl rfl h) ?_
       refine j_eqv (u:=.bool true) (by simp) ?_
       refine K52 (cj_if_t rfl (cj_reg (jM (k:=jN (k:=jF 1 ru75 so9 (k:=jL ag9 hck 1 (k:=?_)))))))
       refine j_eqv (u:=.string ⟨#[]⟩) (by rw[hSk.df]) ?_
       refine jA (k:=K18 (CJ.t [(0,_),(7,_),(8,_),(9,_),(10,_),(11,_),(12,_),(36,_),(37,_),(38,_)] (k:=cj_reg (jI (k:=jM (k:=j_nil (ej_then ?_)))))))
       exact fun w' hH hf=>hKL (k+1,_,_,_) _ w' ⟨hk',by first|exact hti|exact ht1,wrw _,by first|exact hpe|exact ht3⟩ hf .nil (by simp only;omega) ⟨rfl,rfl,rfl,rfl,rfl,rfl,rfl,rfl,rfl,rfl,trivial⟩
      ·refine cj_skip (K41 (sQ fun K53=>sQ fun K54=>cj_reg (jM (k:=jN (k:=jF 6 ru75 so29 (k:=jL ag29 hck 6 (k:=jE ru29 (k:=jM (k:=K54 (cj_block ?_))))))))))
       refine cj_loop (σ:=Unit) (fun _=>[(0,_),(7,_),(8,_),(9,_),(10,_),(11,_),(12,.string ⟨#[]⟩),(14,_),(36,_),(37,_),(38,_),(79,.slice pk 0 ck),(80,.int .i64 (0:Nat)),(81,.int .i64 0)]) (fun _=>[]) (fun _ _=>True) (fun _=>0) () sR (fun w hH hf=>⟨.nil,trivial⟩) ?_
       intro _ w2 _ hf2 hH2 KL2 hKL2
       refine C.begin _ _ hf2 hH2 ?_
       refine sQ fun K55=>cj_reg (jS (k:=?_))
       refine j_eqv (u:=.bool false) rfl ?_
       refine K55 (sQ fun K56=>cj_if_f rfl (cj_exit (K53 (sQ fun K57=>cj_reg (jM (k:=?_))))))
       refine j_val rfl (fun _ _ h=>r_seql rfl rfl h) ?_
       refine j_eqv (u:=.bool true) (by simp) ?_
       refine K57 (cj_if_t rfl (cj_reg (jM (k:=jN (k:=jF 1 ru75 so9 (k:=jL ag9 hck 1 (k:=?_)))))))
       refine j_eqv (u:=.string ⟨#[]⟩) (by rw[hSk.df]) ?_
       refine jA (k:=K18 (CJ.t [(0,_),(7,_),(8,_),(9,_),(10,_),(11,_),(12,_),(36,_),(37,_),(38,_)] (k:=cj_reg (jI (k:=jM (k:=j_nil (ej_then ?_)))))))
       exact fun w' hH hf=>hKL (k+1,_,_,_) _ w' ⟨hk',by first|exact hti|exact ht1,wrw _,by first|exact hpe|exact ht3⟩ hf .nil (by simp only;omega) ⟨rfl,rfl,rfl,rfl,rfl,rfl,rfl,rfl,rfl,rfl,trivial⟩
    ·refine cj_skip (K20 (sQ fun K58=>cj_reg (jM (k:=jM (k:=jN (k:=jF 10 ru75 so2 (k:=jL ag2 hck 10 (k:=?_))))))))
     refine j_val rfl (fun _ _ h=>r_add rfl rfl h) (jA (k:=K58 (sQ fun K59=>sQ fun K60=>cj_reg (jM (k:=jQ (k:=jM (k:=?_)))))))
     refine j_split (t:=64) rfl (fun hg64=>?_) (fun hg64=>?_)
     ·refine j_gf rfl rfl rfl rfl (j_gf rfl rfl rfl rfl (j_gf rfl rfl rfl rfl (j_gf rfl rfl rfl rfl (j_gf rfl rfl rfl rfl (j_gf rfl rfl rfl rfl (jT (k:=K60 (CJ.t [(0,_),(7,_),(8,_),(9,_),(10,_),(11,_),(12,_),(14,_),(36,_),(37,_),(38,_),(71,_)] (k:=?_)))))))))
      refine cj_if_t rfl (cj_reg (jM (k:=jN (k:=jF 12 ru75 so2 (k:=jL ag2 hck 12 (k:=jA (k:=K59 (sQ fun K61=>sQ fun K62=>cj_reg (jM (k:=jN (k:=jF 6 ru75 so29 (k:=?_))))))))))))
      refine jL ag29 hck 6 (k:=jE ru29 (k:=jM (k:=K62 (cj_block ?_))))
      refine cj_loop (σ:=Unit) (fun _=>[(0,_),(7,_),(8,_),(9,_),(10,_),(11,_),(12,.string ⟨#[]⟩),(14,_),(36,_),(37,_),(38,_),(79,.slice pk 0 ck),(80,.int .i64 (0:Nat)),(81,.int .i64 0)]) (fun _=>[]) (fun _ _=>True) (fun _=>0) () sR (fun w hH hf=>⟨.nil,trivial⟩) ?_
      intro _ w2 _ hf2 hH2 KL2 hKL2
      refine C.begin _ _ hf2 hH2 ?_
      refine sQ fun K63=>cj_reg (jS (k:=?_))
      refine j_eqv (u:=.bool false) rfl ?_
      refine K63 (sQ fun K64=>cj_if_f rfl (cj_exit (K61 (sQ fun K65=>cj_reg (jM (k:=?_))))))
      refine j_val rfl (fun _ _ h=>r_seql rfl rfl h) ?_
      refine j_eqv (u:=.bool true) (by simp) ?_
      refine K65 (cj_if_t rfl (cj_reg (jM (k:=jN (k:=jF 1 ru75 so9 (k:=jL ag9 hck 1 (k:=?_)))))))
      refine j_eqv (u:=.string ⟨#[]⟩) (by rw[hSk.df]) ?_
      refine jA (k:=K18 (CJ.t [(0,_),(7,_),(8,_),(9,_),(10,_),(11,_),(12,_),(36,_),(37,_),(38,_)] (k:=cj_reg (jI (k:=jM (k:=j_nil (ej_then ?_)))))))
      exact fun w' hH hf=>hKL (k+1,_,_,_) _ w' ⟨hk',by first|exact hti|exact ht1,wrw _,by first|exact hpe|exact ht3⟩ hf .nil (by simp only;omega) ⟨rfl,rfl,rfl,rfl,rfl,rfl,rfl,rfl,rfl,rfl,trivial⟩
     ·refine j_gt rfl rfl (jM (k:=?_))
      refine j_gt rfl rfl (jM (k:=?_))
      refine j_gt rfl rfl (jN (k:=?_))
      refine j_gt rfl rfl (jF 12 ru75 so2 (k:=?_))
      refine j_gt rfl rfl (jL ag2 hck 12 (k:=?_))
      refine j_gt rfl rfl (jS (k:=jK (k:=K60 (CJ.t [(0,_),(7,_),(8,_),(9,_),(10,_),(11,_),(12,_),(14,_),(36,_),(37,_),(38,_),(71,_)] (k:=?_)))))
      refine cj_if rfl (fun h71=>?_) (fun h71=>?_)
      ·refine cj_reg (jM (k:=jN (k:=jF 12 ru75 so2 (k:=jL ag2 hck 12 (k:=jA (k:=K59 (sQ fun K66=>sQ fun K67=>cj_reg (jM (k:=jN (k:=jF 6 ru75 so29 (k:=jL ag29 hck 6 (k:=?_))))))))))))
       refine jE ru29 (k:=jM (k:=K67 (cj_block ?_)))
       refine cj_loop (σ:=Unit) (fun _=>[(0,_),(7,_),(8,_),(9,_),(10,_),(11,_),(12,.string ⟨#[]⟩),(14,_),(36,_),(37,_),(38,_),(79,.slice pk 0 ck),(80,.int .i64 (0:Nat)),(81,.int .i64 0)]) (fun _=>[]) (fun _ _=>True) (fun _=>0) () sR (fun w hH hf=>⟨.nil,trivial⟩) ?_
       intro _ w2 _ hf2 hH2 KL2 hKL2
       refine C.begin _ _ hf2 hH2 ?_
       refine sQ fun K68=>cj_reg (jS (k:=?_))
       refine j_eqv (u:=.bool false) rfl ?_
       refine K68 (sQ fun K69=>cj_if_f rfl (cj_exit (K66 (sQ fun K70=>cj_reg (jM (k:=?_))))))
       refine j_val rfl (fun _ _ h=>r_seql rfl rfl h) ?_
       refine j_eqv (u:=.bool true) (by simp) ?_
       refine K70 (cj_if_t rfl (cj_reg (jM (k:=jN (k:=jF 1 ru75 so9 (k:=jL ag9 hck 1 (k:=?_)))))))
       refine j_eqv (u:=.string ⟨#[]⟩) (by rw[hSk.df]) ?_
       refine jA (k:=K18 (CJ.t [(0,_),(7,_),(8,_),(9,_),(10,_),(11,_),(12,_),(36,_),(37,_),(38,_)] (k:=cj_reg (jI (k:=jM (k:=j_nil (ej_then ?_)))))))
       exact fun w' hH hf=>hKL (k+1,_,_,_) _ w' ⟨hk',by first|exact hti|exact ht1,wrw _,by first|exact hpe|exact ht3⟩ hf .nil (by simp only;omega) ⟨rfl,rfl,rfl,rfl,rfl,rfl,rfl,rfl,rfl,rfl,trivial⟩
      ·refine cj_skip (K59 (sQ fun K71=>sQ fun K72=>cj_reg (jM (k:=jN (k:=jF 6 ru75 so29 (k:=jL ag29 hck 6 (k:=jE ru29 (k:=jM (k:=K72 (cj_block ?_))))))))))
       refine cj_loop (σ:=Unit) (fun _=>[(0,_),(7,_),(8,_),(9,_),(10,_),(11,_),(12,.string ⟨#[]⟩),(14,_),(36,_),(37,_),(38,_),(79,.slice pk 0 ck),(80,.int .i64 (0:Nat)),(81,.int .i64 0)]) (fun _=>[]) (fun _ _=>True) (fun _=>0) () sR (fun w hH hf=>⟨.nil,trivial⟩) ?_
       intro _ w2 _ hf2 hH2 KL2 hKL2
       refine C.begin _ _ hf2 hH2 ?_
       refine sQ fun K73=>cj_reg (jS (k:=?_))
       refine j_eqv (u:=.bool false) rfl ?_
       refine K73 (sQ fun K74=>cj_if_f rfl (cj_exit (K71 (sQ fun K75=>cj_reg (jM (k:=?_))))))
       refine j_val rfl (fun _ _ h=>r_seql rfl rfl h) ?_
       refine j_eqv (u:=.bool true) (by simp) ?_
       refine K75 (cj_if_t rfl (cj_reg (jM (k:=jN (k:=jF 1 ru75 so9 (k:=jL ag9 hck 1 (k:=?_)))))))
       refine j_eqv (u:=.string ⟨#[]⟩) (by rw[hSk.df]) ?_
       refine jA (k:=K18 (CJ.t [(0,_),(7,_),(8,_),(9,_),(10,_),(11,_),(12,_),(36,_),(37,_),(38,_)] (k:=cj_reg (jI (k:=jM (k:=j_nil (ej_then ?_)))))))
       exact fun w' hH hf=>hKL (k+1,_,_,_) _ w' ⟨hk',by first|exact hti|exact ht1,wrw _,by first|exact hpe|exact ht3⟩ hf .nil (by simp only;omega) ⟨rfl,rfl,rfl,rfl,rfl,rfl,rfl,rfl,rfl,rfl,trivial⟩
  ·clear hKL
   refine cj_exit (K14 (sQ fun K76=>cj_drawI 34 (lts [0,1,2,3,4,5,6,8,9,10,11,12,13,14,15,16,17,18,19,20,21,22,23,24,25,26,27,28,29,30]++(7,false)::(lts [31]++(32,false)::lts [33])) [] rfl (by kernel_rfl) (by kernel_rfl) (dM [] (k:=?_))))
   refine dj_val rfl rfl (sub_of [] rfl) (fun _ _ h=>r_idxI 0 ru41 so42 rfl rfl rfl rfl hpos h) (dj_ld rfl rfl (sub_of [] rfl) (fun a w ha hS=>r_load ag42 rfl (hcell0 w hS.2) ha) (dN [] (k:=dF [] 0 ru75 so69 (k:=dL [] ag69 hc0 0 (k:=?_)))))
   refine dj_val rfl rfl (sub_of [] rfl) (fun _ _ h=>r_len ru69 rfl h) (dM [] (k:=?_))
   refine dj_val rfl rfl (sub_of [] rfl) (fun _ _ h=>r_idxI 0 ru41 so42 rfl rfl rfl rfl hpos h) (dj_ld rfl rfl (sub_of [] rfl) (fun a w ha hS=>r_load ag42 rfl (hcell0 w hS.2) ha) (dN [] (k:=dF [] 7 ru75 so9 (k:=dL [] ag9 hc0 7 (k:=dM [] (k:=?_))))))
   refine dj_val rfl rfl (sub_of [] rfl) (fun _ _ h=>r_idxI 0 ru41 so42 rfl rfl rfl rfl hpos h) (dj_ld rfl rfl (sub_of [] rfl) (fun a w ha hS=>r_load ag42 rfl (hcell0 w hS.2) ha) (dN [] (k:=dF [] 8 ru75 so9 (k:=dL [] ag9 hc0 8 (k:=dM [] (k:=dM [] (k:=dM [] (k:=?_))))))))
   refine dj_val rfl rfl (sub_of [] rfl) (fun _ _ h=>r_idxI 0 ru41 so42 rfl rfl rfl rfl hpos h) (dj_ld rfl rfl (sub_of [] rfl) (fun a w ha hS=>r_load ag42 rfl (hcell0 w hS.2) ha) (dN [] (k:=dF [] 11 ru75 so67 (k:=dL [] ag67 hc0 11 (k:=dM [] (k:=dM [] (k:=dM [] (k:=dE (h:=fun Kd=>?_)))))))))
   refine j_make (l:=g0.types.length) ru69 el67 rfl rfl rfl (Nat.le_refl _) (by omega) rfl fun b111 cs111 hcs111 _=>?_
   refine Kd (sb []) (dj_val rfl rfl (sub_of [] rfl) (fun _ _ h=>r_build (cs:=[_,_,(.slice none 0 0),(.slice none 0 0),(.slice none 0 0),(.slice none 0 0),_,_,_,_,_,_,_,(.slice none 0 0),(.int .i64 0),(.int .i64 0),(.slice none 0 0),(.int .i64 0)]) bt75 rfl rfl h) (dE (h:=fun Kd=>j_boxA (vs:=[_,_,_,_,_,_,_,_,_,_,_,_,_,_,_,_,_,_]) rfl rfl fun b136=>Kd (sb []) (dA [] (k:=K76 (CJ.t [(0,_),(18,_)] (k:=sQ fun K77=>?_)))))))
   refine cj_drawI 10 (lts [0,1,2,3,4,5,6,7,8,9]++(10,false)::[]) [0] rfl (by kernel_rfl) (by kernel_rfl) (dM [0] (k:=dN [0] (k:=dF [0] 0 ru75 so69 (k:=dH [0] 0 ag69 (k:=dM [0] (k:=?_))))))
   refine dj_val rfl rfl (sub_of [0] rfl) (fun _ _ h=>r_idxI 0 ru41 so42 rfl rfl rfl rfl hpos h) (dj_ld rfl rfl (sub_of [0] rfl) (fun a w ha hS=>r_load ag42 rfl (hcell0 w hS.2) ha) (dN [0] (k:=dF [0] 0 ru75 so69 (k:=dL [0] ag69 hc0 0 (k:=dE (h:=fun Kd=>?_))))))
   refine j_copyO (m:=g0.types.length) (xs:=g0.types.map ptr) 1 rfl ru69 so67 (by simp) (by rw[hcs111,Nat.mul_one]) rfl rfl hty0' (fun w' hH hf=>Fr.keepAll hf (.inr rfl)) (by simp[List.all_eq_true,scal]) rfl ?_
   refine Kd (.inl rfl) (K77 (CJ.t [(18,_)] (k:=sQ fun K78=>cj_reg (jM (k:=jA (k:=jA (k:=K78 (cj_ret ?_))))))))
   exact ej_ret2 results32 rfl rfl fun w' hH hf=>⟨⟨b136,b111,g0,x0.drop,x0.keep,ti,du,pe,rfl,hg0,hH.freshE (i:=0) rfl rfl rfl,hH.freshE (i:=1) rfl rfl rfl,hH.get (i:=0) rfl rfl,hH.get (i:=1) rfl rfl,hti,hdu,hpe⟩,hf⟩
structure MGN (w0:World) (n:Nat) (w:World) (s:MS):Prop where
 kp:Keep w0 w
 c0:∀b,b<w0.heap.size→s.cold b
 cd:∀b,s.cold b→b<w.heap.size∧b∉s.hot
 hl:∀b∈s.hot,b<w.heap.size
 hh:∀b∈[s.pm,s.pb,s.mS,s.mL,s.mF,s.mM]++s.vals,b∈s.hot
 nd:[s.mS,s.mL,s.mF,s.mM].Nodup
 bpm:∃a b c,Blk w s.pm tPM [ptr s.pb,a,b,c,.map (some s.mS),.map (some s.mL),.map (some s.mF),.map (some s.mM)]
 prof:∃sa ma lo fu,Blk w s.pb tProf (cProf s.z s.ty sa ma lo fu (.slice none 0 0) s.per)∧OSp (· ∈s.hot) pSam 1 w sa (s.sams.map ptr)∧OSp (· ∈s.hot) pMap 1 w ma (s.maps.map ptr)∧OSp (· ∈s.hot) pLoc 1 w lo (s.locs.map ptr)∧OSp (· ∈s.hot) pFun 1 w fu (s.funs.map ptr)
 tS:TbM encSm w s.mS s.kS
 tL:TbM encLc w s.mL s.kL
 tF:TbM encFc w s.mF s.kF
 tM:TbM encMp w s.mM s.kM
 oT:On s.cold w fun w=>OS pVT 1 w s.ty (s.types.map ptr)∧Each s.types s.z.types (fun b t=>Blk w b tVT (cVT t))∧Blk w s.per tVT (cVT s.z.per)
 oM:Each s.maps s.z.mappings fun b m=>On s.cold w fun w=>Blk w b tMap (cMap m)
 oF:Each s.funs s.z.funcs fun b f=>On s.cold w fun w=>Blk w b tFun (cFun f)
 oL:Each s.locs s.z.locs fun b l=>On s.cold w fun w=>LocP w s.maps s.funs b l
 oS:∀(i b v:Nat) (t:PSample),s.sams[i]? =some b→s.vals[i]? =some v→s.z.samples[i]? =some t→On s.cold w (SamC s.locs b v n t)
 oV:Each s.vals s.z.samples fun b t=>Blk w b tI64 (t.values.map (.int .i64))
 lS:s.sams.length=s.vals.length
 nV:s.vals.Nodup
 nM:s.maps.Nodup
 nF:s.funs.Nodup
 nL:s.locs.Nodup
 sM:∀k u,mget s.kM k=some u→∃(j b:Nat) (m:PMapping),s.maps[j]? =some b∧s.z.mappings[j]? =some m∧u=ptr b∧k=partK m
 sF:∀k u,mget s.kF k=some u→∃(j b:Nat) (m:PFunc),s.funs[j]? =some b∧s.z.funcs[j]? =some m∧u=ptr b∧k=fnK m
 sL:∀k u,mget s.kL k=some u→∃(j b:Nat) (m:PLoc),s.locs[j]? =some b∧s.z.locs[j]? =some m∧u=ptr b∧k=keyL s.z m
 sS:∀k u,mget s.kS k=some u→∃(j b:Nat) (m:PSample),s.sams[j]? =some b∧s.z.samples[j]? =some m∧u=ptr b∧SKey m k
 wz:ZW n s.z
theorem MG.neu {x:PProf} {s:MS} (h:MG w0 x n w s):MGN w0 n w s where
 kp:=h.kp
 c0:=h.c0
 cd:=h.cd
 hl:=h.hl
 hh:=fun b hb=>h.hh b (by
  simp only[List.mem_append,List.mem_cons,List.not_mem_nil,or_false]at hb⊢
  rcases hb with (rfl|rfl|rfl|rfl|rfl|rfl)|hb
  ·simp
  ·simp
  ·simp
  ·simp
  ·simp
  ·simp
  ·exact .inr hb)
 nd:=by
  have:=h.nd
  simp only[List.nodup_cons,List.mem_cons,List.not_mem_nil,or_false,not_or,not_false_eq_true,List.nodup_nil,and_true]at this⊢
  exact ⟨⟨this.1.1,this.1.2.1,this.1.2.2.1⟩,⟨this.2.1.1,this.2.1.2.1⟩,this.2.2.1.1⟩
 bpm:=⟨_,_,_,h.bpm⟩
 prof:=h.prof
 tS:=h.tS
 tL:=h.tL
 tF:=h.tF
 tM:=h.tM
 oT:=h.oT
 oM:=h.oM
 oF:=h.oF
 oL:=h.oL
 oS:=h.oS
 oV:=h.oV
 lS:=h.lS
 nV:=h.nV
 nM:=h.nM
 nF:=h.nF
 nL:=h.nL
 sM:=h.sM
 sF:=h.sF
 sL:=h.sL
 sS:=h.sS
 wz:=h.wz
theorem MGN.next {s:MS} (h:MGN w0 n w s) (x:PProf) {iL iF iM:Nat} (k:KeepX [s.pm] w w') (hpm:Blk w' s.pm tPM [ptr s.pb,.map (some iL),.map (some iF),.map (some iM),.map (some s.mS),.map (some s.mL),.map (some s.mF),.map (some s.mM)])
  (h1:w'.heap[iL]? =some (.map (List.toArray []) 0)) (h2:w'.heap[iF]? =some (.map (List.toArray []) 0)) (h3:w'.heap[iM]? =some (.map (List.toArray []) 0)) (n1:w.heap.size≤iL) (n2:w.heap.size≤iF) (n3:w.heap.size≤iM) (d1:iL≠iF) (d2:iL≠iM) (d3:iF≠iM)
  (c1:s.z.mappings.length≤1000000) (c2:s.z.funcs.length≤1000000) (c3:s.z.locs.length≤1000000):
  MG w0 x n w' { s with iL:=iL,iF:=iF,iM:=iM,jL:=[],jF:=[],jM:=[],hot:=iL::iF::iM::s.hot,cM:=s.z.mappings.length,cF:=s.z.funcs.length,cL:=s.z.locs.length }:=by
 have hh:=h.hh
 simp only[List.mem_append,List.mem_cons,List.not_mem_nil,or_false]at hh
 have hpmh:s.pm∈s.hot:=hh _ (by simp)
 obtain ⟨pa,pb',pc,hpm0⟩:=h.bpm
 have kc:∀(b:Nat) (o:Obj),s.cold b→w.heap[b]? =some o→w'.heap[b]? =some o:=fun b o hb ho=>k.keep b o ho fun hm=>(h.cd b hb).2 (by rw[List.mem_singleton.1 hm];exact hpmh)
 have kb:∀{b T:Nat} {cs:List Value},Blk w b T cs→T≠tPM→Blk w' b T cs:=fun hb n1=>k.blk hb fun hm=>hb.ne hpm0 n1 (List.mem_singleton.1 hm)
 have km:∀{b:Nat} {e:Array MapEntry} {c:Nat},w.heap[b]? =some (.map e c)→w'.heap[b]? =some (.map e c):=fun hb=>k.keep _ _ hb fun hm=>map_neB hb hpm0 (List.mem_singleton.1 hm)
 have kt:∀{κ:Type} {enc:κ→Value} {b:Nat} {ms:List (κ×Value)},TbM enc w b ms→TbM enc w' b ms:=fun ⟨es,ck,q1,q2⟩=>⟨es,ck,km q1,q2⟩
 have hlt:∀b∈s.hot,b<w'.heap.size:=fun b hb=>Nat.lt_of_lt_of_le (h.hl b hb) k.size
 have up:∀{b:Nat},b∈s.hot→b∈iL::iF::iM::s.hot:=fun hb=>List.mem_cons_of_mem _ (List.mem_cons_of_mem _ (List.mem_cons_of_mem _ hb))
 have hmb:∀{b:Nat},b∈[s.mS,s.mL,s.mF,s.mM]→b<w.heap.size:=fun {b} hb=>h.hl b (hh b (by
  simp only[List.mem_cons,List.not_mem_nil,or_false]at hb
  rcases hb with rfl|rfl|rfl|rfl<;>simp))
 have b1:=hmb (b:=s.mS) (by simp)
 have b2:=hmb (b:=s.mL) (by simp)
 have b3:=hmb (b:=s.mF) (by simp)
 have b4:=hmb (b:=s.mM) (by simp)
 obtain ⟨sa,ma,lo,fu,q1,q2,q3,q4,q5⟩:=h.prof
 exact {
  kp:=fun b o ho=>kc b o (h.c0 b (Array.getElem?_eq_some_iff.1 ho).1) (h.kp b o ho)
  c0:=h.c0
  cd:=fun b hb=>⟨Nat.lt_of_lt_of_le (h.cd b hb).1 k.size,fun hm=>by
   have hbl:=(h.cd b hb).1
   rcases List.mem_cons.1 hm with e|hm
   ·omega
   ·rcases List.mem_cons.1 hm with e|hm
    ·omega
    ·rcases List.mem_cons.1 hm with e|hm
     ·omega
     ·exact (h.cd b hb).2 hm⟩
  hl:=fun b hb=>by
   rcases List.mem_cons.1 hb with rfl|hb
   ·exact (Array.getElem?_eq_some_iff.1 h1).1
   ·rcases List.mem_cons.1 hb with rfl|hb
    ·exact (Array.getElem?_eq_some_iff.1 h2).1
    ·rcases List.mem_cons.1 hb with rfl|hb
     ·exact (Array.getElem?_eq_some_iff.1 h3).1
     ·exact hlt b hb
  hh:=fun b hb=>by
   simp only[List.mem_append,List.mem_cons,List.not_mem_nil,or_false]at hb
   rcases hb with (rfl|rfl|rfl|rfl|rfl|rfl|rfl|rfl|rfl)|hb
   ·exact up hpmh
   ·exact up (hh _ (by simp))
   ·exact up (hh _ (by simp))
   ·exact up (hh _ (by simp))
   ·exact up (hh _ (by simp))
   ·exact up (hh _ (by simp))
   ·simp
   ·simp
   ·simp
   ·exact up (hh b (.inr hb))
  nd:=by
   have:=h.nd
   simp only[List.nodup_cons,List.mem_cons,List.not_mem_nil,or_false,not_or,not_false_eq_true,List.nodup_nil,and_true]at this⊢
   obtain ⟨⟨r1,r2,r3⟩,⟨r4,r5⟩,r6⟩:=this
   exact ⟨⟨r1,r2,r3,by omega,by omega,by omega⟩,⟨r4,r5,by omega,by omega,by omega⟩,⟨r6,by omega,by omega,by omega⟩,⟨by omega,by omega,by omega⟩,⟨d1,d2⟩,d3⟩
  bpm:=hpm
  prof:=⟨sa,ma,lo,fu,kb q1 (by decide),q2.mono fun b cs hb hk=>⟨kb hk (by decide),up hb⟩,q3.mono fun b cs hb hk=>⟨kb hk (by decide),up hb⟩,q4.mono fun b cs hb hk=>⟨kb hk (by decide),up hb⟩,q5.mono fun b cs hb hk=>⟨kb hk (by decide),up hb⟩⟩
  tS:=kt h.tS
  tL:=kt h.tL
  tF:=kt h.tF
  tM:=kt h.tM
  uL:=⟨[],0,h1,MEnc.nil⟩
  uF:=⟨[],0,h2,MEnc.nil⟩
  uM:=⟨[],0,h3,MEnc.nil⟩
  oT:=h.oT.keep kc fun _=>id
  oM:=h.oM.mono fun b m q=>q.keep kc fun _=>id
  oF:=h.oF.mono fun b m q=>q.keep kc fun _=>id
  oL:=h.oL.mono fun b m q=>q.keep kc fun _=>id
  oS:=fun i b v t h1 h2 h3=>(h.oS i b v t h1 h2 h3).keep kc fun _=>id
  oV:=⟨h.oV.1,fun i b t hb ht=>kb (h.oV.2 i b t hb ht) (by decide)⟩
  lS:=h.lS
  nV:=h.nV
  nM:=h.nM
  nF:=h.nF
  nL:=h.nL
  sM:=h.sM
  sF:=h.sF
  sL:=h.sL
  sS:=h.sS
  rM:=fun k u hk=>by simp[mget_nil]at hk
  rF:=fun k u hk=>by simp[mget_nil]at hk
  rL:=fun k u hk=>by simp[mget_nil]at hk
  wz:=h.wz
  bM:=⟨Nat.le_refl _,c1⟩
  bF:=⟨Nat.le_refl _,c2⟩
  bL:=⟨Nat.le_refl _,c3⟩ }
theorem MGN.init {ty:List PType} {per:PType} {dr kp:ByteArray} {ti du pe:Int} {pm pb rb mS mL mF mM:Nat} {g0:G} {x0:PProf} (hk:Keep w0 w) (hG:OfS w0 x0 g0) (h1:x0.types=ty) (h2:x0.per=per)
  (hpm:∃a b c,Blk w pm tPM [ptr pb,a,b,c,.map (some mS),.map (some mL),.map (some mF),.map (some mM)]) (hpb:Blk w pb tProf (cProf (hdP ty per dr kp ti du pe) (.slice (some ⟨rb,0,none⟩) g0.types.length g0.types.length) (.slice none 0 0) (.slice none 0 0) (.slice none 0 0) (.slice none 0 0) (.slice none 0 0) g0.per)) (hrb:Blk w rb pVT (g0.types.map ptr))
  (m1:w.heap[mS]? =some (.map (List.toArray []) 0)) (m2:w.heap[mL]? =some (.map (List.toArray []) 0)) (m3:w.heap[mF]? =some (.map (List.toArray []) 0)) (m4:w.heap[mM]? =some (.map (List.toArray []) 0)) (nd:[mS,mL,mF,mM].Nodup)
  (hnew:∀b∈[pm,pb,mS,mL,mF,mM],w0.heap.size≤b) (cL cF cM iL iF iM:Nat):
  MGN w0 n w ⟨pm,pb,g0.per,.slice (some ⟨rb,0,none⟩) g0.types.length g0.types.length,g0.types,mS,mL,mF,mM,iL,iF,iM,[],[],[],[],[],[],[],[],[],[],[],[],cL,cF,cM,hdP ty per dr kp ti du pe,[pm,pb,mS,mL,mF,mM],fun b=>b<w0.heap.size∨b=rb⟩:=by
 have hsz:w0.heap.size≤w.heap.size:=by
  by_cases h0:w0.heap.size=0
  ·omega
  ·have hlt:w0.heap.size - 1<w0.heap.size:=by omega
   have:=(Array.getElem?_eq_some_iff.1 (hk _ _ (Array.getElem?_eq_getElem hlt))).1
   omega
 obtain ⟨a,b,c,hpm⟩:=hpm
 have hrn:rb∉[pm,pb,mS,mL,mF,mM]:=by
  simp only[List.mem_cons,List.not_mem_nil,or_false,not_or]
  exact ⟨fun e=>hrb.ne hpm (show pVT≠tPM by decide) e,fun e=>hrb.ne hpb (show pVT≠tProf by decide) e,fun e=>map_neB m1 hrb e.symm,fun e=>map_neB m2 hrb e.symm,fun e=>map_neB m3 hrb e.symm,fun e=>map_neB m4 hrb e.symm⟩
 exact {
  kp:=hk
  c0:=fun b hb=>.inl hb
  cd:=fun b hb=>by
   rcases hb with hb|rfl
   ·exact ⟨by omega,fun hm=>by have:=hnew b hm;omega⟩
   ·exact ⟨hrb.lt,hrn⟩
  hl:=fun b hb=>by
   simp only[List.mem_cons,List.not_mem_nil,or_false]at hb
   rcases hb with rfl|rfl|rfl|rfl|rfl|rfl
   ·exact hpm.lt
   ·exact hpb.lt
   ·exact (Array.getElem?_eq_some_iff.1 m1).1
   ·exact (Array.getElem?_eq_some_iff.1 m2).1
   ·exact (Array.getElem?_eq_some_iff.1 m3).1
   ·exact (Array.getElem?_eq_some_iff.1 m4).1
  hh:=fun b hb=>by simpa using hb
  nd:=nd
  bpm:=⟨a,b,c,hpm⟩
  prof:=⟨_,_,_,_,hpb,OSp.nil,OSp.nil,OSp.nil,OSp.nil⟩
  tS:=⟨[],0,m1,MEnc.nil⟩
  tL:=⟨[],0,m2,MEnc.nil⟩
  tF:=⟨[],0,m3,MEnc.nil⟩
  tM:=⟨[],0,m4,MEnc.nil⟩
  oT:=fun w' k=>⟨OS.full (k rb _ (.inr rfl) hrb) (by simp),by
   show Each g0.types ty _
   rw[← h1]
   exact hG.types.mono fun b t hb=>k b _ (.inl hb.lt) (hk _ _ hb),by
   show Blk w' g0.per tVT (cVT per)
   rw[← h2]
   exact k _ _ (.inl hG.per.lt) (hk _ _ hG.per)⟩
  oM:=⟨rfl,fun i b m hb=>by simp at hb⟩
  oF:=⟨rfl,fun i b m hb=>by simp at hb⟩
  oL:=⟨rfl,fun i b m hb=>by simp at hb⟩
  oS:=fun i b v t hb=>by simp at hb
  oV:=⟨rfl,fun i b m hb=>by simp at hb⟩
  lS:=rfl
  nV:=List.nodup_nil
  nM:=List.nodup_nil
  nF:=List.nodup_nil
  nL:=List.nodup_nil
  sM:=fun k u hk=>by simp[mget_nil]at hk
  sF:=fun k u hk=>by simp[mget_nil]at hk
  sL:=fun k u hk=>by simp[mget_nil]at hk
  sS:=fun k u hk=>by simp[mget_nil]at hk
  wz:=⟨fun i m hm=>by simp at hm,fun i m hm=>by simp at hm,fun i m hm=>by simp at hm,fun t ht=>by cases ht⟩ }
theorem MGN.keep {s:MS} (h:MGN w0 n w s) (k:KeepX [] w w'):MGN w0 n w' s:=by
 have kh:∀(b:Nat) (o:Obj),w.heap[b]? =some o→w'.heap[b]? =some o:=fun b o ho=>k.keep b o ho (by simp)
 obtain ⟨sa,ma,lo,fu,h1,h2,h3,h4,h5⟩:=h.prof
 obtain ⟨a,b,c,hp⟩:=h.bpm
 exact { h with
  kp:=fun b o ho=>kh b o (h.kp b o ho)
  cd:=fun b hb=>⟨Nat.lt_of_lt_of_le (h.cd b hb).1 k.size,(h.cd b hb).2⟩
  hl:=fun b hb=>Nat.lt_of_lt_of_le (h.hl b hb) k.size
  bpm:=⟨a,b,c,kh _ _ hp⟩
  prof:=⟨sa,ma,lo,fu,kh _ _ h1,h2.keep fun b cs _=>kh b _,h3.keep fun b cs _=>kh b _,h4.keep fun b cs _=>kh b _,h5.keep fun b cs _=>kh b _⟩
  tS:=h.tS.keep (kh _)
  tL:=h.tL.keep (kh _)
  tF:=h.tF.keep (kh _)
  tM:=h.tM.keep (kh _)
  oT:=h.oT.keep (fun b o _=>kh b o) fun _=>id
  oM:=h.oM.mono fun b m q=>q.keep (fun b o _=>kh b o) fun _=>id
  oF:=h.oF.mono fun b m q=>q.keep (fun b o _=>kh b o) fun _=>id
  oL:=h.oL.mono fun b m q=>q.keep (fun b o _=>kh b o) fun _=>id
  oS:=fun i b v t h1 h2 h3=>(h.oS i b v t h1 h2 h3).keep (fun b o _=>kh b o) fun _=>id
  oV:=⟨h.oV.1,fun i b t hb ht=>kh b _ (h.oV.2 i b t hb ht)⟩ }
def gOf (s:MS):G:=⟨s.pb,s.per,s.types,s.maps,s.funs,s.locs,s.sams⟩
theorem MGN.ofS {s:MS} (h:MGN w0 n w s) (hc:s.z.comments=[]):OfS w s.z (gOf s):=by
 obtain ⟨sa,ma,lo,fu,h1,h2,h3,h4,h5⟩:=h.prof
 obtain ⟨t1,t2,t3⟩:=h.oT.now
 refine { prof:=⟨_,sa,ma,lo,fu,_,h1,t1,h2.os,h3.os,h4.os,h5.os,by rw[hc];exact (OSp.nil (φ:=fun _=>True)).os⟩,per:=t3,types:=t2,maps:=h.oM.mono fun b m q=>q.now,funs:=h.oF.mono fun b m q=>q.now,locs:=h.oL.mono fun b m q=>q.now,sams:=?_,nmaps:=h.nM,nfuns:=h.nF,nlocs:=h.nL }
 refine ⟨by show s.sams.length=_;rw[h.lS,h.oV.1],fun i b t hb ht=>?_⟩
 have hv:i<s.vals.length:=by
  have h1:=(List.getElem?_eq_some_iff.1 hb).1
  have h2:=h.lS
  have e:(gOf s).sams.length=s.sams.length:=rfl
  omega
 have hr:=h.oV.2 i _ _ (List.getElem?_eq_getElem hv) ht
 obtain ⟨ls,lm,nm,um,iv,xv,y1,y2,y3,y4,y5,y6,y7⟩:=(h.oS i b _ t hb (List.getElem?_eq_getElem hv) ht).now
 obtain ⟨hn, -⟩:=h.wz.sm t (List.mem_of_getElem? ht)
 exact ⟨ls,_,lm,nm,um,iv,xv,y1,y2,OS.full hr (by rw[List.length_map];omega),y3,y4,y5,y6,y7⟩
def nzs (l:List PSample):Nat:=(l.filter fun t=>decide (t.values≠zeV t.values.length)).length
def nzc (xs:List PProf):Nat:=(xs.map fun x=>nzs x.samples).sum
theorem nzs_le (l:List PSample):nzs l≤l.length:=List.length_filter_le ..
theorem nzs_snoc (l:List PSample) (t:PSample):nzs (l++[t])=nzs l+if t.values=zeV t.values.length then 0 else 1:=by
 unfold nzs
 rw[List.filter_append,List.length_append]
 congr 1
 by_cases h:t.values=zeV t.values.length
 ·rw[if_pos h,List.filter_cons_of_neg (by simp[← h])];rfl
 ·rw[if_neg h,List.filter_cons_of_pos (by simpa using h)];rfl
theorem nzs_lt {l:List PSample} {t:PSample} (ht:t∈l) (hz:t.values=zeV t.values.length):nzs l<l.length:=by
 unfold nzs
 refine Nat.lt_of_le_of_ne (List.length_filter_le ..) fun e=>?_
 have:=List.length_filter_eq_length_iff.1 e t ht
 simp only[decide_eq_true_eq]at this
 exact this hz
theorem sum_take_le {α:Type} (f:α→Nat) (l:List α) (k:Nat):((l.take k).map f).sum≤(l.map f).sum:=by
 conv=>rhs;rw[← List.take_append_drop k l,List.map_append,List.sum_append]
 omega
theorem txA_snoc (F:SmK→ByteArray) (l:List PProf) (x:PProf):txA F (l++[x])=txA F l++txL F x:=by simp[txA]
structure MrgZ (n:Nat) (ty:List PType) (per:PType) (xs:List PProf) (z:PProf):Prop where
 wz:ZW n z
 ty:z.types=ty
 pe:z.per=per
 co:z.comments=[]
 df:z.deflt=⟨#[]⟩
 tx:∀t∈z.samples,TxS t
 sum:∀(F:SmK→ByteArray) (q:ByteArray),sumV n q (txL F z)=sumV n q (txA F xs)
 ns:z.samples.length≤nzc xs
 nm:z.mappings.length≤(xs.map fun x=>x.mappings.length).sum
 nf:z.funcs.length≤(xs.map fun x=>x.funcs.length).sum
 nl:z.locs.length≤(xs.map fun x=>x.locs.length).sum
 wr:IntKind.i64.wrap z.time=z.time∧IntKind.i64.wrap z.dur=z.dur∧IntKind.i64.wrap z.period=z.period
theorem id_nodup {α:Type} {l:List α} {f:α→Int} (h:∀(i:Nat) a,l[i]? =some a→f a=(i:Int)+1):(l.map f).Nodup:=by
 unfold List.Nodup
 rw[List.pairwise_iff_getElem]
 intro i j hi hj hij e
 rw[List.length_map]at hi hj
 rw[List.getElem_map,List.getElem_map]at e
 have h1:=h i _ (List.getElem?_eq_getElem hi)
 have h2:=h j _ (List.getElem?_eq_getElem hj)
 omega
theorem MrgZ.src {ty:List PType} {per:PType} {xs:List PProf} {z:PProf} {g:G} (h:MrgZ n ty per xs z) (hG:OfS w z g) (b1:(xs.map fun x=>x.mappings.length).sum≤10000) (b2:(xs.map fun x=>x.funcs.length).sum≤10000) (b3:(xs.map fun x=>x.locs.length).sum≤10000) (b4:nzc xs≤10000):SrcM w n ty per z g:=by
 have h1:=h.nm
 have h2:=h.nf
 have h3:=h.nl
 have h4:=h.ns
 refine { t:={ of:=hG,idm:=id_nodup fun i m hm=>(h.wz.mp i m hm).1,idf:=id_nodup fun i m hm=>(h.wz.fn i m hm).1,idl:=id_nodup fun i m hm=>(h.wz.lc i m hm).1,wm:=fun m hm=>?_,wf:=fun f hf=>?_,nm:=by omega,nf:=by omega,nl:=by omega },l:=fun l hl=>?_,s:=fun t ht=>?_,ty:=h.ty,pe:=h.pe,co:=h.co,df:=h.df,ns:=by omega,wr:=h.wr }
 ·obtain ⟨i,hi⟩:=List.mem_iff_getElem?.1 hm
  obtain ⟨r1,r2,r3,r4⟩:=h.wz.mp i m hi
  have:=(List.getElem?_eq_some_iff.1 hi).1
  exact ⟨by rw[r1];simp only[IntKind.wrap,IntKind.bits,IntKind.signed];simp;omega,r2,r3,r4⟩
 ·obtain ⟨i,hi⟩:=List.mem_iff_getElem?.1 hf
  exact (h.wz.fn i f hi).2
 ·obtain ⟨i,hi⟩:=List.mem_iff_getElem?.1 hl
  obtain ⟨-,r1,r2,r3,r4⟩:=h.wz.lc i l hi
  exact ⟨r1,r2,r3,r4⟩
 ·obtain ⟨r1,r2,r3,r4,r5,r6⟩:=h.wz.sm t ht
  exact ⟨r1,r2,⟨r3,r4⟩,r5,h.tx t ht⟩
theorem SrcM.samN {ty:List PType} {per:PType} {x:PProf} {g:G} (h:SrcM w n ty per x g):SamN n x:=⟨⟨fun l hl=>⟨(h.l l hl).1,fun m hm=>((h.l l hl).2.2.1 m hm).1⟩⟩,fun t ht=>⟨(h.s t ht).len,(h.s t ht).fit,fun k hk=>((h.s t ht).stk.2 k hk).2⟩⟩
theorem kx_fr0 (h:KeepX [] w w'):Fr 0 [] w w':=⟨h.os,h.tape,h.output,h.size,fun b o hb _=>h.keep b o hb (by simp)⟩
theorem Hp.freshT {w1:World} {W:List Nat} {H:Heap} (h:Hp ⟨w1,B,W⟩ w H) {i:Nat} {y:Ent} (hi:H[i]? =some y) (he:y.ex=true) (hw:y.wr=true) (hT:y.tag∉W):w1.heap.size≤y.b:=by
 rcases h.mayE hi he hw with q|⟨-,q⟩
 ·exact q
 ·exact absurd q hT
set_option maxHeartbeats 16000000 in
theorem merge_c:∀(μ:Nat) (w:World) (v:Value) (n:Nat) (ty:List PType) (per:PType) (xs:List PProf) (gs:List G) (_:OS pProf 1 w v (gs.map fun g=>ptr g.pb)) (_:xs.length=gs.length) (_:0<gs.length) (_:gs.length≤1000) (_:∀(i:Nat) (x:PProf) (g:G),xs[i]? =some x→gs[i]? =some g→SrcM w n ty per x g) (_:ty.length≤1000) (_:n≤60)
  (_:(xs.map fun x=>x.mappings.length).sum≤10000) (_:(xs.map fun x=>x.funcs.length).sum≤10000) (_:(xs.map fun x=>x.locs.length).sum≤10000) (_:nzc xs≤10000) (_:Tabs w) (_:nzc xs≤μ),
  Calls Tryz.prog 14 #[v] w (Ret fun r w'=>(∃(z:PProf) (g:G),r=.tuple #[ptr g.pb,.nilIface]∧OfS w' z g∧MrgZ n ty per xs z)∧Fr 0 [] w w'):=by
 intro μ
 induction μ using Nat.strongRecOn with
 |_ μ ih=>
 intro w v n ty per xs gs hv hl hpos hlen hx hty hn60 sm sf sl sz hT hμ
 have hv0:=hv
 obtain ⟨p,l,c,rfl,hll,hlc,hxv⟩:=hv.openF
 simp only[List.length_map,Nat.mul_one]at hll
 subst hll
 obtain ⟨bs,rfl,hcs⟩:=hxv hpos
 obtain ⟨x0,hx0⟩:∃x0,xs[0]? =some x0:=⟨_,List.getElem?_eq_getElem (by omega)⟩
 have hcell:∀{w2:World} (_:Keep w w2) (k:Nat) (hk:k<gs.length) (w':World),Fm.ok ⟨w2,0,[]⟩ w'→w'.cell? ⟨bs,0+k*1,none⟩=some (ptr (gs[k]).pb):=fun hkk k hk w' hf=>by
  have h1:=hcs ⟨w,0,[]⟩ rfl rfl w ok_refl k (ptr (gs[k]).pb) (by rw[List.getElem?_map,List.getElem?_eq_getElem hk];rfl)
  have h2:=(Keep.trans hkk (Fr.keepAll hf (.inr rfl))).cell h1
  simpa using h2
 refine startJ (args:=[_]) [(0,_)] 0 [] [] func14 rfl ntmps14 rfl rfl .nil ?_
 refine sQ fun K1=>cj_reg (jA (k:=jA (k:=K1 ?_)))
 refine cj_seqF fun K2 hK2=>sQ fun K3=>cj_reg (jM (k:=jE ru41 (k:=jQ (k:=?_))))
 refine j_eqv (u:=.bool false) (by rw[decide_eq_false (by omega)]) ?_
 refine K3 (cj_if_f rfl (cj_skip (ej_then (hK2 _ _ _ (sQ fun K4=>cj_reg (jM (k:=?_)))))))
 refine j_callE (R:=fun w1 r w2=>(∃(pb rb:Nat) (g0:G) (dr kp:ByteArray) (ti du pe:Int),r=.tuple #[ptr pb,.nilIface]∧gs[0]? =some g0∧w1.heap.size≤pb∧w1.heap.size≤rb∧Blk w2 pb tProf (cProf (hdP ty per dr kp ti du pe) (.slice (some ⟨rb,0,none⟩) g0.types.length g0.types.length) (.slice none 0 0) (.slice none 0 0) (.slice none 0 0) (.slice none 0 0) (.slice none 0 0) g0.per)∧
  Blk w2 rb pVT (g0.types.map ptr)∧IntKind.i64.wrap ti=ti∧IntKind.i64.wrap du=du∧IntKind.i64.wrap pe=pe)∧Fr 0 [] w1 w2) call32 rfl rfl (fun w1 hH hf=>heads_c w1 _ n ty per xs gs (hv0.mono (fr_row hf rfl)) hl hpos hlen (fun i x g h1 h2=>(hx i x g h1 h2).keep (Fr.keepAll hf (.inr rfl))) hty) fun w1 r w2 hH1 hf1 hR=>?_
 obtain ⟨⟨pb,rb,g0,dr,kp,ti,du,pe,rfl,hg0,n1,n2,hpb,hrb,wt1,wt2,wt3⟩,hf2⟩:=hR
 have hfw:Fr 0 [] w w2:=frQ hf1 hf2
 have hK2:Keep w w2:=Fr.keepAll hfw (.inr rfl)
 have hS0:=hx 0 x0 g0 hx0 hg0
 have hs1:w.heap.size≤w1.heap.size:=hf1.size
 obtain ⟨tyv,sav,mav,lov,fuv,cov,hpb0,hty0,hsa0,hma0,hlo0,hfu0, -⟩:=hS0.t.of.prof
 obtain ⟨pa,la,ca,rfl, -⟩:=hsa0.openF
 obtain ⟨pm,lm,cm,rfl, -⟩:=hma0.openF
 obtain ⟨pl,ll,cl,rfl, -⟩:=hlo0.openF
 obtain ⟨pf,lf,cf,rfl, -⟩:=hfu0.openF
 have hc0:=mc (f:=⟨w2,0,[]⟩) (hK2 _ _ hpb0) rfl
 have hcell0:∀(w':World),Fm.ok ⟨w2,0,[]⟩ w'→w'.cell? ⟨bs,0+0*1,none⟩=some (ptr g0.pb):=fun w' hf=>by
  have h1:=hcell hK2 0 hpos w' hf
  rw[List.getElem?_eq_getElem hpos]at hg0
  rw[Option.some.inj hg0]at h1
  exact h1
 refine J.begin ⟨w2,0,[]⟩ [] ok_refl .nil ?_
 refine jM (k:=jX (k:=jX (k:=jA (k:=jA (k:=K4 (CJ.t [(0,_),(4,_),(5,_)] (k:=?_)))))))
 refine cj_seqF fun K5 hK5=>sQ fun K6=>cj_reg (jM (k:=?_))
 refine j_val rfl (fun _ _ h=>r_inil ud45 rfl h) (K6 (cj_if_f rfl (cj_skip (ej_then (hK5 _ _ _ (sQ fun K7=>?_))))))
 refine cj_drawM 36 [0,1,2,3,4,5,6,7,9,10,11,12,13,14,15,17,18,19,20,21,22,23,25,26,27,28,29,30,31] [⟨8,33,fun b=>.map (some b),fun b=>mpE b [] 0⟩,⟨16,41,fun b=>.map (some b),fun b=>mpE b [] 0⟩,⟨24,49,fun b=>.map (some b),fun b=>mpE b [] 0⟩,⟨32,57,fun b=>.map (some b),fun b=>mpE b [] 0⟩] (lts [33]++(34,false)::lts [35]) [] rfl (by kernel_rfl) (by kernel_rfl) ?_
 refine dm_val rfl rfl (sub_of [] rfl) (fun _ _ h=>r_move rfl h) ?_
 refine dm_val rfl rfl (sub_of [] rfl) (fun _ _ h=>r_move rfl h) ?_
 refine dm_val rfl rfl (sub_of [] rfl) (fun _ _ h=>r_idxI 0 ru41 so42 rfl rfl rfl rfl hpos h) ?_
 refine dm_ld rfl rfl (sub_of [] rfl) (fun a w ha hS=>r_load ag42 rfl (hcell0 w hS.2) ha) ?_
 refine dm_val rfl rfl (sub_of [] rfl) (fun _ _ h=>r_nil rfl h) ?_
 refine dm_val rfl rfl (sub_of [] rfl) (fun _ _ h=>r_fl (q:=2) (ft:=70) ru75 rfl so70 rfl h) ?_
 refine dm_ld rfl rfl (sub_of [] rfl) (fun a w ha hS=>r_load ag70 rfl (hc0 w (hS.2) 2 _ rfl) ha) ?_
 refine dm_val rfl rfl (sub_of [] rfl) (fun _ _ h=>r_len ru70 rfl h) ?_
 refine dm_val rfl rfl (sub_of [] rfl) (fun _ _ h=>r_move rfl h) ?_
 refine dm_val rfl rfl (sub_of [] rfl) (fun _ _ h=>r_idxI 0 ru41 so42 rfl rfl rfl rfl hpos h) ?_
 refine dm_ld rfl rfl (sub_of [] rfl) (fun a w ha hS=>r_load ag42 rfl (hcell0 w hS.2) ha) ?_
 refine dm_val rfl rfl (sub_of [] rfl) (fun _ _ h=>r_nil rfl h) ?_
 refine dm_val rfl rfl (sub_of [] rfl) (fun _ _ h=>r_fl (q:=4) (ft:=72) ru75 rfl so72 rfl h) ?_
 refine dm_ld rfl rfl (sub_of [] rfl) (fun a w ha hS=>r_load ag72 rfl (hc0 w (hS.2) 4 _ rfl) ha) ?_
 refine dm_val rfl rfl (sub_of [] rfl) (fun _ _ h=>r_len ru72 rfl h) ?_
 refine dm_val rfl rfl (sub_of [] rfl) (fun _ _ h=>r_move rfl h) ?_
 refine dm_val rfl rfl (sub_of [] rfl) (fun _ _ h=>r_idxI 0 ru41 so42 rfl rfl rfl rfl hpos h) ?_
 refine dm_ld rfl rfl (sub_of [] rfl) (fun a w ha hS=>r_load ag42 rfl (hcell0 w hS.2) ha) ?_
 refine dm_val rfl rfl (sub_of [] rfl) (fun _ _ h=>r_nil rfl h) ?_
 refine dm_val rfl rfl (sub_of [] rfl) (fun _ _ h=>r_fl (q:=5) (ft:=73) ru75 rfl so73 rfl h) ?_
 refine dm_ld rfl rfl (sub_of [] rfl) (fun a w ha hS=>r_load ag73 rfl (hc0 w (hS.2) 5 _ rfl) ha) ?_
 refine dm_val rfl rfl (sub_of [] rfl) (fun _ _ h=>r_len ru73 rfl h) ?_
 refine dm_val rfl rfl (sub_of [] rfl) (fun _ _ h=>r_move rfl h) ?_
 refine dm_val rfl rfl (sub_of [] rfl) (fun _ _ h=>r_idxI 0 ru41 so42 rfl rfl rfl rfl hpos h) ?_
 refine dm_ld rfl rfl (sub_of [] rfl) (fun a w ha hS=>r_load ag42 rfl (hcell0 w hS.2) ha) ?_
 refine dm_val rfl rfl (sub_of [] rfl) (fun _ _ h=>r_nil rfl h) ?_
 refine dm_val rfl rfl (sub_of [] rfl) (fun _ _ h=>r_fl (q:=3) (ft:=71) ru75 rfl so71 rfl h) ?_
 refine dm_ld rfl rfl (sub_of [] rfl) (fun a w ha hS=>r_load ag71 rfl (hc0 w (hS.2) 3 _ rfl) ha) ?_
 refine dm_val rfl rfl (sub_of [] rfl) (fun _ _ h=>r_len ru71 rfl h) ?_
 refine dm_set ⟨(sub_of [] rfl),?_,?_,(by simp only[List.map_cons,List.map_nil];decide),(by simp only[List.map_cons,List.map_nil];decide)⟩
 ·intro c hc
  simp only[List.mem_cons,List.not_mem_nil,or_false]at hc
  rcases hc with rfl|rfl|rfl|rfl
  ·refine ⟨_,rfl,fun e' H' K hx hK=>?_⟩
   exact j_mkmap (fun x hx0=>by cases hx0;exact ⟨⟨_,_,ru107⟩,_,_,hx _ _ rfl rfl⟩) rfl fun b=>j_nil (ej_then (hK b))
  ·refine ⟨_,rfl,fun e' H' K hx hK=>?_⟩
   exact j_mkmap (fun x hx0=>by cases hx0;exact ⟨⟨_,_,ru108⟩,_,_,hx _ _ rfl rfl⟩) rfl fun b=>j_nil (ej_then (hK b))
  ·refine ⟨_,rfl,fun e' H' K hx hK=>?_⟩
   exact j_mkmap (fun x hx0=>by cases hx0;exact ⟨⟨_,_,ru109⟩,_,_,hx _ _ rfl rfl⟩) rfl fun b=>j_nil (ej_then (hK b))
  ·refine ⟨_,rfl,fun e' H' K hx hK=>?_⟩
   exact j_mkmap (fun x hx0=>by cases hx0;exact ⟨⟨_,_,ru110⟩,_,_,hx _ _ rfl rfl⟩) rfl fun b=>j_nil (ej_then (hK b))
 intro bs'
 show DJ _ _ _ _ _ _ _ ((33,.map (some (bs' 8)))::(41,.map (some (bs' 16)))::(49,.map (some (bs' 24)))::(57,.map (some (bs' 32)))::_) (mpE (bs' 8) [] 0::mpE (bs' 16) [] 0::mpE (bs' 24) [] 0::mpE (bs' 32) [] 0::[]) _
 generalize bs' 8=bS
 generalize bs' 16=bL
 generalize bs' 24=bF
 generalize bs' 32=bM
 refine dj_val rfl rfl (sub_of [] rfl) (fun _ _ h=>r_build (cs:=[_,(.map none),(.map none),(.map none),_,_,_,_]) bt115 rfl rfl h) (dE (h:=fun Kd=>j_boxA (vs:=[_,_,_,_,_,_,_,_]) rfl rfl fun b59=>Kd (sb []) (dA [] (k:=K7 (sQ fun K8=>sQ fun K9=>cj_reg (jM (k:=jE ru41 (k:=jM (k:=K9 (cj_block ?_))))))))))
 intro v5 hH5 hf5
 have hpm5:=hH5.get (i:=0) rfl rfl
 have m1:=hH5.obj (i:=1) rfl rfl
 have m2:=hH5.obj (i:=2) rfl rfl
 have m3:=hH5.obj (i:=3) rfl rfl
 have m4:=hH5.obj (i:=4) rfl rfl
 have f0:w2.heap.size≤b59:=hH5.freshE (i:=0) rfl rfl rfl
 have f1:w2.heap.size≤bS:=hH5.freshE (i:=1) rfl rfl rfl
 have f2:w2.heap.size≤bL:=hH5.freshE (i:=2) rfl rfl rfl
 have f3:w2.heap.size≤bF:=hH5.freshE (i:=3) rfl rfl rfl
 have f4:w2.heap.size≤bM:=hH5.freshE (i:=4) rfl rfl rfl
 have hnd:[bS,bL,bF,bM].Nodup:=by
  have q1:=hH5.2.2.2.2.2.1 rfl
  have q2:=hH5.2.2.2.2.2.2.2.2.1 rfl
  have q3:=hH5.2.2.2.2.2.2.2.2.2.2.2.1 rfl
  have e1:bL≠bS:=q1 _ (List.mem_cons_self ..) rfl
  have e2:bF≠bS:=q1 _ (List.mem_cons_of_mem _ (List.mem_cons_self ..)) rfl
  have e3:bM≠bS:=q1 _ (List.mem_cons_of_mem _ (List.mem_cons_of_mem _ (List.mem_cons_self ..))) rfl
  have e4:bF≠bL:=q2 _ (List.mem_cons_self ..) rfl
  have e5:bM≠bL:=q2 _ (List.mem_cons_of_mem _ (List.mem_cons_self ..)) rfl
  have e6:bM≠bF:=q3 _ (List.mem_cons_self ..) rfl
  simp only[List.nodup_cons,List.mem_cons,List.not_mem_nil,or_false,not_or,not_false_eq_true,List.nodup_nil,and_true]
  exact ⟨⟨e1.symm,e2.symm,e3.symm⟩,⟨e4.symm,e5.symm⟩,e6.symm⟩
 clear hH5
 have hk5:KeepX [] w v5:=KeepX.of (frQ hfw hf5)
 have hK5:Keep w v5:=Fr.keepAll (frQ hfw hf5) (.inr rfl)
 have hsw:w.heap.size≤w2.heap.size:=hfw.size
 have hI:=MGN.init (n:=n) (ti:=ti) (du:=du) (pe:=pe) (dr:=dr) (kp:=kp) hK5 hS0.t.of hS0.ty hS0.pe ⟨_,_,_,hpm5⟩ (hf5.blk hpb (.inr (by simp))) (hf5.blk hrb (.inr (by simp))) m1 m2 m3 m4 hnd (fun b hb=>by
  simp only[List.mem_cons,List.not_mem_nil,or_false]at hb
  rcases hb with rfl|rfl|rfl|rfl|rfl|rfl<;>omega) 0 0 0 0 0 0
 refine c_loop (σ:=Nat×MS) (fun q=>[(4,ptr pb),(6,ptr b59),(60,.slice (some ⟨bs,0,none⟩) gs.length c),(61,.int .i64 (gs.length:Nat)),(62,.int .i64 (q.1:Nat))])
  (fun q u=>q.1≤gs.length∧MGN w n u q.2∧KeepX [] w u∧(∀b∈q.2.hot,w.heap.size≤b)∧q.2.pm=b59∧q.2.pb=pb∧{ q.2.z with mappings:=[],locs:=[],funcs:=[],samples:=[] }=hdP ty per dr kp ti du pe∧(∀t∈q.2.z.samples,TxS t)∧
   (∀(F:SmK→ByteArray) (qq:ByteArray),sumV n qq (txL F q.2.z)=sumV n qq (txA F (xs.take q.1)))∧q.2.z.samples.length≤nzc (xs.take q.1)∧q.2.z.mappings.length≤((xs.take q.1).map fun x=>x.mappings.length).sum∧q.2.z.funcs.length≤((xs.take q.1).map fun x=>x.funcs.length).sum∧q.2.z.locs.length≤((xs.take q.1).map fun x=>x.locs.length).sum)
  (fun q=>gs.length - q.1) (0,_) ⟨rfl,rfl,rfl,rfl,rfl,trivial⟩
  ⟨Nat.zero_le _,hI,hk5,fun b hb=>by
   simp only[List.mem_cons,List.not_mem_nil,or_false]at hb
   rcases hb with rfl|rfl|rfl|rfl|rfl|rfl<;>omega,rfl,rfl,rfl,fun t ht=>(by cases ht),fun F qq=>rfl,Nat.zero_le _,Nat.zero_le _,Nat.zero_le _,Nat.zero_le _⟩ ?_
 clear hI hk5 hK5 hpm5 m1 m2 m3 m4
 rintro ⟨k,s⟩ u ⟨hk,hMN,hkw,hhw,hspm,hspb,hhd,hTx,hsum,hns,hnm,hnf,hnl⟩ KL hKL
 try dsimp only at hk hMN hhw hspm hspb hhd hTx hsum hns hnm hnf hnl
 have t1:=sum_take_le (fun x:PProf=>x.mappings.length) xs k
 have t2:=sum_take_le (fun x:PProf=>x.funcs.length) xs k
 have t3:=sum_take_le (fun x:PProf=>x.locs.length) xs k
 have t4:nzc (xs.take k)≤nzc xs:=sum_take_le (fun x:PProf=>nzs x.samples) xs k
 obtain ⟨ca1,ca2,ca3,hpm⟩:=hMN.bpm
 rw[hspm]at hpm
 rw[hspb]at hpm
 have hvu:OS pProf 1 u (.slice (some ⟨bs,0,none⟩) gs.length c) (gs.map fun g=>ptr g.pb):=hv0.mono fun b cs hb=>hkw.blk hb (by simp)
 refine C.begin ⟨u,0,[tPM]⟩ (⟨b59,tPM,[ptr pb,ca1,ca2,ca3,.map (some s.mS),.map (some s.mL),.map (some s.mF),.map (some s.mM)],true,true,none⟩::restH u [b59]) ok_refl (Hp.one hpm (Nat.zero_le _) rfl) ?_
 try dsimp only
 refine sQ fun K10=>cj_reg (jS (k:=K10 (sQ fun K11=>?_)))
 refine cj_dec rfl (fun h63=>?_) (fun h63=>?_)
 ·have hk':k<gs.length:=by omega
  have hk1:k<xs.length:=by omega
  obtain ⟨x,hxk⟩:∃x,xs[k]? =some x:=⟨_,List.getElem?_eq_getElem hk1⟩
  obtain ⟨g,hgk⟩:∃g,gs[k]? =some g:=⟨_,List.getElem?_eq_getElem hk'⟩
  have hxe:xs[k]=x:=(List.getElem?_eq_some_iff.1 hxk).2
  have hge:gs[k]=g:=(List.getElem?_eq_some_iff.1 hgk).2
  have hSk:=hx k x g hxk hgk
  obtain ⟨tyv,sav,mav,lov,fuv,cov,hpbk,htyk,hsak,hmak,hlok,hfuk, -⟩:=hSk.t.of.prof
  have hsak0:=hsak
  have hmak0:=hmak
  obtain ⟨pS,lS,cS,rfl,hlS, -,hxS⟩:=hsak.openF
  obtain ⟨pM,lM,cM',rfl,hlM, -,hxM⟩:=hmak.openF
  obtain ⟨pL,lL,cL',rfl, -⟩:=hlok.openF
  obtain ⟨pF,lF,cF',rfl, -⟩:=hfuk.openF
  simp only[List.length_map,Nat.mul_one]at hlS hlM
  subst hlS
  subst hlM
  have hgS:g.sams.length=x.samples.length:=hSk.t.of.sams.1
  have hgM:g.maps.length=x.mappings.length:=hSk.t.of.maps.1
  have hck:=mc (f:=⟨u,0,[tPM]⟩) (hMN.kp _ _ hpbk) rfl
  obtain ⟨_,_,_,eV, -, -,hcsu⟩:=hvu.openF
  cases eV
  obtain ⟨bs2,eB,hcsu⟩:=hcsu hpos
  cases eB
  have hcellk:∀w',Fm.ok ⟨u,0,[tPM]⟩ w'→w'.cell? ⟨bs,0+k*1,none⟩=some (ptr g.pb):=fun w' hf=>by
   have h1:=hcsu ⟨u,0,[tPM]⟩ rfl rfl w' hf k (ptr g.pb) (by rw[List.getElem?_map,hgk];rfl)
   simpa using h1
  refine cj_skip (K11 (sQ fun K12=>cj_block (sQ fun K13=>cj_reg (jJ ru41 so42 (k:=?_)))))
  refine j_valw rfl (fun a w ha hH hf=>r_load ag42 rfl (hcellk w hf) ha) (jA (k:=K13 (sQ fun K14=>cj_reg (jM (k:=jM (k:=jN (k:=jF 4 ru75 so72 (k:=jL ag72 hck 4 (k:=jE ru72 (k:=?_))))))))))
  refine j_mkmap (fun x hx0=>by cases hx0;exact ⟨⟨_,_,ru111⟩,_,_,rfl⟩) rfl fun b72=>?_
  refine jN (k:=jF 1 ru115 so111 (k:=jB [_,_,_,_,_,_,_,_] (_::_::_) 1 so111 (k:=K14 (CJ.t [(4,_),(6,_),(8,_),(60,_),(61,_),(62,_)] (k:=sQ fun K15=>cj_reg (jM (k:=jM (k:=jN (k:=jF 5 ru75 so73 (k:=jL ag73 hck 5 (k:=jE ru73 (k:=?_))))))))))))
  refine j_mkmap (fun x hx0=>by cases hx0;exact ⟨⟨_,_,ru112⟩,_,_,rfl⟩) rfl fun b81=>?_
  refine jN (k:=jF 2 ru115 so112 (k:=jB [_,_,_,_,_,_,_,_] (_::_::_::_) 2 so112 (k:=K15 (sQ fun K16=>cj_reg (jM (k:=jM (k:=jN (k:=jF 3 ru75 so71 (k:=jL ag71 hck 3 (k:=jE ru71 (k:=?_)))))))))))
  refine j_mkmap (fun x hx0=>by cases hx0;exact ⟨⟨_,_,ru113⟩,_,_,rfl⟩) rfl fun b90=>?_
  refine jN (k:=jF 3 ru115 so113 (k:=jB [_,_,_,_,_,_,_,_] (_::_::_::_::_) 3 so113 (k:=K16 (CJ.t [(4,_),(6,_),(8,_),(60,_),(61,_),(62,_)] (k:=sQ fun K17=>sQ fun K18=>?_)))))
  intro u1 hH1 hf1
  have kx1:=Hp.keepL (f:=⟨u,0,[tPM]⟩) (w:=u) (L:=[b59]) (es:=[_,_,_,_]) hH1 hf1
  have g1:=hH1.obj (i:=0) rfl rfl
  have g2:=hH1.obj (i:=1) rfl rfl
  have g3:=hH1.obj (i:=2) rfl rfl
  have n90:u.heap.size≤b90:=Hp.freshT hH1 (i:=0) rfl rfl rfl (show (1000000:Nat)∉[tPM] by decide)
  have n81:u.heap.size≤b81:=Hp.freshT hH1 (i:=1) rfl rfl rfl (show (1000000:Nat)∉[tPM] by decide)
  have n72:u.heap.size≤b72:=Hp.freshT hH1 (i:=2) rfl rfl rfl (show (1000000:Nat)∉[tPM] by decide)
  have d1:b81≠b90:=hH1.2.2.1 rfl _ (List.mem_cons_self ..) rfl
  have d2:b72≠b90:=hH1.2.2.1 rfl _ (List.mem_cons_of_mem _ (List.mem_cons_self ..)) rfl
  have d3:b72≠b81:=hH1.2.2.2.2.2.1 rfl _ (List.mem_cons_self ..) rfl
  obtain ⟨s1,hs1e⟩:∃s1:MS,s1={ s with iL:=b72,iF:=b81,iM:=b90,jL:=[],jF:=[],jM:=[],hot:=b72::b81::b90::s.hot,cM:=s.z.mappings.length,cF:=s.z.funcs.length,cL:=s.z.locs.length }:=⟨_,rfl⟩
  have hM1:MG w x n u1 s1:=by
   rw[hs1e]
   exact hMN.next x (by rw[hspm];exact kx1) (by rw[hspm,hspb];exact hH1.get (i:=3) rfl rfl) g3 g2 g1 n72 n81 n90 d3 d2 d1 (by omega) (by omega) (by omega)
  have hz1:s1.z=s.z:=by rw[hs1e]
  have hp1:s1.pm=b59∧s1.pb=pb:=by rw[hs1e];exact ⟨hspm,hspb⟩
  have hcc1:s1.cM=s.z.mappings.length∧s1.cF=s.z.funcs.length∧s1.cL=s.z.locs.length:=by rw[hs1e];exact ⟨rfl,rfl,rfl⟩
  have hhw1:∀b∈s1.hot,w.heap.size≤b:=fun b hb=>by
   rw[hs1e]at hb
   have:=hkw.size
   rcases List.mem_cons.1 hb with rfl|hb
   ·omega
   ·rcases List.mem_cons.1 hb with rfl|hb
    ·omega
    ·rcases List.mem_cons.1 hb with rfl|hb
     ·omega
     ·exact hhw b hb
  have hkw1:KeepX [] w u1:=(hkw.trans kx1).drop fun b hb=>.inr (by
   simp only[List.nil_append,List.mem_singleton]at hb
   rw[hb, ← hspm];exact hhw _ (hMN.hh _ (by simp)))
  clear hH1 g1 g2 g3 hs1e kx1
  have hcp:=mc (f:=⟨u1,0,[]⟩) hM1.bpm rfl
  rw[hp1.1]at hcp
  have hck:=mc (f:=⟨u1,0,[]⟩) (hM1.kp _ _ hpbk) rfl
  obtain ⟨eM,kM,hmM,hMM⟩:=hM1.tM
  refine C.begin ⟨u1,0,[]⟩ [] ok_refl .nil ?_
  refine cj_reg (jM (k:=jN (k:=jF 7 ru115 so110 (k:=jL ag110 hcp 7 (k:=?_)))))
  refine j_valw rfl (fun a w' ha hH hf=>r_mlenM ru110 rfl ha (.inr ⟨_,rfl,(Fr.keepAll hf (.inr rfl)) _ _ hmM⟩)) (jQ (k:=jM (k:=?_)))
  refine j_split (t:=99) rfl (fun hg99=>?_) (fun hg99=>?_)
  ·refine j_gt rfl rfl (jM (k:=?_))
   refine j_gt rfl rfl (jN (k:=?_))
   refine j_gt rfl rfl (jF 3 ru75 so71 (k:=?_))
   refine j_gt rfl rfl (jL ag71 hck 3 (k:=?_))
   refine j_gt rfl rfl (jE ru71 (k:=?_))
   refine j_gt rfl rfl (jG (k:=jT (k:=K18 (CJ.t [(4,_),(6,_),(8,_),(60,_),(61,_),(62,_),(106,_)] (k:=?_)))))
   refine cj_if rfl (fun h106=>?_) (fun h106=>?_)
   ·have hmp:0<x.mappings.length:=by have:=of_decide_eq_true h106;omega
    obtain ⟨bm0,hbm0⟩:∃b,g.maps[0]? =some b:=⟨_,List.getElem?_eq_getElem (by omega)⟩
    obtain ⟨bq,rfl,hqc⟩:=hxM (by omega)
    have hcellm:∀w',Fm.ok ⟨u1,0,[]⟩ w'→w'.cell? ⟨bq,0+0*1,none⟩=some (ptr bm0):=fun w' hf=>by
     have h1:=hqc ⟨w,0,[]⟩ rfl rfl w ok_refl 0 (ptr bm0) (by rw[List.getElem?_map,hbm0];rfl)
     exact (Keep.trans hM1.kp (Fr.keepAll hf (.inr rfl))).cell h1
    have hpz:ptrAt g.maps ((0:Nat):Int)=ptr bm0:=ptrAt_nat hbm0
    refine cj_reg (jM (k:=jM (k:=jN (k:=jF 3 ru75 so71 (k:=jL ag71 hck 3 (k:=?_))))))
    refine j_val rfl (fun _ _ h=>r_idxI 0 ru71 so79 rfl rfl rfl rfl (by omega) h) (j_valw rfl (fun a w ha hH hf=>r_load ag79 rfl (hcellm w hf) ha) ?_)
    refine j_callE (R:=fun w3 v w4=>∃(s':MS) (j o:Int),v=encMI (ptrAt s'.maps j) o∧MG w x n w4 s'∧MStep w3 s1 w4 s') call33 rfl rfl (fun w3 hH hf=>by
     have:=mapMapping_c w w3 x g n s1 ((0:Nat):Int) (hM1.keep (KeepX.of hf) (by simp)) hSk.t (by omega)
     rw[hp1.1,hpz]at this
     exact this.mono (Ret.mono fun v w4 hR=>by obtain ⟨s',j,o,r1,r2,r3, -⟩:=hR;exact ⟨s',j,o,r1,r2,r3⟩)) fun w3 v w4 hH3 hf3 hR=>?_
    obtain ⟨s2,_,_,rfl,hM2,hS2'⟩:=hR
    have hS2:SStep u1 s1 w4 s2:=(MStep.after (KeepX.of hf3) hS2').s
    have hz2:s2.z.samples=s.z.samples:=by rw[hS2'.smp,hz1]
    have hck:=mc (f:=⟨w4,0,[]⟩) (hM2.kp _ _ hpbk) rfl
    refine J.begin ⟨w4,0,[]⟩ [] ok_refl .nil ?_
    refine K17 (sQ fun K19=>cj_reg (jM (k:=jN (k:=jF 2 ru75 so70 (k:=jL ag70 hck 2 (k:=jE ru70 (k:=jM (k:=K19 (CJ.t [(4,_),(6,_),(60,_),(61,_),(62,_),(118,_),(119,_),(120,_)] (k:=cj_block ?_))))))))))
    intro v1 hHv1 hfv1
    have hkv1:KeepX [] w4 v1:=KeepX.of hfv1
    have hM3:MG w x n v1 s2:=hM2.keep hkv1 (by simp)
    have hS3:SStep u1 s1 v1 s2:={ hS2 with kx:=(hS2.kx.trans hkv1).drop fun b hb=>.inl (by simpa using hb) }
    have hg3:Grows s.z s2.z:=by rw[← hz1];exact hS2.gz
    clear hHv1
    refine c_loop (σ:=Nat×MS) (fun q=>[(4,ptr pb),(6,ptr b59),(60,.slice (some ⟨bs,0,none⟩) gs.length c),(61,.int .i64 (gs.length:Nat)),(62,.int .i64 (k:Nat)),(118,.slice pS g.sams.length cS),(119,.int .i64 (g.sams.length:Nat)),(120,.int .i64 (q.1:Nat))])
     (fun q u=>q.1≤x.samples.length∧MG w x n u q.2∧SStep u1 s1 u q.2∧(∀t∈q.2.z.samples,TxS t)∧(∀(F:SmK→ByteArray) (qq:ByteArray),sumV n qq (txL F q.2.z)=sumV n qq (txA F (xs.take k)++(x.samples.take q.1).map fun t=>(F (Go.Fw.smK x t),t.values)))∧q.2.z.samples.length≤nzc (xs.take k)+nzs (x.samples.take q.1))
     (fun q=>x.samples.length - q.1) (0,s2) ⟨rfl,rfl,rfl,rfl,rfl,rfl,rfl,rfl,trivial⟩
     ⟨Nat.zero_le _,hM3,hS3,fun t ht=>hTx t (by rw[← hz2];exact ht),fun F qq=>by
      show sumV n qq (txL F s2.z)=sumV n qq (txA F (xs.take k)++[])
      rw[List.append_nil, ← hsum F qq,txL_grow (SamN.mk hMN.wz.tab fun t ht=>by obtain ⟨r1,r2, -,r4, -⟩:=hMN.wz.sm t ht;exact ⟨r1,r2,fun k hk=>(r4 k hk).2⟩) hg3 hz2],by show s2.z.samples.length≤_;rw[hz2];exact Nat.le_trans hns (Nat.le_add_right _ _)⟩ ?_
    clear hM3 hS3
    rintro ⟨i,s3⟩ u3 ⟨hi,hM3,hS3,hTx3,hsum3,hns3⟩ KL1 hKL1
    try dsimp only at hi hM3 hS3 hTx3 hsum3 hns3
    refine C.begin ⟨u3,0,[]⟩ [] ok_refl .nil ?_
    try dsimp only
    refine sQ fun K20=>cj_reg (jS (k:=K20 (sQ fun K21=>?_)))
    refine cj_dec rfl (fun h121=>?_) (fun h121=>?_)
    ·have hi':i<x.samples.length:=by omega
     have hig:i<g.sams.length:=by omega
     obtain ⟨t,htx⟩:∃t,x.samples[i]? =some t:=⟨_,List.getElem?_eq_getElem hi'⟩
     obtain ⟨bt,hbt⟩:∃b,g.sams[i]? =some b:=⟨_,List.getElem?_eq_getElem hig⟩
     have hte:x.samples[i]=t:=(List.getElem?_eq_some_iff.1 htx).2
     have htS:=hSk.s t (List.mem_of_getElem? htx)
     obtain ⟨lvt,vvt,lmt,nmt,umt,ivt,xvt,hbt0, -,hvt0, -⟩:=hSk.t.of.sams.2 _ _ _ hbt htx
     obtain ⟨pVt,lVt,cVt,rfl,hlVt, -, -⟩:=hvt0.openF
     simp only[List.length_map,Nat.mul_one]at hlVt
     subst hlVt
     obtain ⟨_,_,_,eS, -, -,hxS2⟩:=hsak0.openF
     cases eS
     obtain ⟨bq2,rfl,hqs⟩:=hxS2 (by omega)
     have hcells:∀w',Fm.ok ⟨u3,0,[]⟩ w'→w'.cell? ⟨bq2,0+i*1,none⟩=some (ptr bt):=fun w' hf=>by
      have h1:=hqs ⟨w,0,[]⟩ rfl rfl w ok_refl i (ptr bt) (by rw[List.getElem?_map,hbt];rfl)
      have h2:=(Keep.trans hM3.kp (Fr.keepAll hf (.inr rfl))).cell h1
      simpa using h2
     have hsn:=hSk.ns
     have hp3:s3.pm=b59:=hS3.pm.trans hp1.1
     have hls:nzs (x.samples.take i)≤10000:=Nat.le_trans (nzs_le _) (by rw[List.length_take];have:=hSk.ns;omega)
     refine cj_skip (K21 (sQ fun K22=>cj_block (sQ fun K23=>cj_reg (jJ ru70 so98 (k:=?_)))))
     refine j_valw rfl (fun a w ha hH hf=>r_load ag98 rfl (hcells w hf) ha) (jA (k:=K23 (sQ fun K24=>cj_reg (jM (k:=?_)))))
     refine j_callQ (φ:=fun v=>v=.bool (decide (t.values=zeV t.values.length))) call34 rfl rfl (fun w' hH hf=>isZero_c w' w bt lvt lmt nmt umt ivt xvt pVt cVt t.values (Keep.trans hM3.kp (Fr.keepAll hf (.inr rfl))) hbt0 hvt0 (by rw[htS.len];omega)) fun v hv=>?_
     subst hv
     refine jU (k:=K24 ?_)
     refine cj_if rfl (fun h126=>?_) (fun h126=>?_)
     ·have hnz:t.values≠zeV t.values.length:=by simpa using h126
      refine cj_reg (jM (k:=jM (k:=?_)))
      refine j_callE (R:=fun w3 _ w4=>∃s':MS,MG w x n w4 s'∧SStep w3 s3 w4 s'∧s'.z.samples.length≤s3.z.samples.length+1∧(∀u∈s'.z.samples,TxS u)∧
       ∀(F:SmK→ByteArray) (q:ByteArray),sumV n q (txL F s'.z)=if F (Go.Fw.smK x t)=q then addV (sumV n q (txL F s3.z)) t.values else sumV n q (txL F s3.z)) call35 rfl rfl (fun w3 hH hf=>by
       have:=mapSample_c w w3 x g n s3 i bt t (hM3.keep (KeepX.of hf) (by simp)) hSk.t hSk.l hT hbt htx htS hn60 (by omega) hTx3
       rw[hp3]at this
       exact this) fun w3 v w5 hH3 hf3 hR=>?_
      obtain ⟨s5,y1,y2,y3,y4,y5⟩:=hR
      have y2':SStep u1 s1 w5 s5:=hS3.trans (SStep.after (KeepX.of hf3) y2)
      refine J.begin ⟨w5,0,[]⟩ [] ok_refl .nil ?_
      refine K22 (CJ.t [(4,_),(6,_),(60,_),(61,_),(62,_),(118,_),(119,_),(120,_)] (k:=cj_reg (jI (k:=jM (k:=j_nil (ej_then ?_))))))
      have htl:(x.samples.take (i+1)).map (fun t=>t)=(x.samples.take i)++[t]:=by rw[List.map_id', ← List.take_append_getElem hi',hte]
      rw[List.map_id']at htl
      have hLl:∀F:SmK→ByteArray,∀p∈txA F (xs.take k)++(x.samples.take i).map (fun t=>(F (Go.Fw.smK x t),t.values)),p.2.length=n:=fun F p hp=>by
       rcases List.mem_append.1 hp with hp|hp
       ·exact txA_len (fun y hy=>by
         obtain ⟨j,hj⟩:=List.mem_iff_getElem?.1 (List.mem_of_mem_take hy)
         have hjl:=(List.getElem?_eq_some_iff.1 hj).1
         exact (hx j y _ hj (List.getElem?_eq_getElem (by omega))).samN) p hp
       ·obtain ⟨t',ht',rfl⟩:=List.mem_map.1 hp
        exact (hSk.s t' (List.mem_of_mem_take ht')).len
      first
      |exact fun w' hH hf=>hKL1 (i+1,s5) _ w' ⟨hi',y1.keep (KeepX.of hf) (by simp),{ y2' with kx:=(y2'.kx.trans (KeepX.of hf)).drop fun b hb=>.inl (by simpa using hb) },y4,fun F qq=>by
         show sumV n qq (txL F s5.z)=sumV n qq (txA F (xs.take k)++(x.samples.take (i+1)).map fun t=>(F (Go.Fw.smK x t),t.values))
         rw[htl,List.map_append, ← List.append_assoc,y5 F qq]
         exact sum_one (hLl F) htS.len htS.fit (hsum3 F qq),by
         show s5.z.samples.length≤nzc (xs.take k)+nzs (x.samples.take (i+1))
         rw[htl,nzs_snoc,if_neg hnz];omega⟩ (by simp only;omega) ⟨rfl,rfl,rfl,rfl,rfl,rfl,rfl,rfl,trivial⟩
      |exact fun w' hH hf=>hKL1 (i+1,s3) _ w' ⟨hi',hM3.keep (KeepX.of hf) (by simp),{ hS3 with kx:=(hS3.kx.trans (KeepX.of hf)).drop fun b hb=>.inl (by simpa using hb) },hTx3,fun F qq=>by
         show sumV n qq (txL F s3.z)=sumV n qq (txA F (xs.take k)++(x.samples.take (i+1)).map fun t=>(F (Go.Fw.smK x t),t.values))
         rw[htl,List.map_append, ← List.append_assoc,hsum3 F qq]
         exact (sum_zero (hLl F) (by show t.values=zeV n;rw[← htS.len];exact hzz)).symm,by
         show s3.z.samples.length≤nzc (xs.take k)+nzs (x.samples.take (i+1))
         rw[htl,nzs_snoc,if_pos hzz];omega⟩ (by simp only;omega) ⟨rfl,rfl,rfl,rfl,rfl,rfl,rfl,rfl,trivial⟩
     ·have hzz:t.values=zeV t.values.length:=by simpa using h126
      refine cj_skip (K22 (cj_reg (jI (k:=jM (k:=j_nil (ej_then ?_))))))
      have htl:(x.samples.take (i+1)).map (fun t=>t)=(x.samples.take i)++[t]:=by rw[List.map_id', ← List.take_append_getElem hi',hte]
      rw[List.map_id']at htl
      have hLl:∀F:SmK→ByteArray,∀p∈txA F (xs.take k)++(x.samples.take i).map (fun t=>(F (Go.Fw.smK x t),t.values)),p.2.length=n:=fun F p hp=>by
       rcases List.mem_append.1 hp with hp|hp
       ·exact txA_len (fun y hy=>by
         obtain ⟨j,hj⟩:=List.mem_iff_getElem?.1 (List.mem_of_mem_take hy)
         have hjl:=(List.getElem?_eq_some_iff.1 hj).1
         exact (hx j y _ hj (List.getElem?_eq_getElem (by omega))).samN) p hp
       ·obtain ⟨t',ht',rfl⟩:=List.mem_map.1 hp
        exact (hSk.s t' (List.mem_of_mem_take ht')).len
      first
      |exact fun w' hH hf=>hKL1 (i+1,s5) _ w' ⟨hi',y1.keep (KeepX.of hf) (by simp),{ y2' with kx:=(y2'.kx.trans (KeepX.of hf)).drop fun b hb=>.inl (by simpa using hb) },y4,fun F qq=>by
         show sumV n qq (txL F s5.z)=sumV n qq (txA F (xs.take k)++(x.samples.take (i+1)).map fun t=>(F (Go.Fw.smK x t),t.values))
         rw[htl,List.map_append, ← List.append_assoc,y5 F qq]
         exact sum_one (hLl F) htS.len htS.fit (hsum3 F qq),by
         show s5.z.samples.length≤nzc (xs.take k)+nzs (x.samples.take (i+1))
         rw[htl,nzs_snoc,if_neg hnz];omega⟩ (by simp only;omega) ⟨rfl,rfl,rfl,rfl,rfl,rfl,rfl,rfl,trivial⟩
      |exact fun w' hH hf=>hKL1 (i+1,s3) _ w' ⟨hi',hM3.keep (KeepX.of hf) (by simp),{ hS3 with kx:=(hS3.kx.trans (KeepX.of hf)).drop fun b hb=>.inl (by simpa using hb) },hTx3,fun F qq=>by
         show sumV n qq (txL F s3.z)=sumV n qq (txA F (xs.take k)++(x.samples.take (i+1)).map fun t=>(F (Go.Fw.smK x t),t.values))
         rw[htl,List.map_append, ← List.append_assoc,hsum3 F qq]
         exact (sum_zero (hLl F) (by show t.values=zeV n;rw[← htS.len];exact hzz)).symm,by
         show s3.z.samples.length≤nzc (xs.take k)+nzs (x.samples.take (i+1))
         rw[htl,nzs_snoc,if_pos hzz];omega⟩ (by simp only;omega) ⟨rfl,rfl,rfl,rfl,rfl,rfl,rfl,rfl,trivial⟩
    ·have hie:i=x.samples.length:=by omega
     subst hie
     rw[List.take_length]at hns3
     have htx1:xs.take (k+1)=xs.take k++[x]:=by rw[← List.take_append_getElem hk1,hxe]
     refine cj_exit (K12 (cj_reg (jI (k:=jM (k:=j_nil (ej_then ?_))))))
     exact fun w' hH hf=>by
      have hkf:KeepX [] u3 w':=KeepX.of hf
      have hMw:=hM3.keep hkf (by simp)
      have b1:=hMw.bM
      have b2:=hMw.bF
      have b3:=hMw.bL
      have j1:=hMw.jm
      have j2:=hMw.jf
      have j3:=hMw.jl
      have c1:=hS3.cc
      refine hKL (k+1,s3) _ w' ⟨hk',hMw.neu,((hkw1.trans hS3.kx).drop fun b hb=>.inr (hhw1 b (by simpa using hb))).thenF hf,fun b hb=>(hS3.hs b hb).elim (hhw1 b) fun q=>Nat.le_trans hkw1.size q,hS3.pm.trans hp1.1,hS3.pb.trans hp1.2,?_,hTx3,fun F qq=>?_,?_,?_,?_,?_⟩ (by simp only;omega) sR
      ·have:=hS3.hd
       rw[hz1]at this
       exact this.trans hhd
      ·show sumV n qq (txL F s3.z)=sumV n qq (txA F (xs.take (k+1)))
       rw[htx1,txA_snoc,hsum3 F qq,List.take_length];rfl
      ·show s3.z.samples.length≤nzc (xs.take (k+1))
       have:nzc (xs.take (k+1))=nzc (xs.take k)+nzs x.samples:=by rw[htx1];simp[nzc]
       omega
      ·show s3.z.mappings.length≤((xs.take (k+1)).map fun x=>x.mappings.length).sum
       rw[htx1,List.map_append,List.sum_append];simp only[List.map_cons,List.map_nil,List.sum_cons,List.sum_nil];omega
      ·show s3.z.funcs.length≤((xs.take (k+1)).map fun x=>x.funcs.length).sum
       rw[htx1,List.map_append,List.sum_append];simp only[List.map_cons,List.map_nil,List.sum_cons,List.sum_nil];omega
      ·show s3.z.locs.length≤((xs.take (k+1)).map fun x=>x.locs.length).sum
       rw[htx1,List.map_append,List.sum_append];simp only[List.map_cons,List.map_nil,List.sum_cons,List.sum_nil];omega
   ·obtain ⟨w4,hw4⟩:∃w4,w4=u1:=⟨_,rfl⟩
    obtain ⟨s2,hs2⟩:∃s2,s2=s1:=⟨_,rfl⟩
    have hM2:MG w x n w4 s2:=by rw[hw4,hs2];exact hM1
    have hS2:SStep u1 s1 w4 s2:=by rw[hw4,hs2];exact SStep.refl
    have hz2:s2.z.samples=s.z.samples:=by rw[hs2,hz1]
    rw[← hw4]
    rw[← hw4]at hck
    refine cj_skip (K17 (sQ fun K25=>cj_reg (jM (k:=jN (k:=jF 2 ru75 so70 (k:=jL ag70 hck 2 (k:=jE ru70 (k:=jM (k:=K25 (CJ.t [(4,_),(6,_),(60,_),(61,_),(62,_),(118,_),(119,_),(120,_)] (k:=cj_block ?_)))))))))))
    intro v1 hHv1 hfv1
    have hkv1:KeepX [] w4 v1:=KeepX.of hfv1
    have hM3:MG w x n v1 s2:=hM2.keep hkv1 (by simp)
    have hS3:SStep u1 s1 v1 s2:={ hS2 with kx:=(hS2.kx.trans hkv1).drop fun b hb=>.inl (by simpa using hb) }
    have hg3:Grows s.z s2.z:=by rw[← hz1];exact hS2.gz
    clear hHv1
    refine c_loop (σ:=Nat×MS) (fun q=>[(4,ptr pb),(6,ptr b59),(60,.slice (some ⟨bs,0,none⟩) gs.length c),(61,.int .i64 (gs.length:Nat)),(62,.int .i64 (k:Nat)),(118,.slice pS g.sams.length cS),(119,.int .i64 (g.sams.length:Nat)),(120,.int .i64 (q.1:Nat))])
     (fun q u=>q.1≤x.samples.length∧MG w x n u q.2∧SStep u1 s1 u q.2∧(∀t∈q.2.z.samples,TxS t)∧(∀(F:SmK→ByteArray) (qq:ByteArray),sumV n qq (txL F q.2.z)=sumV n qq (txA F (xs.take k)++(x.samples.take q.1).map fun t=>(F (Go.Fw.smK x t),t.values)))∧q.2.z.samples.length≤nzc (xs.take k)+nzs (x.samples.take q.1))
     (fun q=>x.samples.length - q.1) (0,s2) ⟨rfl,rfl,rfl,rfl,rfl,rfl,rfl,rfl,trivial⟩
     ⟨Nat.zero_le _,hM3,hS3,fun t ht=>hTx t (by rw[← hz2];exact ht),fun F qq=>by
      show sumV n qq (txL F s2.z)=sumV n qq (txA F (xs.take k)++[])
      rw[List.append_nil, ← hsum F qq,txL_grow (SamN.mk hMN.wz.tab fun t ht=>by obtain ⟨r1,r2, -,r4, -⟩:=hMN.wz.sm t ht;exact ⟨r1,r2,fun k hk=>(r4 k hk).2⟩) hg3 hz2],by show s2.z.samples.length≤_;rw[hz2];exact Nat.le_trans hns (Nat.le_add_right _ _)⟩ ?_
    clear hM3 hS3
    rintro ⟨i,s3⟩ u3 ⟨hi,hM3,hS3,hTx3,hsum3,hns3⟩ KL1 hKL1
    try dsimp only at hi hM3 hS3 hTx3 hsum3 hns3
    refine C.begin ⟨u3,0,[]⟩ [] ok_refl .nil ?_
    try dsimp only
    refine sQ fun K26=>cj_reg (jS (k:=K26 (sQ fun K27=>?_)))
    refine cj_dec rfl (fun h121=>?_) (fun h121=>?_)
    ·have hi':i<x.samples.length:=by omega
     have hig:i<g.sams.length:=by omega
     obtain ⟨t,htx⟩:∃t,x.samples[i]? =some t:=⟨_,List.getElem?_eq_getElem hi'⟩
     obtain ⟨bt,hbt⟩:∃b,g.sams[i]? =some b:=⟨_,List.getElem?_eq_getElem hig⟩
     have hte:x.samples[i]=t:=(List.getElem?_eq_some_iff.1 htx).2
     have htS:=hSk.s t (List.mem_of_getElem? htx)
     obtain ⟨lvt,vvt,lmt,nmt,umt,ivt,xvt,hbt0, -,hvt0, -⟩:=hSk.t.of.sams.2 _ _ _ hbt htx
     obtain ⟨pVt,lVt,cVt,rfl,hlVt, -, -⟩:=hvt0.openF
     simp only[List.length_map,Nat.mul_one]at hlVt
     subst hlVt
     obtain ⟨_,_,_,eS, -, -,hxS2⟩:=hsak0.openF
     cases eS
     obtain ⟨bq2,rfl,hqs⟩:=hxS2 (by omega)
     have hcells:∀w',Fm.ok ⟨u3,0,[]⟩ w'→w'.cell? ⟨bq2,0+i*1,none⟩=some (ptr bt):=fun w' hf=>by
      have h1:=hqs ⟨w,0,[]⟩ rfl rfl w ok_refl i (ptr bt) (by rw[List.getElem?_map,hbt];rfl)
      have h2:=(Keep.trans hM3.kp (Fr.keepAll hf (.inr rfl))).cell h1
      simpa using h2
     have hsn:=hSk.ns
     have hp3:s3.pm=b59:=hS3.pm.trans hp1.1
     have hls:nzs (x.samples.take i)≤10000:=Nat.le_trans (nzs_le _) (by rw[List.length_take];have:=hSk.ns;omega)
     refine cj_skip (K27 (sQ fun K28=>cj_block (sQ fun K29=>cj_reg (jJ ru70 so98 (k:=?_)))))
     refine j_valw rfl (fun a w ha hH hf=>r_load ag98 rfl (hcells w hf) ha) (jA (k:=K29 (sQ fun K30=>cj_reg (jM (k:=?_)))))
     refine j_callQ (φ:=fun v=>v=.bool (decide (t.values=zeV t.values.length))) call34 rfl rfl (fun w' hH hf=>isZero_c w' w bt lvt lmt nmt umt ivt xvt pVt cVt t.values (Keep.trans hM3.kp (Fr.keepAll hf (.inr rfl))) hbt0 hvt0 (by rw[htS.len];omega)) fun v hv=>?_
     subst hv
     refine jU (k:=K30 ?_)
     refine cj_if rfl (fun h126=>?_) (fun h126=>?_)
     ·have hnz:t.values≠zeV t.values.length:=by simpa using h126
      refine cj_reg (jM (k:=jM (k:=?_)))
      refine j_callE (R:=fun w3 _ w4=>∃s':MS,MG w x n w4 s'∧SStep w3 s3 w4 s'∧s'.z.samples.length≤s3.z.samples.length+1∧(∀u∈s'.z.samples,TxS u)∧
       ∀(F:SmK→ByteArray) (q:ByteArray),sumV n q (txL F s'.z)=if F (Go.Fw.smK x t)=q then addV (sumV n q (txL F s3.z)) t.values else sumV n q (txL F s3.z)) call35 rfl rfl (fun w3 hH hf=>by
       have:=mapSample_c w w3 x g n s3 i bt t (hM3.keep (KeepX.of hf) (by simp)) hSk.t hSk.l hT hbt htx htS hn60 (by omega) hTx3
       rw[hp3]at this
       exact this) fun w3 v w5 hH3 hf3 hR=>?_
      obtain ⟨s5,y1,y2,y3,y4,y5⟩:=hR
      have y2':SStep u1 s1 w5 s5:=hS3.trans (SStep.after (KeepX.of hf3) y2)
      refine J.begin ⟨w5,0,[]⟩ [] ok_refl .nil ?_
      refine K28 (CJ.t [(4,_),(6,_),(60,_),(61,_),(62,_),(118,_),(119,_),(120,_)] (k:=cj_reg (jI (k:=jM (k:=j_nil (ej_then ?_))))))
      have htl:(x.samples.take (i+1)).map (fun t=>t)=(x.samples.take i)++[t]:=by rw[List.map_id', ← List.take_append_getElem hi',hte]
      rw[List.map_id']at htl
      have hLl:∀F:SmK→ByteArray,∀p∈txA F (xs.take k)++(x.samples.take i).map (fun t=>(F (Go.Fw.smK x t),t.values)),p.2.length=n:=fun F p hp=>by
       rcases List.mem_append.1 hp with hp|hp
       ·exact txA_len (fun y hy=>by
         obtain ⟨j,hj⟩:=List.mem_iff_getElem?.1 (List.mem_of_mem_take hy)
         have hjl:=(List.getElem?_eq_some_iff.1 hj).1
         exact (hx j y _ hj (List.getElem?_eq_getElem (by omega))).samN) p hp
       ·obtain ⟨t',ht',rfl⟩:=List.mem_map.1 hp
        exact (hSk.s t' (List.mem_of_mem_take ht')).len
      first
      |exact fun w' hH hf=>hKL1 (i+1,s5) _ w' ⟨hi',y1.keep (KeepX.of hf) (by simp),{ y2' with kx:=(y2'.kx.trans (KeepX.of hf)).drop fun b hb=>.inl (by simpa using hb) },y4,fun F qq=>by
         show sumV n qq (txL F s5.z)=sumV n qq (txA F (xs.take k)++(x.samples.take (i+1)).map fun t=>(F (Go.Fw.smK x t),t.values))
         rw[htl,List.map_append, ← List.append_assoc,y5 F qq]
         exact sum_one (hLl F) htS.len htS.fit (hsum3 F qq),by
         show s5.z.samples.length≤nzc (xs.take k)+nzs (x.samples.take (i+1))
         rw[htl,nzs_snoc,if_neg hnz];omega⟩ (by simp only;omega) ⟨rfl,rfl,rfl,rfl,rfl,rfl,rfl,rfl,trivial⟩
      |exact fun w' hH hf=>hKL1 (i+1,s3) _ w' ⟨hi',hM3.keep (KeepX.of hf) (by simp),{ hS3 with kx:=(hS3.kx.trans (KeepX.of hf)).drop fun b hb=>.inl (by simpa using hb) },hTx3,fun F qq=>by
         show sumV n qq (txL F s3.z)=sumV n qq (txA F (xs.take k)++(x.samples.take (i+1)).map fun t=>(F (Go.Fw.smK x t),t.values))
         rw[htl,List.map_append, ← List.append_assoc,hsum3 F qq]
         exact (sum_zero (hLl F) (by show t.values=zeV n;rw[← htS.len];exact hzz)).symm,by
         show s3.z.samples.length≤nzc (xs.take k)+nzs (x.samples.take (i+1))
         rw[htl,nzs_snoc,if_pos hzz];omega⟩ (by simp only;omega) ⟨rfl,rfl,rfl,rfl,rfl,rfl,rfl,rfl,trivial⟩
     ·have hzz:t.values=zeV t.values.length:=by simpa using h126
      refine cj_skip (K28 (cj_reg (jI (k:=jM (k:=j_nil (ej_then ?_))))))
      have htl:(x.samples.take (i+1)).map (fun t=>t)=(x.samples.take i)++[t]:=by rw[List.map_id', ← List.take_append_getElem hi',hte]
      rw[List.map_id']at htl
      have hLl:∀F:SmK→ByteArray,∀p∈txA F (xs.take k)++(x.samples.take i).map (fun t=>(F (Go.Fw.smK x t),t.values)),p.2.length=n:=fun F p hp=>by
       rcases List.mem_append.1 hp with hp|hp
       ·exact txA_len (fun y hy=>by
         obtain ⟨j,hj⟩:=List.mem_iff_getElem?.1 (List.mem_of_mem_take hy)
         have hjl:=(List.getElem?_eq_some_iff.1 hj).1
         exact (hx j y _ hj (List.getElem?_eq_getElem (by omega))).samN) p hp
       ·obtain ⟨t',ht',rfl⟩:=List.mem_map.1 hp
        exact (hSk.s t' (List.mem_of_mem_take ht')).len
      first
      |exact fun w' hH hf=>hKL1 (i+1,s5) _ w' ⟨hi',y1.keep (KeepX.of hf) (by simp),{ y2' with kx:=(y2'.kx.trans (KeepX.of hf)).drop fun b hb=>.inl (by simpa using hb) },y4,fun F qq=>by
         show sumV n qq (txL F s5.z)=sumV n qq (txA F (xs.take k)++(x.samples.take (i+1)).map fun t=>(F (Go.Fw.smK x t),t.values))
         rw[htl,List.map_append, ← List.append_assoc,y5 F qq]
         exact sum_one (hLl F) htS.len htS.fit (hsum3 F qq),by
         show s5.z.samples.length≤nzc (xs.take k)+nzs (x.samples.take (i+1))
         rw[htl,nzs_snoc,if_neg hnz];omega⟩ (by simp only;omega) ⟨rfl,rfl,rfl,rfl,rfl,rfl,rfl,rfl,trivial⟩
      |exact fun w' hH hf=>hKL1 (i+1,s3) _ w' ⟨hi',hM3.keep (KeepX.of hf) (by simp),{ hS3 with kx:=(hS3.kx.trans (KeepX.of hf)).drop fun b hb=>.inl (by simpa using hb) },hTx3,fun F qq=>by
         show sumV n qq (txL F s3.z)=sumV n qq (txA F (xs.take k)++(x.samples.take (i+1)).map fun t=>(F (Go.Fw.smK x t),t.values))
         rw[htl,List.map_append, ← List.append_assoc,hsum3 F qq]
         exact (sum_zero (hLl F) (by show t.values=zeV n;rw[← htS.len];exact hzz)).symm,by
         show s3.z.samples.length≤nzc (xs.take k)+nzs (x.samples.take (i+1))
         rw[htl,nzs_snoc,if_pos hzz];omega⟩ (by simp only;omega) ⟨rfl,rfl,rfl,rfl,rfl,rfl,rfl,rfl,trivial⟩
    ·have hie:i=x.samples.length:=by omega
     subst hie
     rw[List.take_length]at hns3
     have htx1:xs.take (k+1)=xs.take k++[x]:=by rw[← List.take_append_getElem hk1,hxe]
     refine cj_exit (K12 (cj_reg (jI (k:=jM (k:=j_nil (ej_then ?_))))))
     exact fun w' hH hf=>by
      have hkf:KeepX [] u3 w':=KeepX.of hf
      have hMw:=hM3.keep hkf (by simp)
      have b1:=hMw.bM
      have b2:=hMw.bF
      have b3:=hMw.bL
      have j1:=hMw.jm
      have j2:=hMw.jf
      have j3:=hMw.jl
      have c1:=hS3.cc
      refine hKL (k+1,s3) _ w' ⟨hk',hMw.neu,((hkw1.trans hS3.kx).drop fun b hb=>.inr (hhw1 b (by simpa using hb))).thenF hf,fun b hb=>(hS3.hs b hb).elim (hhw1 b) fun q=>Nat.le_trans hkw1.size q,hS3.pm.trans hp1.1,hS3.pb.trans hp1.2,?_,hTx3,fun F qq=>?_,?_,?_,?_,?_⟩ (by simp only;omega) sR
      ·have:=hS3.hd
       rw[hz1]at this
       exact this.trans hhd
      ·show sumV n qq (txL F s3.z)=sumV n qq (txA F (xs.take (k+1)))
       rw[htx1,txA_snoc,hsum3 F qq,List.take_length];rfl
      ·show s3.z.samples.length≤nzc (xs.take (k+1))
       have:nzc (xs.take (k+1))=nzc (xs.take k)+nzs x.samples:=by rw[htx1];simp[nzc]
       omega
      ·show s3.z.mappings.length≤((xs.take (k+1)).map fun x=>x.mappings.length).sum
       rw[htx1,List.map_append,List.sum_append];simp only[List.map_cons,List.map_nil,List.sum_cons,List.sum_nil];omega
      ·show s3.z.funcs.length≤((xs.take (k+1)).map fun x=>x.funcs.length).sum
       rw[htx1,List.map_append,List.sum_append];simp only[List.map_cons,List.map_nil,List.sum_cons,List.sum_nil];omega
      ·show s3.z.locs.length≤((xs.take (k+1)).map fun x=>x.locs.length).sum
       rw[htx1,List.map_append,List.sum_append];simp only[List.map_cons,List.map_nil,List.sum_cons,List.sum_nil];omega
  ·refine j_gf rfl rfl rfl rfl (j_gf rfl rfl rfl rfl (j_gf rfl rfl rfl rfl (j_gf rfl rfl rfl rfl (j_gf rfl rfl rfl rfl (j_gf rfl rfl rfl rfl (jK (k:=K18 (CJ.t [(4,_),(6,_),(8,_),(60,_),(61,_),(62,_),(106,_)] (k:=?_)))))))))
   refine cj_if_f rfl ?_
   obtain ⟨w4,hw4⟩:∃w4,w4=u1:=⟨_,rfl⟩
   obtain ⟨s2,hs2⟩:∃s2,s2=s1:=⟨_,rfl⟩
   have hM2:MG w x n w4 s2:=by rw[hw4,hs2];exact hM1
   have hS2:SStep u1 s1 w4 s2:=by rw[hw4,hs2];exact SStep.refl
   have hz2:s2.z.samples=s.z.samples:=by rw[hs2,hz1]
   rw[← hw4]
   rw[← hw4]at hck
   refine cj_skip (K17 (sQ fun K31=>cj_reg (jM (k:=jN (k:=jF 2 ru75 so70 (k:=jL ag70 hck 2 (k:=jE ru70 (k:=jM (k:=K31 (cj_block ?_))))))))))
   intro v1 hHv1 hfv1
   have hkv1:KeepX [] w4 v1:=KeepX.of hfv1
   have hM3:MG w x n v1 s2:=hM2.keep hkv1 (by simp)
   have hS3:SStep u1 s1 v1 s2:={ hS2 with kx:=(hS2.kx.trans hkv1).drop fun b hb=>.inl (by simpa using hb) }
   have hg3:Grows s.z s2.z:=by rw[← hz1];exact hS2.gz
   clear hHv1
   refine c_loop (σ:=Nat×MS) (fun q=>[(4,ptr pb),(6,ptr b59),(60,.slice (some ⟨bs,0,none⟩) gs.length c),(61,.int .i64 (gs.length:Nat)),(62,.int .i64 (k:Nat)),(118,.slice pS g.sams.length cS),(119,.int .i64 (g.sams.length:Nat)),(120,.int .i64 (q.1:Nat))])
    (fun q u=>q.1≤x.samples.length∧MG w x n u q.2∧SStep u1 s1 u q.2∧(∀t∈q.2.z.samples,TxS t)∧(∀(F:SmK→ByteArray) (qq:ByteArray),sumV n qq (txL F q.2.z)=sumV n qq (txA F (xs.take k)++(x.samples.take q.1).map fun t=>(F (Go.Fw.smK x t),t.values)))∧q.2.z.samples.length≤nzc (xs.take k)+nzs (x.samples.take q.1))
    (fun q=>x.samples.length - q.1) (0,s2) ⟨rfl,rfl,rfl,rfl,rfl,rfl,rfl,rfl,trivial⟩
    ⟨Nat.zero_le _,hM3,hS3,fun t ht=>hTx t (by rw[← hz2];exact ht),fun F qq=>by
     show sumV n qq (txL F s2.z)=sumV n qq (txA F (xs.take k)++[])
     rw[List.append_nil, ← hsum F qq,txL_grow (SamN.mk hMN.wz.tab fun t ht=>by obtain ⟨r1,r2, -,r4, -⟩:=hMN.wz.sm t ht;exact ⟨r1,r2,fun k hk=>(r4 k hk).2⟩) hg3 hz2],by show s2.z.samples.length≤_;rw[hz2];exact Nat.le_trans hns (Nat.le_add_right _ _)⟩ ?_
   clear hM3 hS3
   rintro ⟨i,s3⟩ u3 ⟨hi,hM3,hS3,hTx3,hsum3,hns3⟩ KL1 hKL1
   try dsimp only at hi hM3 hS3 hTx3 hsum3 hns3
   refine C.begin ⟨u3,0,[]⟩ [] ok_refl .nil ?_
   try dsimp only
   refine sQ fun K32=>cj_reg (jS (k:=K32 (sQ fun K33=>?_)))
   refine cj_dec rfl (fun h121=>?_) (fun h121=>?_)
   ·have hi':i<x.samples.length:=by omega
    have hig:i<g.sams.length:=by omega
    obtain ⟨t,htx⟩:∃t,x.samples[i]? =some t:=⟨_,List.getElem?_eq_getElem hi'⟩
    obtain ⟨bt,hbt⟩:∃b,g.sams[i]? =some b:=⟨_,List.getElem?_eq_getElem hig⟩
    have hte:x.samples[i]=t:=(List.getElem?_eq_some_iff.1 htx).2
    have htS:=hSk.s t (List.mem_of_getElem? htx)
    obtain ⟨lvt,vvt,lmt,nmt,umt,ivt,xvt,hbt0, -,hvt0, -⟩:=hSk.t.of.sams.2 _ _ _ hbt htx
    obtain ⟨pVt,lVt,cVt,rfl,hlVt, -, -⟩:=hvt0.openF
    simp only[List.length_map,Nat.mul_one]at hlVt
    subst hlVt
    obtain ⟨_,_,_,eS, -, -,hxS2⟩:=hsak0.openF
    cases eS
    obtain ⟨bq2,rfl,hqs⟩:=hxS2 (by omega)
    have hcells:∀w',Fm.ok ⟨u3,0,[]⟩ w'→w'.cell? ⟨bq2,0+i*1,none⟩=some (ptr bt):=fun w' hf=>by
     have h1:=hqs ⟨w,0,[]⟩ rfl rfl w ok_refl i (ptr bt) (by rw[List.getElem?_map,hbt];rfl)
     have h2:=(Keep.trans hM3.kp (Fr.keepAll hf (.inr rfl))).cell h1
     simpa using h2
    have hsn:=hSk.ns
    have hp3:s3.pm=b59:=hS3.pm.trans hp1.1
    have hls:nzs (x.samples.take i)≤10000:=Nat.le_trans (nzs_le _) (by rw[List.length_take];have:=hSk.ns;omega)
    refine cj_skip (K33 (sQ fun K34=>cj_block (sQ fun K35=>cj_reg (jJ ru70 so98 (k:=?_)))))
    refine j_valw rfl (fun a w ha hH hf=>r_load ag98 rfl (hcells w hf) ha) (jA (k:=K35 (sQ fun K36=>cj_reg (jM (k:=?_)))))
    refine j_callQ (φ:=fun v=>v=.bool (decide (t.values=zeV t.values.length))) call34 rfl rfl (fun w' hH hf=>isZero_c w' w bt lvt lmt nmt umt ivt xvt pVt cVt t.values (Keep.trans hM3.kp (Fr.keepAll hf (.inr rfl))) hbt0 hvt0 (by rw[htS.len];omega)) fun v hv=>?_
    subst hv
    refine jU (k:=K36 ?_)
    refine cj_if rfl (fun h126=>?_) (fun h126=>?_)
    ·have hnz:t.values≠zeV t.values.length:=by simpa using h126
     refine cj_reg (jM (k:=jM (k:=?_)))
     refine j_callE (R:=fun w3 _ w4=>∃s':MS,MG w x n w4 s'∧SStep w3 s3 w4 s'∧s'.z.samples.length≤s3.z.samples.length+1∧(∀u∈s'.z.samples,TxS u)∧
      ∀(F:SmK→ByteArray) (q:ByteArray),sumV n q (txL F s'.z)=if F (Go.Fw.smK x t)=q then addV (sumV n q (txL F s3.z)) t.values else sumV n q (txL F s3.z)) call35 rfl rfl (fun w3 hH hf=>by
      have:=mapSample_c w w3 x g n s3 i bt t (hM3.keep (KeepX.of hf) (by simp)) hSk.t hSk.l hT hbt htx htS hn60 (by omega) hTx3
      rw[hp3]at this
      exact this) fun w3 v w5 hH3 hf3 hR=>?_
     obtain ⟨s5,y1,y2,y3,y4,y5⟩:=hR
     have y2':SStep u1 s1 w5 s5:=hS3.trans (SStep.after (KeepX.of hf3) y2)
     refine J.begin ⟨w5,0,[]⟩ [] ok_refl .nil ?_
     refine K34 (CJ.t [(4,_),(6,_),(60,_),(61,_),(62,_),(118,_),(119,_),(120,_)] (k:=cj_reg (jI (k:=jM (k:=j_nil (ej_then ?_))))))
     have htl:(x.samples.take (i+1)).map (fun t=>t)=(x.samples.take i)++[t]:=by rw[List.map_id', ← List.take_append_getElem hi',hte]
     rw[List.map_id']at htl
     have hLl:∀F:SmK→ByteArray,∀p∈txA F (xs.take k)++(x.samples.take i).map (fun t=>(F (Go.Fw.smK x t),t.values)),p.2.length=n:=fun F p hp=>by
      rcases List.mem_append.1 hp with hp|hp
      ·exact txA_len (fun y hy=>by
        obtain ⟨j,hj⟩:=List.mem_iff_getElem?.1 (List.mem_of_mem_take hy)
        have hjl:=(List.getElem?_eq_some_iff.1 hj).1
        exact (hx j y _ hj (List.getElem?_eq_getElem (by omega))).samN) p hp
      ·obtain ⟨t',ht',rfl⟩:=List.mem_map.1 hp
       exact (hSk.s t' (List.mem_of_mem_take ht')).len
     first
     |exact fun w' hH hf=>hKL1 (i+1,s5) _ w' ⟨hi',y1.keep (KeepX.of hf) (by simp),{ y2' with kx:=(y2'.kx.trans (KeepX.of hf)).drop fun b hb=>.inl (by simpa using hb) },y4,fun F qq=>by
        show sumV n qq (txL F s5.z)=sumV n qq (txA F (xs.take k)++(x.samples.take (i+1)).map fun t=>(F (Go.Fw.smK x t),t.values))
        rw[htl,List.map_append, ← List.append_assoc,y5 F qq]
        exact sum_one (hLl F) htS.len htS.fit (hsum3 F qq),by
        show s5.z.samples.length≤nzc (xs.take k)+nzs (x.samples.take (i+1))
        rw[htl,nzs_snoc,if_neg hnz];omega⟩ (by simp only;omega) ⟨rfl,rfl,rfl,rfl,rfl,rfl,rfl,rfl,trivial⟩
     |exact fun w' hH hf=>hKL1 (i+1,s3) _ w' ⟨hi',hM3.keep (KeepX.of hf) (by simp),{ hS3 with kx:=(hS3.kx.trans (KeepX.of hf)).drop fun b hb=>.inl (by simpa using hb) },hTx3,fun F qq=>by
        show sumV n qq (txL F s3.z)=sumV n qq (txA F (xs.take k)++(x.samples.take (i+1)).map fun t=>(F (Go.Fw.smK x t),t.values))
        rw[htl,List.map_append, ← List.append_assoc,hsum3 F qq]
        exact (sum_zero (hLl F) (by show t.values=zeV n;rw[← htS.len];exact hzz)).symm,by
        show s3.z.samples.length≤nzc (xs.take k)+nzs (x.samples.take (i+1))
        rw[htl,nzs_snoc,if_pos hzz];omega⟩ (by simp only;omega) ⟨rfl,rfl,rfl,rfl,rfl,rfl,rfl,rfl,trivial⟩
    ·have hzz:t.values=zeV t.values.length:=by simpa using h126
     refine cj_skip (K34 (cj_reg (jI (k:=jM (k:=j_nil (ej_then ?_))))))
     have htl:(x.samples.take (i+1)).map (fun t=>t)=(x.samples.take i)++[t]:=by rw[List.map_id', ← List.take_append_getElem hi',hte]
     rw[List.map_id']at htl
     have hLl:∀F:SmK→ByteArray,∀p∈txA F (xs.take k)++(x.samples.take i).map (fun t=>(F (Go.Fw.smK x t),t.values)),p.2.length=n:=fun F p hp=>by
      rcases List.mem_append.1 hp with hp|hp
      ·exact txA_len (fun y hy=>by
        obtain ⟨j,hj⟩:=List.mem_iff_getElem?.1 (List.mem_of_mem_take hy)
        have hjl:=(List.getElem?_eq_some_iff.1 hj).1
        exact (hx j y _ hj (List.getElem?_eq_getElem (by omega))).samN) p hp
      ·obtain ⟨t',ht',rfl⟩:=List.mem_map.1 hp
       exact (hSk.s t' (List.mem_of_mem_take ht')).len
     first
     |exact fun w' hH hf=>hKL1 (i+1,s5) _ w' ⟨hi',y1.keep (KeepX.of hf) (by simp),{ y2' with kx:=(y2'.kx.trans (KeepX.of hf)).drop fun b hb=>.inl (by simpa using hb) },y4,fun F qq=>by
        show sumV n qq (txL F s5.z)=sumV n qq (txA F (xs.take k)++(x.samples.take (i+1)).map fun t=>(F (Go.Fw.smK x t),t.values))
        rw[htl,List.map_append, ← List.append_assoc,y5 F qq]
        exact sum_one (hLl F) htS.len htS.fit (hsum3 F qq),by
        show s5.z.samples.length≤nzc (xs.take k)+nzs (x.samples.take (i+1))
        rw[htl,nzs_snoc,if_neg hnz];omega⟩ (by simp only;omega) ⟨rfl,rfl,rfl,rfl,rfl,rfl,rfl,rfl,trivial⟩
     |exact fun w' hH hf=>hKL1 (i+1,s3) _ w' ⟨hi',hM3.keep (KeepX.of hf) (by simp),{ hS3 with kx:=(hS3.kx.trans (KeepX.of hf)).drop fun b hb=>.inl (by simpa using hb) },hTx3,fun F qq=>by
        show sumV n qq (txL F s3.z)=sumV n qq (txA F (xs.take k)++(x.samples.take (i+1)).map fun t=>(F (Go.Fw.smK x t),t.values))
        rw[htl,List.map_append, ← List.append_assoc,hsum3 F qq]
        exact (sum_zero (hLl F) (by show t.values=zeV n;rw[← htS.len];exact hzz)).symm,by
        show s3.z.samples.length≤nzc (xs.take k)+nzs (x.samples.take (i+1))
        rw[htl,nzs_snoc,if_pos hzz];omega⟩ (by simp only;omega) ⟨rfl,rfl,rfl,rfl,rfl,rfl,rfl,rfl,trivial⟩
   ·have hie:i=x.samples.length:=by omega
    subst hie
    rw[List.take_length]at hns3
    have htx1:xs.take (k+1)=xs.take k++[x]:=by rw[← List.take_append_getElem hk1,hxe]
    refine cj_exit (K12 (cj_reg (jI (k:=jM (k:=j_nil (ej_then ?_))))))
    exact fun w' hH hf=>by
     have hkf:KeepX [] u3 w':=KeepX.of hf
     have hMw:=hM3.keep hkf (by simp)
     have b1:=hMw.bM
     have b2:=hMw.bF
     have b3:=hMw.bL
     have j1:=hMw.jm
     have j2:=hMw.jf
     have j3:=hMw.jl
     have c1:=hS3.cc
     refine hKL (k+1,s3) _ w' ⟨hk',hMw.neu,((hkw1.trans hS3.kx).drop fun b hb=>.inr (hhw1 b (by simpa using hb))).thenF hf,fun b hb=>(hS3.hs b hb).elim (hhw1 b) fun q=>Nat.le_trans hkw1.size q,hS3.pm.trans hp1.1,hS3.pb.trans hp1.2,?_,hTx3,fun F qq=>?_,?_,?_,?_,?_⟩ (by simp only;omega) sR
     ·have:=hS3.hd
      rw[hz1]at this
      exact this.trans hhd
     ·show sumV n qq (txL F s3.z)=sumV n qq (txA F (xs.take (k+1)))
      rw[htx1,txA_snoc,hsum3 F qq,List.take_length];rfl
     ·show s3.z.samples.length≤nzc (xs.take (k+1))
      have:nzc (xs.take (k+1))=nzc (xs.take k)+nzs x.samples:=by rw[htx1];simp[nzc]
      omega
     ·show s3.z.mappings.length≤((xs.take (k+1)).map fun x=>x.mappings.length).sum
      rw[htx1,List.map_append,List.sum_append];simp only[List.map_cons,List.map_nil,List.sum_cons,List.sum_nil];omega
     ·show s3.z.funcs.length≤((xs.take (k+1)).map fun x=>x.funcs.length).sum
      rw[htx1,List.map_append,List.sum_append];simp only[List.map_cons,List.map_nil,List.sum_cons,List.sum_nil];omega
     ·show s3.z.locs.length≤((xs.take (k+1)).map fun x=>x.locs.length).sum
      rw[htx1,List.map_append,List.sum_append];simp only[List.map_cons,List.map_nil,List.sum_cons,List.sum_nil];omega
 ·have hke:k=xs.length:=by omega
  subst hke
  rw[List.take_length]at hns hnm hnf hnl
  intro v2 hH2 hf2'
  have kx2:KeepX [] u v2:=KeepX.same (Hp.keepL (f:=⟨u,0,[tPM]⟩) (w:=u) (L:=[b59]) (es:=[_]) hH2 hf2') fun b hb=>.inr fun o ho=>by
   rw[List.mem_singleton.1 hb]at ho⊢
   rw[show u.heap[b59]? =some _ from hpm]at ho
   cases ho
   exact hH2.get (i:=0) rfl rfl
  have hMv:=hMN.keep kx2
  have hkv:KeepX [] w v2:=(hkw.trans kx2).drop fun b hb=>(by simp at hb)
  clear hH2 hKL
  have hmz:MrgZ n ty per xs s.z:={ wz:=hMN.wz,ty:=congrArg PProf.types hhd,pe:=congrArg PProf.per hhd,co:=congrArg PProf.comments hhd,df:=congrArg PProf.deflt hhd,tx:=hTx,sum:=fun F qq=>by have:=hsum F qq;rw[List.take_length]at this;exact this,ns:=hns,nm:=hnm,nf:=hnf,nl:=hnl,wr:=⟨by rw[show s.z.time=ti from congrArg PProf.time hhd];exact wt1,by rw[show s.z.dur=du from congrArg PProf.dur hhd];exact wt2,by rw[show s.z.period=pe from congrArg PProf.period hhd];exact wt3⟩ }
  have hOf:=hMv.ofS hmz.co
  obtain ⟨sa9,ma9,lo9,fu9,hpb9,hsa9, -⟩:=hMv.prof
  obtain ⟨q9,d9,rfl⟩:=hsa9.len
  rw[List.length_map]at hpb9
  have hsa9':=hsa9.os
  rw[List.length_map]at hsa9'
  rw[hspb]at hpb9
  have hc4:=mc (f:=⟨v2,0,[]⟩) hpb9 rfl
  have hslen:s.sams.length=s.z.samples.length:=hOf.sams.1
  obtain ⟨_,_,_,e9, -, -,hx9⟩:=hsa9'.openF
  cases e9
  refine C.begin ⟨v2,0,[]⟩ [] ok_refl .nil ?_
  refine cj_exit (K8 (sQ fun K37=>sQ fun K38=>cj_reg (jM (k:=jN (k:=jF 2 ru75 so70 (k:=jL ag70 hc4 2 (k:=jE ru70 (k:=jM (k:=K38 (cj_block ?_))))))))))
  refine cj_loop (σ:=Nat) (fun k=>[(4,ptr pb),(135,.slice q9 s.sams.length d9),(136,.int .i64 (s.sams.length:Nat)),(137,.int .i64 (k:Nat))]) (fun _=>[]) (fun k _=>k≤s.sams.length) (fun k=>s.sams.length - k) 0 sR (fun w' hH hf=>⟨.nil,Nat.zero_le _⟩) ?_
  intro i w5 hi hf5 hH5 KL2 hKL2
  refine C.begin _ _ hf5 hH5 ?_
  refine sQ fun K39=>cj_reg (jS (k:=K39 (sQ fun K40=>?_)))
  refine cj_dec rfl (fun h138=>?_) (fun h138=>?_)
  ·have hi':i<s.sams.length:=by omega
   have hiz:i<s.z.samples.length:=by omega
   obtain ⟨t,htx⟩:∃t,s.z.samples[i]? =some t:=⟨_,List.getElem?_eq_getElem hiz⟩
   obtain ⟨bt,hbt⟩:∃b,s.sams[i]? =some b:=⟨_,List.getElem?_eq_getElem hi'⟩
   obtain ⟨lvt,vvt,lmt,nmt,umt,ivt,xvt,hbt0, -,hvt0, -⟩:=hOf.sams.2 _ _ _ hbt htx
   obtain ⟨pVt,lVt,cVt,rfl,hlVt, -, -⟩:=hvt0.openF
   simp only[List.length_map,Nat.mul_one]at hlVt
   subst hlVt
   obtain ⟨bq2,rfl,hqs⟩:=hx9 (by omega)
   have hcells:∀w',Fm.ok ⟨v2,0,[]⟩ w'→w'.cell? ⟨bq2,0+i*1,none⟩=some (ptr bt):=fun w' hf=>by
    have h1:=hqs ⟨v2,0,[]⟩ rfl rfl w' hf i (ptr bt) (by rw[List.getElem?_map,hbt];rfl)
    simpa using h1
   obtain ⟨htn, -⟩:=hmz.wz.sm t (List.mem_of_getElem? htx)
   refine cj_skip (K40 (sQ fun K41=>cj_block (sQ fun K42=>cj_reg (jJ ru70 so98 (k:=?_)))))
   refine j_valw rfl (fun a w ha hH hf=>r_load ag98 rfl (hcells w hf) ha) (jA (k:=K42 (sQ fun K43=>cj_reg (jM (k:=?_)))))
   refine j_callQ (φ:=fun v=>v=.bool (decide (t.values=zeV t.values.length))) call34 rfl rfl (fun w' hH hf=>isZero_c w' v2 bt lvt lmt nmt umt ivt xvt pVt cVt t.values (Fr.keepAll hf (.inr rfl)) hbt0 hvt0 (by rw[htn];omega)) fun v hv=>?_
   subst hv
   refine K43 ?_
   refine cj_if rfl (fun h142=>?_) (fun h142=>?_)
   ·have hzz:t.values=zeV t.values.length:=by simpa using h142
    have hlt:nzc [s.z]<s.z.samples.length:=by
     have:=nzs_lt (List.mem_of_getElem? htx) hzz
     simpa[nzc]using this
    have hsrc:=hmz.src hOf sm sf sl sz
    have hzm:=hmz.nm
    have hzf:=hmz.nf
    have hzl:=hmz.nl
    have hzs:=hmz.ns
    refine sQ fun K44=>cj_reg (jM (k:=?_))
    refine j_bslice1 ru41 so42 zv42 rfl rfl rfl rfl rfl fun b144=>?_
    refine j_callE (R:=fun w6 r w7=>(∃(z:PProf) (g:G),r=.tuple #[ptr g.pb,.nilIface]∧OfS w7 z g∧MrgZ n ty per [s.z] z)∧Fr 0 [] w6 w7) call14 rfl rfl (fun w6 hH hf=>ih (nzc [s.z]) (by omega) w6 _ n ty per [s.z] [gOf s] (by
     have h1:=OS.full (sz:=1) (l:=1) (hH.get (i:=0) rfl rfl) rfl
     show OS pProf 1 w6 _ [ptr s.pb]
     rw[hspb]
     exact h1) rfl (Nat.succ_pos 0) (show 1≤1000 by decide) (fun i x g h1 h2=>by
     cases i with
     |zero=>cases h1;cases h2;exact hsrc.keep (Fr.keepAll hf (.inr rfl))
     |succ i=>simp at h1) hty hn60 (by simp;omega) (by simp;omega) (by simp;omega) (by omega) (hT.keep (Keep.trans (Fr.keepAll (kx_fr0 hkv) (.inr rfl)) (Fr.keepAll hf (.inr rfl)))) (Nat.le_refl _)) fun w6 r w7 hH6 hf6 hR=>?_
    obtain ⟨⟨z',g',rfl,hO',hZ'⟩,hf7⟩:=hR
    have hfin:Fr 0 [] w w7:=frQ (kx_fr0 hkv) (frQ hf6 hf7)
    have hmz':MrgZ n ty per xs z':={ hZ' with
     sum:=fun F qq=>by
      rw[hZ'.sum F qq,show txA F [s.z]=txL F s.z by simp[txA]]
      exact hmz.sum F qq
     ns:=by have:=hZ'.ns;omega
     nm:=by have:=hZ'.nm;simp at this;omega
     nf:=by have:=hZ'.nf;simp at this;omega
     nl:=by have:=hZ'.nl;simp at this;omega }
    refine J.begin ⟨w7,0,[]⟩ [] ok_refl .nil ?_
    refine jX (k:=jX (k:=jA (k:=jA (k:=K44 (CJ.t [(2,_),(3,_)] (k:=cj_ret ?_))))))
    first
    |exact ej_ret2 results14 rfl rfl fun w' hH hf=>⟨⟨z',g',rfl,hO'.keep (Fr.keepAll hf (.inr rfl)),hmz'⟩,frQ hfin hf⟩
    |exact ej_ret2 results14 rfl rfl fun w' hH hf=>⟨⟨s.z,gOf s,by rw[← hspb];rfl,hOf.keep (Fr.keepAll hf (.inr rfl)),hmz⟩,frQ (kx_fr0 hkv) hf⟩
   ·refine cj_skip (K41 (cj_reg (jI (k:=jM (k:=j_nil (ej_then ?_))))))
    exact fun w' hH hf=>hKL2 (i+1) _ w' (by omega) hf .nil (by omega) sR
  ·clear hKL2
   refine cj_exit (K37 (sQ fun K45=>cj_reg (jM (k:=jA (k:=jA (k:=K45 (cj_ret ?_)))))))
   first
   |exact ej_ret2 results14 rfl rfl fun w' hH hf=>⟨⟨z',g',rfl,hO'.keep (Fr.keepAll hf (.inr rfl)),hmz'⟩,frQ hfin hf⟩
   |exact ej_ret2 results14 rfl rfl fun w' hH hf=>⟨⟨s.z,gOf s,by rw[← hspb];rfl,hOf.keep (Fr.keepAll hf (.inr rfl)),hmz⟩,frQ (kx_fr0 hkv) hf⟩
end Go.Proofs.YtffghbkcomlefaaGreatDoor
namespace Go.Proofs
open Go.Shelf
def Tryz.sortTx_ren:Go.Shelf.Ren:=⟨fun|6=>55|15=>77|14=>76|28=>98|29=>99|20=>90|21=>91|22=>92|23=>93|24=>94|25=>95|26=>96|27=>97|46=>119|47=>120|48=>121|49=>122|50=>123|57=>147|n=>n,fun|22=>52|24=>130|25=>159|3=>3|39=>182|0=>0|53=>207|55=>76|4=>4|46=>200|45=>199|50=>204|5=>5|9=>9|66=>228|70=>232|76=>252|77=>253|n=>n,fun|n=>n⟩
theorem Tryz.sortTx:Go.Proofs.SlLaysF0.n6 Tryz.prog Tryz.sortTx_ren:={
 mixed:=by kernel_rfl
 f6:=⟨Tryz.f55.name,by decide,Tryz.func55.trans (congrArg some (by kernel_rfl))⟩
 f14:=⟨Tryz.f76.name,by decide,Tryz.func76.trans (congrArg some (by kernel_rfl))⟩
 f15:=Tryz.func77.trans (congrArg some (by kernel_rfl))
 f20:=⟨Tryz.f90.name,by decide,Tryz.func90.trans (congrArg some (by kernel_rfl))⟩
 f21:=⟨Tryz.f91.name,by decide,Tryz.func91.trans (congrArg some (by kernel_rfl))⟩
 f22:=⟨Tryz.f92.name,by decide,Tryz.func92.trans (congrArg some (by kernel_rfl))⟩
 f23:=⟨Tryz.f93.name,by decide,Tryz.func93.trans (congrArg some (by kernel_rfl))⟩
 f24:=⟨Tryz.f94.name,by decide,Tryz.func94.trans (congrArg some (by kernel_rfl))⟩
 f25:=⟨Tryz.f95.name,by decide,Tryz.func95.trans (congrArg some (by kernel_rfl))⟩
 f26:=⟨Tryz.f96.name,by decide,Tryz.func96.trans (congrArg some (by kernel_rfl))⟩
 f27:=⟨Tryz.f97.name,by decide,Tryz.func97.trans (congrArg some (by kernel_rfl))⟩
 f28:=Tryz.func98.trans (congrArg some (by kernel_rfl))
 f29:=Tryz.func99.trans (congrArg some (by kernel_rfl))
 f46:=⟨Tryz.f119.name,by decide,Tryz.func119.trans (congrArg some (by kernel_rfl))⟩
 f47:=Tryz.func120.trans (congrArg some (by kernel_rfl))
 f48:=Tryz.func121.trans (congrArg some (by kernel_rfl))
 f49:=⟨Tryz.f122.name,by decide,Tryz.func122.trans (congrArg some (by kernel_rfl))⟩
 f50:=⟨Tryz.f123.name,by decide,Tryz.func123.trans (congrArg some (by kernel_rfl))⟩
 f57:=⟨Tryz.f147.name,by decide,Tryz.func147.trans (congrArg some (by kernel_rfl))⟩
 t0:=Tryz.underlying0
 a0:=Tryz.isAgg0
 z0:=Tryz.sizeOf0
 v0:=Tryz.zeroValue0
 t3:=Tryz.underlying3
 a3:=Tryz.isAgg3
 z3:=Tryz.sizeOf3
 v3:=Tryz.zeroValue3
 t4:=Tryz.underlying4
 a4:=Tryz.isAgg4
 z4:=Tryz.sizeOf4
 v4:=Tryz.zeroValue4
 t5:=Tryz.underlying5
 a5:=Tryz.isAgg5
 z5:=Tryz.sizeOf5
 v5:=Tryz.zeroValue5
 t9:=Tryz.underlying9
 a9:=Tryz.isAgg9
 z9:=Tryz.sizeOf9
 v9:=Tryz.zeroValue9
 t22:=Tryz.underlying52
 a22:=Tryz.isAgg52
 z22:=Tryz.sizeOf52
 v22:=Tryz.zeroValue52
 t25:=Tryz.underlying159
 a25:=Tryz.isAgg159
 z25:=Tryz.sizeOf159
 v25:=Tryz.zeroValue159
 t39:=Tryz.underlying182
 a39:=Tryz.isAgg182
 z39:=Tryz.sizeOf182
 v39:=Tryz.zeroValue182
 t45:=Tryz.underlying199
 a45:=Tryz.isAgg199
 z45:=Tryz.sizeOf199
 v45:=Tryz.zeroValue199
 t46:=Tryz.underlying200
 a46:=Tryz.isAgg200
 z46:=Tryz.sizeOf200
 v46:=Tryz.zeroValue200
 t50:=Tryz.underlying204
 a50:=Tryz.isAgg204
 z50:=Tryz.sizeOf204
 v50:=Tryz.zeroValue204
 t53:=Tryz.underlying207
 a53:=Tryz.isAgg207
 z53:=Tryz.sizeOf207
 v53:=Tryz.zeroValue207
 t55:=Tryz.underlying76
 a55:=Tryz.isAgg76
 z55:=Tryz.sizeOf76
 v55:=Tryz.zeroValue76
 t66:=Tryz.underlying228
 a66:=Tryz.isAgg228
 z66:=Tryz.sizeOf228
 v66:=Tryz.zeroValue228
 t70:=Tryz.underlying232
 a70:=Tryz.isAgg232
 z70:=Tryz.sizeOf232
 v70:=Tryz.zeroValue232
 t76:=Tryz.underlying252
 a76:=Tryz.isAgg252
 z76:=Tryz.sizeOf252
 v76:=Tryz.zeroValue252
 t77:=Tryz.underlying253
 a77:=Tryz.isAgg253
 z77:=Tryz.sizeOf253
 v77:=Tryz.zeroValue253 }
def Tryz.sortNu_ren:Go.Shelf.Ren:=⟨fun|6=>58|15=>77|14=>78|28=>98|29=>99|20=>100|21=>101|22=>102|23=>103|24=>104|25=>105|26=>106|27=>107|46=>124|47=>120|48=>121|49=>125|50=>126|57=>148|n=>n,fun|22=>53|24=>133|25=>161|3=>3|39=>182|0=>0|53=>207|55=>76|4=>4|46=>200|45=>199|50=>204|5=>5|9=>9|66=>228|70=>232|76=>252|77=>253|n=>n,fun|n=>n⟩
theorem Tryz.sortNu:Go.Proofs.SlLaysF0.n6 Tryz.prog Tryz.sortNu_ren:={
 mixed:=by kernel_rfl
 f6:=⟨Tryz.f58.name,by decide,Tryz.func58.trans (congrArg some (by kernel_rfl))⟩
 f14:=⟨Tryz.f78.name,by decide,Tryz.func78.trans (congrArg some (by kernel_rfl))⟩
 f15:=Tryz.func77.trans (congrArg some (by kernel_rfl))
 f20:=⟨Tryz.f100.name,by decide,Tryz.func100.trans (congrArg some (by kernel_rfl))⟩
 f21:=⟨Tryz.f101.name,by decide,Tryz.func101.trans (congrArg some (by kernel_rfl))⟩
 f22:=⟨Tryz.f102.name,by decide,Tryz.func102.trans (congrArg some (by kernel_rfl))⟩
 f23:=⟨Tryz.f103.name,by decide,Tryz.func103.trans (congrArg some (by kernel_rfl))⟩
 f24:=⟨Tryz.f104.name,by decide,Tryz.func104.trans (congrArg some (by kernel_rfl))⟩
 f25:=⟨Tryz.f105.name,by decide,Tryz.func105.trans (congrArg some (by kernel_rfl))⟩
 f26:=⟨Tryz.f106.name,by decide,Tryz.func106.trans (congrArg some (by kernel_rfl))⟩
 f27:=⟨Tryz.f107.name,by decide,Tryz.func107.trans (congrArg some (by kernel_rfl))⟩
 f28:=Tryz.func98.trans (congrArg some (by kernel_rfl))
 f29:=Tryz.func99.trans (congrArg some (by kernel_rfl))
 f46:=⟨Tryz.f124.name,by decide,Tryz.func124.trans (congrArg some (by kernel_rfl))⟩
 f47:=Tryz.func120.trans (congrArg some (by kernel_rfl))
 f48:=Tryz.func121.trans (congrArg some (by kernel_rfl))
 f49:=⟨Tryz.f125.name,by decide,Tryz.func125.trans (congrArg some (by kernel_rfl))⟩
 f50:=⟨Tryz.f126.name,by decide,Tryz.func126.trans (congrArg some (by kernel_rfl))⟩
 f57:=⟨Tryz.f148.name,by decide,Tryz.func148.trans (congrArg some (by kernel_rfl))⟩
 t0:=Tryz.underlying0
 a0:=Tryz.isAgg0
 z0:=Tryz.sizeOf0
 v0:=Tryz.zeroValue0
 t3:=Tryz.underlying3
 a3:=Tryz.isAgg3
 z3:=Tryz.sizeOf3
 v3:=Tryz.zeroValue3
 t4:=Tryz.underlying4
 a4:=Tryz.isAgg4
 z4:=Tryz.sizeOf4
 v4:=Tryz.zeroValue4
 t5:=Tryz.underlying5
 a5:=Tryz.isAgg5
 z5:=Tryz.sizeOf5
 v5:=Tryz.zeroValue5
 t9:=Tryz.underlying9
 a9:=Tryz.isAgg9
 z9:=Tryz.sizeOf9
 v9:=Tryz.zeroValue9
 t22:=Tryz.underlying53
 a22:=Tryz.isAgg53
 z22:=Tryz.sizeOf53
 v22:=Tryz.zeroValue53
 t25:=Tryz.underlying161
 a25:=Tryz.isAgg161
 z25:=Tryz.sizeOf161
 v25:=Tryz.zeroValue161
 t39:=Tryz.underlying182
 a39:=Tryz.isAgg182
 z39:=Tryz.sizeOf182
 v39:=Tryz.zeroValue182
 t45:=Tryz.underlying199
 a45:=Tryz.isAgg199
 z45:=Tryz.sizeOf199
 v45:=Tryz.zeroValue199
 t46:=Tryz.underlying200
 a46:=Tryz.isAgg200
 z46:=Tryz.sizeOf200
 v46:=Tryz.zeroValue200
 t50:=Tryz.underlying204
 a50:=Tryz.isAgg204
 z50:=Tryz.sizeOf204
 v50:=Tryz.zeroValue204
 t53:=Tryz.underlying207
 a53:=Tryz.isAgg207
 z53:=Tryz.sizeOf207
 v53:=Tryz.zeroValue207
 t55:=Tryz.underlying76
 a55:=Tryz.isAgg76
 z55:=Tryz.sizeOf76
 v55:=Tryz.zeroValue76
 t66:=Tryz.underlying228
 a66:=Tryz.isAgg228
 z66:=Tryz.sizeOf228
 v66:=Tryz.zeroValue228
 t70:=Tryz.underlying232
 a70:=Tryz.isAgg232
 z70:=Tryz.sizeOf232
 v70:=Tryz.zeroValue232
 t76:=Tryz.underlying252
 a76:=Tryz.isAgg252
 z76:=Tryz.sizeOf252
 v76:=Tryz.zeroValue252
 t77:=Tryz.underlying253
 a77:=Tryz.isAgg253
 z77:=Tryz.sizeOf253
 v77:=Tryz.zeroValue253 }
end Go.Proofs
namespace Go.Proofs.YtffghbkcomlefaaGreatDoor
open Go Go.Fw Go.Proofs Go.Sort
variable {T:Nat} {v:Value} {w:World}
theorem ltB_eq (x y:ByteArray):ltB x y=decide (x.data.toList<y.data.toList):=by
 rw[ltB,bytesLess_eq,Lib.toList_data,Lib.toList_data]
theorem lay_of_os {α β:Type} {sz:Nat} {R:World→List Value→α→Prop} {bs:List β} {c:β→List Value} {f:β→α} {xs:List α} (h:OS T sz w v (bs.flatMap c)) (hx:bs.map f=xs) (hc:∀b,(c b).length=sz) (hp:0<sz) (hR:∀b∈bs,R w (c b) (f b)) (hl:xs.length≤1000000000):Lay R sz w v xs:=by
 subst hx
 obtain ⟨p,l,cc,rfl,hlen,hlc,ho⟩:=h.open
 have hfl:(bs.flatMap c).length=bs.length*sz:=flatMap_len hc _
 have hll:l=bs.length:=by
  rw[hfl]at hlen
  exact (Nat.eq_of_mul_eq_mul_right hp hlen).symm
 subst hll
 refine ⟨bs.map c,⟨⟨p,cc,by simp,by simpa using hlc,?_⟩,?_,by simp at hl⊢;omega⟩,by simp,fun q hq=>?_,fun i q x hq hx=>?_⟩
 ·by_cases h0:bs.length=0
  ·exact .inl (by simpa using h0)
  ·right
   obtain ⟨b,rfl,hcell⟩:=ho (by omega)
   refine ⟨b,0,rfl,fun j u hu=>?_⟩
   rw[Nat.zero_add]
   exact hcell w (Keep.refl w) j u (by rw[List.flatMap_def];exact hu)
 ·rw[← List.flatMap_def,hfl];simp
 ·obtain ⟨b, -,rfl⟩:=List.mem_map.1 hq
  exact hc b
 ·rw[List.getElem?_map]at hq hx
  cases hb:bs[i]? with
  |none=>rw[hb]at hq;cases hq
  |some b=>
   rw[hb]at hq hx
   simp at hq hx
   subst hq;subst hx
   exact hR b (List.mem_of_getElem? hb)
theorem map_flat {α:Type} (g:α→Value) (xs:List α):xs.map g=xs.flatMap fun x=>[g x]:=by
 induction xs with
 |nil=>rfl
 |cons a r ih=>simp[ih]
theorem lay_of_os1 {α:Type} {R:World→List Value→α→Prop} {xs:List α} {g:α→Value} (h:OS T 1 w v (xs.map g)) (hR:∀x∈xs,R w [g x] x) (hl:xs.length≤1000000000):Lay R 1 w v xs:=by
 rw[map_flat]at h
 exact lay_of_os (f:=fun x=>x) h (by simp) (fun _=>rfl) (by omega) hR hl
end Go.Proofs.YtffghbkcomlefaaGreatDoor
