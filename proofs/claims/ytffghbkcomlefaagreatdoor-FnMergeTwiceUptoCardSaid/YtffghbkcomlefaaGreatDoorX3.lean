/-
  Part 3 of the proof. Conditions: as each lemma states them.
-/
import Derived.Test.YtffghbkcomlefaaGreatDoorX2
import Derived.Shelf.Sort.Plain
import Derived.Shelf.Slices.In.SortNone2
import Derived.Sort.OwnSorted
namespace Go.Proofs.YtffghbkcomlefaaGreatDoor
open Go Go.Fw Go.Proofs Go.Proofs.Tryz
theorem SamC.upL {w:World} {locs:List Nat} {b v n c:Nat} {t:PSample} (h:SamC locs b v n t w) (hm:∀k∈t.stack,k<locs.length):SamC (locs++[c]) b v n t w:=by
 obtain ⟨ls,lm,nm,um,iv,xv,h1,h2,h3⟩:=h
 exact ⟨ls,lm,nm,um,iv,xv,h1,by rw[List.map_congr_left fun k hk=>ptrAt_snoc (hm k hk)];exact h2,h3⟩
set_option maxHeartbeats 2000000 in
theorem MG.newL {w0 w w':World} {x:PProf} {n:Nat} {s:MS} (h:MG w0 x n w s) {L:List Nat} {sa ma fu:Value} {y y':Ent} {p p':Option Addr} {l c c' bn i:Nat} {m m2:PLoc} {N:Nat→Prop} {kk:LcK} (hLe:L=[s.pb,s.iL,s.mL]++rowL y) (k:KeepX L w w')
  (hpb:Blk w s.pb tProf (cProf s.z s.ty sa ma (.slice p l c) fu (.slice none 0 0) s.per)) (hsa:OSp (· ∈s.hot) pSam 1 w sa (s.sams.map ptr)) (hy:y.on=true→Blk w y.b pLoc y.cs∧y.b∈s.hot) (hma:OSp (· ∈s.hot) pMap 1 w ma (s.maps.map ptr)) (hfu:OSp (· ∈s.hot) pFun 1 w fu (s.funs.map ptr))
  (hpb':Blk w' s.pb tProf (cProf s.z s.ty sa ma (.slice p' (l+1) c') fu (.slice none 0 0) s.per)) (hO':Own pLoc 1 y' p' (l+1) c' (s.locs.map ptr++[ptr bn])) (hy':y'.on=true→Blk w' y'.b pLoc y'.cs) (hyn:y'.on=true→y'.b∈L∨w.heap.size≤y'.b)
  {wb:World} {sb:MS} (h0:MStep wb sb w s) (hbn:bn∉s.locs) (hN:∀b,N b→wb.heap.size≤b∧b<w'.heap.size∧b∉rowL y'∧b∉s.hot) (hOn:On N w' fun w=>LocP w s.maps s.funs bn m2) (hz2:m2.id=(s.locs.length:Int)+1∧(-1≤m2.mapping∧m2.mapping<s.z.mappings.length)∧m2.lines.length≤60∧(∀ln∈m2.lines,(-1≤ln.fn∧ln.fn<s.z.funcs.length)∧IntKind.i64.wrap ln.line=ln.line)∧IntKind.u64.wrap m2.addr=m2.addr) (hkk:kk=keyL s.z m2) (hpl:plK s.z m2=plK x m) (hI:TbM (Value.int .u64) w' s.iL (mset s.jL m.id (ptr bn))) (hM:TbM encLc w' s.mL (mset s.kL kk (ptr bn)))
  (hx:x.locs[i]? =some m) (hno:mget s.jL m.id=none):
  ∃s':MS,MG w0 x n w' s'∧MStep wb sb w' s'∧s'.locs=s.locs++[bn]∧s'.z.locs=s.z.locs++[m2]∧s'.z.funcs=s.z.funcs∧s'.z.mappings=s.z.mappings:=by
 have hh:=h.hh
 simp only[List.mem_append,List.mem_cons,List.not_mem_nil,or_false]at hh
 have hLh:∀b∈L,b∈s.hot:=fun b hb=>by
  subst hLe
  rcases List.mem_append.1 hb with hb|hb
  ·simp only[List.mem_cons,List.not_mem_nil,or_false]at hb
   rcases hb with rfl|rfl|rfl<;>exact hh _ (by simp)
  ·obtain ⟨ho,rfl⟩:=mem_rowL' hb
   exact (hy ho).2
 have C:=h.cool k hLh
 obtain ⟨e1,k1,hm1, -⟩:=h.uL
 obtain ⟨e2,k2,hm2', -⟩:=h.tL
 have hnd:=h.nd
 simp only[List.nodup_cons,List.mem_cons,List.not_mem_nil,or_false,not_or]at hnd
 have kb:∀{b T:Nat} {cs:List Value},Blk w b T cs→T≠tProf→T≠pLoc→Blk w' b T cs:=fun hb n1 n2=>k.blk hb (by rw[hLe];exact pairs_ne hb hpb hm1 hm2' (fun ho=>(hy ho).1) n1 n2)
 have km:∀{b:Nat} {e0:Array MapEntry} {k0:Nat},w.heap[b]? =some (.map e0 k0)→b≠s.iL→b≠s.mL→w'.heap[b]? =some (.map e0 k0):=fun hb n1 n2=>k.keep _ _ hb (by rw[hLe];exact map_nin hb hpb (fun ho=>(hy ho).1) n1 n2)
 have kt:∀{κ:Type} {enc:κ→Value} {b:Nat} {ms:List (κ×Value)},TbM enc w b ms→b≠s.iL→b≠s.mL→TbM enc w' b ms:=fun ⟨es,ck,q1,q2⟩ n1 n2=>⟨es,ck,km q1 n1 n2,q2⟩
 have dmS:s.mS≠s.iL∧s.mS≠s.mL:=by constructor<;>omega
 have dmF:s.mF≠s.iL∧s.mF≠s.mL:=by constructor<;>omega
 have dmM:s.mM≠s.iL∧s.mM≠s.mL:=by constructor<;>omega
 have diF:s.iF≠s.iL∧s.iF≠s.mL:=by constructor<;>omega
 have diM:s.iM≠s.iL∧s.iM≠s.mL:=by constructor<;>omega
 clear hnd
 have hlen:=h.oL.1
 have hyb:∀b∈rowL y',b∈s.hot∨w.heap.size≤b:=fun b hb=>by
  obtain ⟨ho,rfl⟩:=mem_rowL' hb
  exact (hyn ho).imp (hLh _) id
 have hG:Grows s.z { s.z with locs:=s.z.locs++[m2] }:=⟨List.prefix_rfl,List.prefix_rfl,List.prefix_append _ _⟩
 have cold0:∀b,s.cold b→b<w.heap.size:=fun b hb=>(h.cd b hb).1
 refine ⟨{ s with kL:=mset s.kL kk (ptr bn),jL:=mset s.jL m.id (ptr bn),locs:=s.locs++[bn],z:={ s.z with locs:=s.z.locs++[m2] },hot:=rowL y'++s.hot,cold:=fun b=>s.cold b∨N b },?_,?_,rfl,rfl,rfl,rfl⟩
 ·exact {
   kp:=C.kp
   c0:=fun b hb=>.inl (h.c0 b hb)
   cd:=fun b hb=>by
    rcases hb with hb|hb
    ·refine ⟨(C.cd b hb).1,fun hm=>?_⟩
     rcases List.mem_append.1 hm with hm|hm
     ·rcases hyb b hm with q|q
      ·exact (C.cd b hb).2 q
      ·have:=cold0 b hb;omega
     ·exact (C.cd b hb).2 hm
    ·obtain ⟨r1,r2,r3,r4⟩:=hN b hb
     refine ⟨r2,fun hm=>?_⟩
     rcases List.mem_append.1 hm with hm|hm
     ·exact r3 hm
     ·exact r4 hm
   hl:=fun b hb=>by
    rcases List.mem_append.1 hb with hb|hb
    ·obtain ⟨ho,rfl⟩:=mem_rowL' hb
     exact (hy' ho).lt
    ·exact C.hl b hb
   hh:=fun b hb=>List.mem_append_right _ (h.hh b hb)
   nd:=h.nd
   bpm:=kb h.bpm (by decide) (by decide)
   prof:=⟨sa,ma,.slice p' (l+1) c',fu,hpb',(hsa.keep fun b cs _ hb=>kb hb (by decide) (by decide)).mono fun b cs hb hk=>⟨hk,List.mem_append_right _ hb⟩,(hma.keep fun b cs _ hb=>kb hb (by decide) (by decide)).mono fun b cs hb hk=>⟨hk,List.mem_append_right _ hb⟩,⟨y',p',l+1,c',rfl,by simpa using hO',fun ho=>⟨hy' ho,List.mem_append_left _ (by simp[rowL,ho])⟩⟩,(hfu.keep fun b cs _ hb=>kb hb (by decide) (by decide)).mono fun b cs hb hk=>⟨hk,List.mem_append_right _ hb⟩⟩
   tS:=kt (b:=s.mS) h.tS dmS.1 dmS.2
   tL:=hM
   tF:=kt (b:=s.mF) h.tF dmF.1 dmF.2
   tM:=kt (b:=s.mM) h.tM dmM.1 dmM.2
   uL:=hI
   uF:=kt (b:=s.iF) h.uF diF.1 diF.2
   uM:=kt (b:=s.iM) h.uM diM.1 diM.2
   oT:=C.oT.keep (fun _ _ _ q=>q) fun _=>.inl
   oM:=C.oM.mono fun b m q=>q.keep (fun _ _ _ q=>q) fun _=>.inl
   oF:=C.oF.mono fun b m q=>q.keep (fun _ _ _ q=>q) fun _=>.inl
   oL:=C.oL.snoc (fun b m q=>q.keep (fun _ _ _ q=>q) fun _=>.inl) (hOn.keep (fun _ _ _ q=>q) fun _=>.inr)
   oS:=fun j b v t h1 h2 h3=>((C.oS j b v t h1 h2 h3).imp fun w q=>q.upL (by rw[hlen];exact fun k hk=>((h.wz.sm t (List.mem_of_getElem? h3)).2.2.2.1 k hk).2)).keep (fun _ _ _ q=>q) fun _=>.inl
   oV:=⟨h.oV.1,fun j b t hb ht=>kb (h.oV.2 j b t hb ht) (by decide) (by decide)⟩
   lS:=h.lS
   nV:=h.nV
   nM:=h.nM
   nF:=h.nF
   nL:=List.nodup_append.2 ⟨h.nL,by simp,fun a ha b hb e=>by
    obtain rfl:=List.mem_singleton.1 hb
    subst e
    exact hbn ha⟩
   sM:=h.sM
   sF:=h.sF
   sL:=fun k' u hk=>by
    rw[mget_mset]at hk
    split at hk
    ·next e=>
     subst e;cases hk
     exact ⟨s.locs.length,bn,m2,get_last rfl,get_last hlen,rfl,hkk⟩
    ·obtain ⟨j,b,m0,q1,q2,q3,q4⟩:=h.sL k' u hk
     exact ⟨j,b,m0,get_snoc q1,get_snoc q2,q3,q4⟩
   sS:=h.sS
   rM:=h.rM
   rF:=h.rF
   rL:=fun k' u hk=>by
    rw[mget_mset]at hk
    split at hk
    ·next e=>
     subst e;cases hk
     exact ⟨i,s.locs.length,bn,m,m2,hx,rfl,get_last rfl,get_last hlen,rfl,hpl⟩
    ·obtain ⟨i0,j,b,m0,m1,q1,q2,q3,q4,q5,q6⟩:=h.rL k' u hk
     exact ⟨i0,j,b,m0,m1,q1,q2,get_snoc q3,get_snoc q4,q5,by rw[MG.plK_up h.wz hG q4];exact q6⟩
   wz:=⟨h.wz.mp,h.wz.fn,fun j m0 hj=>by
     rcases snoc_get hj with hj|⟨rfl,rfl⟩
     ·exact h.wz.lc j m0 hj
     ·exact ⟨by rw[hz2.1,hlen],hz2.2⟩,fun t ht=>by
     obtain ⟨q1,q2,q3,q4,q5⟩:=h.wz.sm t ht
     exact ⟨q1,q2,q3,fun k hk=>⟨(q4 k hk).1,by have:=(q4 k hk).2;show k<((s.z.locs++[m2]).length:Int);simp;omega⟩,q5⟩⟩
   bM:=h.bM
   bF:=h.bF
   bL:=⟨by have:=h.bL.1;show (s.z.locs++[m2]).length≤s.cL+(mset s.jL m.id _).length;rw[mset_len hno];simp;omega,h.bL.2⟩ }
 ·exact {
   kx:=(h0.kx.trans k).drop fun b hb=>(List.mem_append.1 hb).elim .inl fun q=>h0.hs b (hLh b q)
   hs:=fun b hb=>(List.mem_append.1 hb).elim (fun q=>(hyb b q).elim (h0.hs b) fun q=>.inr (Nat.le_trans h0.kx.size q)) (h0.hs b)
   hi:=fun b hb=>List.mem_append_right _ (h0.hi b hb)
   cs:=fun b hb=>hb.elim (h0.cs b) fun e=>.inr (hN b e).1
   ci:=fun b hb=>.inl (h0.ci b hb)
   pm:=h0.pm,pb:=h0.pb,per:=h0.per,ty:=h0.ty,types:=h0.types,bl:=h0.bl
   gm:=h0.gm,gf:=h0.gf,gl:=h0.gl.trans (List.prefix_append _ _),gz:=h0.gz.trans hG
   sams:=h0.sams,vals:=h0.vals,kS:=h0.kS,smp:=h0.smp,hd:=h0.hd,cc:=h0.cc }
end Go.Proofs.YtffghbkcomlefaaGreatDoor
namespace Go.Fw
open Go
variable {xs:List Value} {m:Nat}
def putR (xs:List Value) (z:Value) (m:Nat):List Value:=xs.take m++List.replicate (xs.length - m) z
theorem putR_len {z:Value} (h:m≤xs.length):(putR xs z m).length=xs.length:=by simp[putR];omega
theorem putR_step {z v:Value} (h:xs[m]? =some v):setL (putR xs z m) m [v]=putR xs z (m+1):=by
 have hm:=(List.getElem?_eq_some_iff.1 h).1
 have ht:=setL_app (xs.take m) (u:=z) (v:=v) (r:=List.replicate (xs.length - (m+1)) z)
 rw[List.length_take,Nat.min_eq_left (by omega)]at ht
 unfold putR
 rw[show xs.length - m=(xs.length - (m+1))+1 by omega,List.replicate_succ,ht,List.take_add_one,h];simp
theorem putR_skip {z:Value} (h:xs[m]? =some z):putR xs z m=putR xs z (m+1):=by
 have hm:=(List.getElem?_eq_some_iff.1 h).1
 unfold putR
 rw[show xs.length - m=(xs.length - (m+1))+1 by omega,List.replicate_succ,List.take_add_one,h];simp
theorem putR_all {z:Value}:putR xs z xs.length=xs:=by simp[putR]
theorem make_one {z:Value} (h:z.cells= #[z]) (c:Nat):(List.range (c*1)).map (fun i=>z.cells[i%z.cells.size]!)=List.replicate c z:=by
 apply List.eq_replicate_iff.2
 refine ⟨by simp,fun b hb=>?_⟩
 obtain ⟨i, -,rfl⟩:=List.mem_map.1 hb
 rw[h];simp[Nat.mod_one]
theorem hexU_len:∀(k m:Nat),m<16^(k+1)→(hexU m).length≤k+1
 |0,m,h=>by rw[hexU,if_pos (by simpa using h)];simp
 |k+1,m,h=>by
    rw[hexU]
    split
    ·simp
    ·have:=hexU_len k (m/16) (Nat.div_lt_of_lt_mul (by rw[Nat.mul_comm, ← Nat.pow_succ];exact h))
     simp;omega
theorem hexI_len {z:Int} (h:IntKind.i64.wrap z=z):(hexI z).length≤17:=by
 have hr: -9223372036854775808≤z∧z<9223372036854775808:=by
  simp only[IntKind.wrap,IntKind.bits,IntKind.signed]at h
  simp at h;omega
 unfold hexI
 split
 ·have:=hexU_len 15 (-z).toNat (by show _<18446744073709551616;omega)
  simp;omega
 ·have:=hexU_len 15 z.toNat (by show _<18446744073709551616;omega)
  omega
theorem lnTx_small:∀{ls:List PLine},(∀n∈ls,n.fn<2000000∧IntKind.i64.wrap n.line=n.line)→∀x∈lnTx ls,x.length≤17
 |[],_,_,hx=>by cases hx
 |n::r,h,x,hx=>by
    rcases List.mem_cons.1 hx with rfl|hx
    ·unfold fid
     split
     ·have:=hexU_len 15 (n.fn.toNat+1) (by have:=(h n (List.mem_cons_self ..)).1;show _<18446744073709551616;omega)
      omega
     ·simp
    ·rcases List.mem_cons.1 hx with rfl|hx
     ·exact hexI_len (h n (List.mem_cons_self ..)).2
     ·exact lnTx_small (fun m hm=>h m (List.mem_cons_of_mem _ hm)) x hx
theorem lnTx_get:∀{ls:List PLine} {k:Nat} {n:PLine},ls[k]? =some n→(lnTx ls)[k*2]? =some (fid n)∧(lnTx ls)[k*2+1]? =some (hexI n.line)
 |[],_,_,h=>by simp at h
 |m::r,0,n,h=>by cases h;exact ⟨rfl,rfl⟩
 |m::r,k+1,n,h=>by
    have:=lnTx_get (ls:=r) (k:=k) (n:=n) (by simpa using h)
    rw[show (k+1)*2=k*2+2 by omega]
    exact this
end Go.Fw
namespace Go.Proofs.YtffghbkcomlefaaGreatDoor
open Go Go.Fw Go.Proofs Go.Proofs.Tryz
variable {w:World}
theorem fun_at {funs:List Nat} {fs:List PFunc} {i:Int} (hf:Each funs fs fun b f=>Blk w b tFun (cFun f)) (hid:∀(i:Nat) f,fs[i]? =some f→f.id=(i:Int)+1) (h:i<fs.length):
  ∃pf:Option Addr,ptrAt funs i=.pointer pf∧((pf=none∧i<0)∨∃b f,pf=some ⟨b,0,none⟩∧0≤i∧Blk w b tFun (cFun f)∧f.id=i+1):=by
 by_cases h0:0≤i
 ·have hl:i.toNat<fs.length:=by omega
  have hb:funs[i.toNat]? =some (funs[i.toNat]'(by rw[hf.1];exact hl)):=List.getElem?_eq_getElem _
  refine ⟨some ⟨_,0,none⟩,?_,.inr ⟨_,fs[i.toNat],rfl,h0,hf.2 _ _ _ hb (List.getElem?_eq_getElem hl),?_⟩⟩
  ·unfold ptrAt;rw[if_pos h0,hb];rfl
  ·rw[hid _ _ (List.getElem?_eq_getElem hl)];omega
 ·exact ⟨none,ptrAt_neg h0,.inl ⟨rfl,by omega⟩⟩
theorem map_at {maps:List Nat} {ms:List PMapping} {i:Int} (hf:Each maps ms fun b f=>Blk w b tMap (cMap f)) (hid:∀(i:Nat) f,ms[i]? =some f→f.id=(i:Int)+1) (h:i<ms.length):
  ∃pf:Option Addr,ptrAt maps i=.pointer pf∧((pf=none∧i<0∧atZ ms i=none)∨∃b f,pf=some ⟨b,0,none⟩∧0≤i∧Blk w b tMap (cMap f)∧f.id=i+1∧atZ ms i=some f):=by
 by_cases h0:0≤i
 ·have hl:i.toNat<ms.length:=by omega
  have hb:maps[i.toNat]? =some (maps[i.toNat]'(by rw[hf.1];exact hl)):=List.getElem?_eq_getElem _
  refine ⟨some ⟨_,0,none⟩,?_,.inr ⟨_,ms[i.toNat],rfl,h0,hf.2 _ _ _ hb (List.getElem?_eq_getElem hl),?_,?_⟩⟩
  ·unfold ptrAt;rw[if_pos h0,hb];rfl
  ·rw[hid _ _ (List.getElem?_eq_getElem hl)];omega
  ·unfold atZ;rw[if_pos h0,List.getElem?_eq_getElem hl]
 ·exact ⟨none,ptrAt_neg h0,.inl ⟨rfl,by omega,by unfold atZ;rw[if_neg h0]⟩⟩
set_option maxHeartbeats 1000000 in
theorem locKey_c (w:World) (z:PProf) (maps funs:List Nat) (b:Nat) (l:PLoc) (hl:LocP w maps funs b l) (hm:Each maps z.mappings fun b m=>Blk w b tMap (cMap m)) (hf:Each funs z.funcs fun b f=>Blk w b tFun (cFun f))
  (him:∀(i:Nat) m,z.mappings[i]? =some m→m.id=(i:Int)+1) (hif:∀(i:Nat) f,z.funcs[i]? =some f→f.id=(i:Int)+1) (hlm:l.mapping<z.mappings.length) (hln:∀n∈l.lines,n.fn<z.funcs.length∧IntKind.i64.wrap n.line=n.line)
  (hn:l.lines.length≤60) (ha:IntKind.u64.wrap l.addr=l.addr) (hnf:z.funcs.length≤2000000) (hD:Db w):
  Calls Tryz.prog 70 #[ptr b] w (Ret fun v w'=>v=encLc (keyL z l)∧Fr 0 [] w w'):=by
 obtain ⟨ls,hb,hls⟩:=hl.ex
 obtain ⟨pL,lL,cL,rfl,hlL, -,hLx⟩:=hls.openF
 obtain rfl:lL=l.lines.length:=by rw[flatMap_len (c:=cLine funs) (sz:=3) (fun _=>rfl)]at hlL;omega
 obtain ⟨pm,hpm,hpmc⟩:=map_at hm him hlm
 have hc0:Blk w b tLoc [.int .u64 l.id,.pointer pm,.int .u64 l.addr,.slice pL l.lines.length cL,.bool false,.int .u64 0]:=by rw[← hpm];exact hb
 have hcl:=mc (f:=⟨w,0,[]⟩) hc0 rfl
 obtain ⟨T,hT⟩:∃T,T=(lnTx l.lines).map fun x=>Value.string (txt x):=⟨_,rfl⟩
 have hTl:T.length=l.lines.length*2:=by rw[hT,List.length_map,lnTx_len]
 obtain ⟨e0,he0⟩:∃e0:Value,e0=.string ⟨#[]⟩:=⟨_,rfl⟩
 refine startJ (args:=[_]) [(0,_)] 0 [] [] Tryz.func70 rfl Tryz.ntmps70 rfl rfl .nil ?_
 refine sQ fun K1=>cj_reg (j_allocA (zs:=[(.int .u64 0),(.int .u64 0),(.string ⟨#[]⟩),(.bool false)]) zv174 rfl fun b2=>K1 (cj_seqF fun K2 hK2=>cj_drawI 11 (lts [0,1,2,3,4,5,6,7,8]++(9,false)::(10,false)::[]) [0] rfl (by kernel_rfl) (by kernel_rfl) (dM [0] (k:=dN [0] (k:=dF [0] 2 ru93 so76 (k:=dL [0] ag76 hcl 2 (k:=dM [0] (k:=dN [0] (k:=dF [0] 4 ru93 so4 (k:=dL [0] ag4 hcl 4 (k:=?_)))))))))))
 refine dj_val rfl rfl (sub_of [0] rfl) (fun _ _ h=>r_build (cs:=[_,(.int .u64 0),(.string ⟨#[]⟩),_]) bt174 rfl rfl h) (dE (h:=fun Kd=>j_allocA (zs:=[(.int .u64 0),(.int .u64 0),(.string ⟨#[]⟩),(.bool false)]) zv174 rfl fun b3=>Kd (sb [1]) (dE (h:=fun Kd=>jB [_,_,_,_] [_,_] 0 so174 (k:=Kd (sb [1]) (dj_end (ej_then (hK2 _ _ _ (CJ.t [(0,_),(2,_),(3,_)] (k:=sQ fun K3=>sQ fun K4=>cj_reg (jM (k:=?_))))))))))))
 refine jN (k:=jF 1 ru93 so79 (k:=jL ag79 hcl 1 (k:=?_)))
 refine j_val rfl (fun _ _ h=>r_pnneq ud79 rfl h) (K4 ?_)
 refine cj_if rfl (fun h20=>?_) (fun h20=>?_)
 ·obtain ⟨bm,m,rfl,hm0,hbm,hmid,hmz⟩:∃b f,pm=some ⟨b,0,none⟩∧0≤l.mapping∧Blk w b tMap (cMap f)∧f.id=l.mapping+1∧atZ z.mappings l.mapping=some f:=by
   rcases hpmc with ⟨rfl, -⟩|h
   ·cases h20
   ·exact h
  have hcm:=mc (f:=⟨w,0,[]⟩) hbm rfl
  have hAA:IntKind.u64.wrap (l.addr - m.start)=IntKind.u64.wrap (l.addr - ((atZ z.mappings l.mapping).map (·.start)).getD 0):=by rw[hmz];rfl
  have hMM:m.id=mid l:=by unfold mid;rw[if_pos hm0,hmid]
  refine sQ fun K5=>cj_drawI 11 (lts [0,1,2,3,4,5,6,7,8,9,10]++(11,false)::[]) [0] rfl (by kernel_rfl) (by kernel_rfl) (dF [0] 0 ru174 so76 (k:=dH [0] 0 ag76 (k:=dM [0] (k:=dN [0] (k:=dF [0] 1 ru93 so79 (k:=dL [0] ag79 hcl 1 (k:=dN [0] (k:=dF [0] 1 ru81 so76 (k:=dL [0] ag76 hcm 1 (k:=?_))))))))))
  refine dj_val rfl rfl (sub_of [0] rfl) (fun _ _ h=>r_sub rfl rfl h) (dF [0] 0 ru174 so76 (k:=dE (h:=fun Kd=>jB [_,_,_,_] [_,_] 0 so76 (k:=Kd (.inl rfl) (K5 (CJ.t [(0,_),(2,_),(3,_)] (k:=cj_reg (jM (k:=jN (k:=jF 1 ru93 so79 (k:=jL ag79 hcl 1 (k:=jN (k:=jF 0 ru81 so76 (k:=?_))))))))))))))
  refine jL ag76 hcm 0 (k:=jF 1 ru174 so76 (k:=jB [_,_,_,_] [_,_] 0 so76 (k:=K3 (sQ fun K6=>cj_reg (jM (k:=jN (k:=jF 3 ru93 so91 (k:=jL ag91 hcl 3 (k:=jE ru91 (k:=?_))))))))))
  refine j_val rfl (fun _ _ h=>r_mul rfl rfl h) ?_
  refine j_eqv (u:=.int .i64 ((l.lines.length*2:Nat):Int)) (by rw[show IntKind.i64.wrap ((l.lines.length:Nat)*2)=((l.lines.length*2:Nat):Int) by simp only[IntKind.wrap,IntKind.bits,IntKind.signed];simp;omega]) ?_
  refine j_make (l:=l.lines.length*2) ru29 el9 rfl rfl rfl (Nat.le_refl _) (by omega) rfl fun b46 cs46 _ hcs46=>?_
  replace hcs46:cs46=putR T e0 0:=by rw[hcs46 _ zv9,make_one rfl, ← he0,putR,hTl];simp
  subst hcs46
  refine jA (k:=K6 (CJ.t [(0,_),(2,_),(3,_),(4,_)] (k:=sQ fun K7=>sQ fun K8=>cj_reg (jM (k:=jN (k:=jF 3 ru93 so91 (k:=jL ag91 hcl 3 (k:=jE ru91 (k:=jM (k:=K8 (cj_block ?_)))))))))))
  refine cj_loop (σ:=Nat×Int×Int) (fun s=>[(2,ptr b2),(3,ptr b3),(4,.slice (some ⟨b46,0,none⟩) (l.lines.length*2) (l.lines.length*2)),(50,.slice pL l.lines.length cL),(51,.int .i64 (l.lines.length:Nat)),(52,.int .i64 (s.1:Nat))])
   (fun s=>[⟨b46,tStr,putR T e0 (s.1*2),true,true,none⟩,⟨b3,174,[.int .u64 s.2.1,.int .u64 s.2.2,.string ⟨#[]⟩,.bool false],true,true,none⟩,⟨b2,174,[.int .u64 0,.int .u64 0,.string ⟨#[]⟩,.bool false],true,true,none⟩])
   (fun s _=>s.1≤l.lines.length∧s.2.1=IntKind.u64.wrap (l.addr - ((atZ z.mappings l.mapping).map (·.start)).getD 0)∧s.2.2=mid l) (fun s=>l.lines.length - s.1)
   (0,_,_) sR (fun w' hH hf=>⟨hH,Nat.zero_le _,hAA,hMM⟩) ?_
  rintro ⟨k,kA,kM⟩ w1 ⟨hk,hkA,hkM⟩ hf1 hH1 KL hKL
  try dsimp only at hk hkA hkM
  refine C.begin _ _ hf1 hH1 ?_
  try dsimp only
  refine sQ fun K9=>cj_reg (jS (k:=K9 (sQ fun K10=>?_)))
  refine cj_dec rfl (fun h53=>?_) (fun h53=>?_)
  ·have hk':k<l.lines.length:=by omega
   obtain ⟨bl,rfl,hlc⟩:=hLx (by omega)
   obtain ⟨hfn1,hfn2⟩:=hln _ (List.getElem_mem hk')
   obtain ⟨pf,hpf,hpfc⟩:=fun_at hf hif hfn1
   have hcr:∀w',Fm.ok ⟨w,0,[]⟩ w'→∀(i:Nat) (u:Value),([.pointer pf,.int .i64 l.lines[k].line,.int .u64 0]:List Value)[i]? =some u→w'.cell? ⟨bl,0+k*3+i,none⟩=some u:=fun w' hf i u hu=>by rw[Nat.zero_add];exact hlc ⟨w,0,[]⟩ rfl rfl w' hf _ _ (flatMap_get (c:=cLine funs) (sz:=3) (fun _=>rfl) (List.getElem?_eq_getElem hk') i u (by rw[← hpf]at hu;exact hu))
   have hkw:IntKind.i64.wrap ((k:Nat)*2)=((k*2:Nat):Int):=by simp only[IntKind.wrap,IntKind.bits,IntKind.signed];simp;omega
   have hkw1:IntKind.i64.wrap (((k*2:Nat):Int)+1)=((k*2+1:Nat):Int):=by simp only[IntKind.wrap,IntKind.bits,IntKind.signed];simp;omega
   obtain ⟨ht0,ht1⟩:=lnTx_get (List.getElem?_eq_getElem hk')
   replace ht0:T[k*2]? =some (.string (txt (fid l.lines[k]))):=by rw[hT,List.getElem?_map,ht0];rfl
   replace ht1:T[k*2+1]? =some (.string (txt (hexI l.lines[k].line))):=by rw[hT,List.getElem?_map,ht1];rfl
   refine cj_skip (K10 (sQ fun K11=>cj_block (sQ fun K12=>cj_reg (jM (k:=jJ ru91 so97 (k:=?_))))))
   refine j_valw rfl (fun a w ha hH hf=>r_loadA (vs:=[.pointer pf,.int .i64 l.lines[k].line,.int .u64 0]) ag97 so97 rfl rfl (hcr w hf) ha) (j_allocA (zs:=[(.pointer none),(.int .i64 0),(.int .u64 0)]) zv97 rfl fun b6=>jA (k:=jB [_,_,_] [_,_,_,_] 0 so97 (k:=K12 (sQ fun K13=>sQ fun K14=>cj_reg (jF 0 ru97 so84 (k:=jH 0 ag84 (k:=?_)))))))
   refine j_val rfl (fun _ _ h=>r_pnneq ud84 rfl h) (K14 ?_)
   refine cj_if rfl (fun h59=>?_) (fun h59=>?_)
   ·obtain ⟨bf,fn,rfl,hfn0,hbf,hfid⟩:∃b f,pf=some ⟨b,0,none⟩∧0≤l.lines[k].fn∧Blk w b tFun (cFun f)∧f.id=l.lines[k].fn+1:=by
     rcases hpfc with ⟨rfl, -⟩|h
     ·cases h59
     ·exact h
    have hcf:=mc (f:=⟨w,0,[]⟩) hbf rfl
    have hfx:(fn.id:Int)=((l.lines[k].fn.toNat+1:Nat):Int):=by omega
    refine cj_reg (jM (k:=jM (k:=?_)))
    refine j_val rfl (fun _ _ h=>r_mul rfl rfl h) ?_
    refine j_eqv (u:=.int .i64 ((k*2:Nat):Int)) (by rw[hkw]) ?_
    refine jF 0 ru97 so84 (k:=jH 0 ag84 (k:=jN (k:=jF 0 ru86 so76 (k:=jL ag76 hcf 0 (k:=?_)))))
    rw[hfx]
    refine j_callQ (φ:=fun v=>v=.string (txt (hexU (l.lines[k].fn.toNat+1)))) Tryz.call62 rfl rfl (fun w' hH hf=>fu16_c w' (l.lines[k].fn.toNat+1) (by omega) (hD.keep (Fr.keepAll hf (.inr rfl)))) fun v hv=>?_
    subst hv
    refine jJ ru29 so9 (k:=?_)
    refine j_storeN (cs':=putR T e0 (k*2+1)) (H':=_) (o:=0+k*2*1) 1 rfl rfl rfl rfl so9 rfl rfl rfl rfl (Nat.ble_eq_true_of_le (by show 0+k*2*1+1≤(putR T e0 (k*2)).length;rw[putR_len (by omega)];omega)) (by rw[Nat.zero_add,Nat.mul_one];refine putR_step ?_;rw[ht0];unfold fid;rw[if_pos hfn0]) rfl ?_
    refine K13 (CJ.t [(2,_),(3,_),(4,_),(5,_),(6,_),(50,_),(51,_),(52,_)] (k:=cj_reg (jM (k:=jM (k:=?_)))))
    refine j_val rfl (fun _ _ h=>r_mul rfl rfl h) ?_
    refine j_eqv (u:=.int .i64 ((k*2:Nat):Int)) (by rw[hkw]) ?_
    refine j_val rfl (fun _ _ h=>r_add rfl rfl h) ?_
    refine j_eqv (u:=.int .i64 ((k*2+1:Nat):Int)) (by rw[hkw1]) ?_
    refine jF 1 ru97 so2 (k:=jH 0 ag2 (k:=?_))
    refine j_callQ (φ:=fun v=>v=.string (txt (hexI l.lines[k].line))) Tryz.call85 rfl rfl (fun w' hH hf=>fi16_c w' l.lines[k].line hfn2 (hD.keep (Fr.keepAll hf (.inr rfl)))) fun v hv=>?_
    subst hv
    refine jJ ru29 so9 (k:=?_)
    refine j_storeN (cs':=putR T e0 ((k+1)*2)) (H':=_) (o:=0+(k*2+1)*1) 1 rfl rfl rfl rfl so9 rfl rfl rfl rfl (Nat.ble_eq_true_of_le (by show 0+(k*2+1)*1+1≤(putR T e0 (k*2+1)).length;rw[putR_len (by omega)];omega)) (by rw[Nat.zero_add,Nat.mul_one,show (k+1)*2=k*2+1+1 by omega];exact putR_step ht1) rfl ?_
    refine K11 (cj_reg (jI (k:=jM (k:=j_nil (ej_then ?_)))))
    exact fun w' hH hf=>hKL (k+1,kA,kM) _ w' ⟨hk',hkA,hkM⟩ hf (hH.drop 0) (by simp only;omega) sR
   ·have hlt:l.lines[k].fn<0:=by
     rcases hpfc with ⟨-,h⟩|⟨_,_,rfl, -⟩
     ·exact h
     ·cases h59
    rw[show putR T e0 (k*2)=putR T e0 (k*2+1) from putR_skip (by rw[ht0,he0];unfold fid;rw[if_neg (by omega)];rfl)]
    refine cj_skip (K13 (CJ.t [(2,_),(3,_),(4,_),(5,_),(6,_),(50,_),(51,_),(52,_)] (k:=cj_reg (jM (k:=jM (k:=?_))))))
    refine j_val rfl (fun _ _ h=>r_mul rfl rfl h) ?_
    refine j_eqv (u:=.int .i64 ((k*2:Nat):Int)) (by rw[hkw]) ?_
    refine j_val rfl (fun _ _ h=>r_add rfl rfl h) ?_
    refine j_eqv (u:=.int .i64 ((k*2+1:Nat):Int)) (by rw[hkw1]) ?_
    refine jF 1 ru97 so2 (k:=jH 0 ag2 (k:=?_))
    refine j_callQ (φ:=fun v=>v=.string (txt (hexI l.lines[k].line))) Tryz.call85 rfl rfl (fun w' hH hf=>fi16_c w' l.lines[k].line hfn2 (hD.keep (Fr.keepAll hf (.inr rfl)))) fun v hv=>?_
    subst hv
    refine jJ ru29 so9 (k:=?_)
    refine j_storeN (cs':=putR T e0 ((k+1)*2)) (H':=_) (o:=0+(k*2+1)*1) 1 rfl rfl rfl rfl so9 rfl rfl rfl rfl (Nat.ble_eq_true_of_le (by show 0+(k*2+1)*1+1≤(putR T e0 (k*2+1)).length;rw[putR_len (by omega)];omega)) (by rw[Nat.zero_add,Nat.mul_one,show (k+1)*2=k*2+1+1 by omega];exact putR_step ht1) rfl ?_
    refine K11 (cj_reg (jI (k:=jM (k:=j_nil (ej_then ?_)))))
    exact fun w' hH hf=>hKL (k+1,kA,kM) _ w' ⟨hk',hkA,hkM⟩ hf (hH.drop 0) (by simp only;omega) sR
  ·have hke:k=l.lines.length:=by omega
   subst hke
   rw[← hTl,putR_all,hTl]
   refine cj_exit (K7 (CJ.t [(2,_),(3,_),(4,_)] (k:=sQ fun K15=>cj_reg (jM (k:=?_)))))
   refine j_callQ (φ:=fun v=>v=.string (txt (Lib.join (lnTx l.lines) [124]))) Tryz.call75 rfl rfl (fun w' hH hf=>joinB_c w' b46 (l.lines.length*2) (lnTx l.lines) 124 (by rw[lnTx_len]) (by rw[← hT];exact hH.get (i:=0) rfl rfl) (by rw[lnTx_len];omega) (fun x hx=>Nat.le_trans (lnTx_small (fun n hn=>⟨by have:=(hln n hn).1;omega,(hln n hn).2⟩) x hx) (by decide))) fun v hv=>?_
   subst hv
   refine jF 2 ru174 so9 (k:=jB [_,_,_,_] [_,_,_] 1 so9 (k:=K15 (sQ fun K16=>cj_reg ?_)))
   refine j_valw rfl (fun a w ha hH hf=>r_ldA (vs:=[_,_,_,_]) 1 rfl rfl ag174 so174 rfl rfl rfl ha hH) (jB [_,_,_,_] [_,_,_] 2 so174 (k:=K16 (cj_ret ?_)))
   exact ej_ret1C Tryz.results70 ag174 so174 rfl rfl (fun w' hH hf=>⟨_,hH.get (i:=2) rfl rfl⟩) fun w' hH hf=>⟨by rw[hkA,hkM];rfl,hf⟩
 ·obtain ⟨rfl,hm0,hmz⟩:pm=none∧l.mapping<0∧atZ z.mappings l.mapping=none:=by
   rcases hpmc with h|⟨_,_,rfl, -⟩
   ·exact h
   ·cases h20
  have hAA:l.addr=IntKind.u64.wrap (l.addr - ((atZ z.mappings l.mapping).map (·.start)).getD 0):=by rw[hmz];show l.addr=IntKind.u64.wrap (l.addr - 0);rw[Int.sub_zero,ha]
  have hMM:(0:Int)=mid l:=by unfold mid;rw[if_neg (by omega)]
  refine cj_skip (K3 (sQ fun K17=>cj_reg (jM (k:=jN (k:=jF 3 ru93 so91 (k:=jL ag91 hcl 3 (k:=jE ru91 (k:=?_))))))))
  refine j_val rfl (fun _ _ h=>r_mul rfl rfl h) ?_
  refine j_eqv (u:=.int .i64 ((l.lines.length*2:Nat):Int)) (by rw[show IntKind.i64.wrap ((l.lines.length:Nat)*2)=((l.lines.length*2:Nat):Int) by simp only[IntKind.wrap,IntKind.bits,IntKind.signed];simp;omega]) ?_
  refine j_make (l:=l.lines.length*2) ru29 el9 rfl rfl rfl (Nat.le_refl _) (by omega) rfl fun b46 cs46 _ hcs46=>?_
  replace hcs46:cs46=putR T e0 0:=by rw[hcs46 _ zv9,make_one rfl, ← he0,putR,hTl];simp
  subst hcs46
  refine jA (k:=K17 (CJ.t [(0,_),(2,_),(3,_),(4,_)] (k:=sQ fun K18=>sQ fun K19=>cj_reg (jM (k:=jN (k:=jF 3 ru93 so91 (k:=jL ag91 hcl 3 (k:=jE ru91 (k:=jM (k:=K19 (cj_block ?_)))))))))))
  refine cj_loop (σ:=Nat×Int×Int) (fun s=>[(2,ptr b2),(3,ptr b3),(4,.slice (some ⟨b46,0,none⟩) (l.lines.length*2) (l.lines.length*2)),(50,.slice pL l.lines.length cL),(51,.int .i64 (l.lines.length:Nat)),(52,.int .i64 (s.1:Nat))])
   (fun s=>[⟨b46,tStr,putR T e0 (s.1*2),true,true,none⟩,⟨b3,174,[.int .u64 s.2.1,.int .u64 s.2.2,.string ⟨#[]⟩,.bool false],true,true,none⟩,⟨b2,174,[.int .u64 0,.int .u64 0,.string ⟨#[]⟩,.bool false],true,true,none⟩])
   (fun s _=>s.1≤l.lines.length∧s.2.1=IntKind.u64.wrap (l.addr - ((atZ z.mappings l.mapping).map (·.start)).getD 0)∧s.2.2=mid l) (fun s=>l.lines.length - s.1)
   (0,_,_) sR (fun w' hH hf=>⟨hH,Nat.zero_le _,hAA,hMM⟩) ?_
  rintro ⟨k,kA,kM⟩ w1 ⟨hk,hkA,hkM⟩ hf1 hH1 KL hKL
  try dsimp only at hk hkA hkM
  refine C.begin _ _ hf1 hH1 ?_
  try dsimp only
  refine sQ fun K20=>cj_reg (jS (k:=K20 (sQ fun K21=>?_)))
  refine cj_dec rfl (fun h53=>?_) (fun h53=>?_)
  ·have hk':k<l.lines.length:=by omega
   obtain ⟨bl,rfl,hlc⟩:=hLx (by omega)
   obtain ⟨hfn1,hfn2⟩:=hln _ (List.getElem_mem hk')
   obtain ⟨pf,hpf,hpfc⟩:=fun_at hf hif hfn1
   have hcr:∀w',Fm.ok ⟨w,0,[]⟩ w'→∀(i:Nat) (u:Value),([.pointer pf,.int .i64 l.lines[k].line,.int .u64 0]:List Value)[i]? =some u→w'.cell? ⟨bl,0+k*3+i,none⟩=some u:=fun w' hf i u hu=>by rw[Nat.zero_add];exact hlc ⟨w,0,[]⟩ rfl rfl w' hf _ _ (flatMap_get (c:=cLine funs) (sz:=3) (fun _=>rfl) (List.getElem?_eq_getElem hk') i u (by rw[← hpf]at hu;exact hu))
   have hkw:IntKind.i64.wrap ((k:Nat)*2)=((k*2:Nat):Int):=by simp only[IntKind.wrap,IntKind.bits,IntKind.signed];simp;omega
   have hkw1:IntKind.i64.wrap (((k*2:Nat):Int)+1)=((k*2+1:Nat):Int):=by simp only[IntKind.wrap,IntKind.bits,IntKind.signed];simp;omega
   obtain ⟨ht0,ht1⟩:=lnTx_get (List.getElem?_eq_getElem hk')
   replace ht0:T[k*2]? =some (.string (txt (fid l.lines[k]))):=by rw[hT,List.getElem?_map,ht0];rfl
   replace ht1:T[k*2+1]? =some (.string (txt (hexI l.lines[k].line))):=by rw[hT,List.getElem?_map,ht1];rfl
   refine cj_skip (K21 (sQ fun K22=>cj_block (sQ fun K23=>cj_reg (jM (k:=jJ ru91 so97 (k:=?_))))))
   refine j_valw rfl (fun a w ha hH hf=>r_loadA (vs:=[.pointer pf,.int .i64 l.lines[k].line,.int .u64 0]) ag97 so97 rfl rfl (hcr w hf) ha) (j_allocA (zs:=[(.pointer none),(.int .i64 0),(.int .u64 0)]) zv97 rfl fun b6=>jA (k:=jB [_,_,_] [_,_,_,_] 0 so97 (k:=K23 (sQ fun K24=>sQ fun K25=>cj_reg (jF 0 ru97 so84 (k:=jH 0 ag84 (k:=?_)))))))
   refine j_val rfl (fun _ _ h=>r_pnneq ud84 rfl h) (K25 ?_)
   refine cj_if rfl (fun h59=>?_) (fun h59=>?_)
   ·obtain ⟨bf,fn,rfl,hfn0,hbf,hfid⟩:∃b f,pf=some ⟨b,0,none⟩∧0≤l.lines[k].fn∧Blk w b tFun (cFun f)∧f.id=l.lines[k].fn+1:=by
     rcases hpfc with ⟨rfl, -⟩|h
     ·cases h59
     ·exact h
    have hcf:=mc (f:=⟨w,0,[]⟩) hbf rfl
    have hfx:(fn.id:Int)=((l.lines[k].fn.toNat+1:Nat):Int):=by omega
    refine cj_reg (jM (k:=jM (k:=?_)))
    refine j_val rfl (fun _ _ h=>r_mul rfl rfl h) ?_
    refine j_eqv (u:=.int .i64 ((k*2:Nat):Int)) (by rw[hkw]) ?_
    refine jF 0 ru97 so84 (k:=jH 0 ag84 (k:=jN (k:=jF 0 ru86 so76 (k:=jL ag76 hcf 0 (k:=?_)))))
    rw[hfx]
    refine j_callQ (φ:=fun v=>v=.string (txt (hexU (l.lines[k].fn.toNat+1)))) Tryz.call62 rfl rfl (fun w' hH hf=>fu16_c w' (l.lines[k].fn.toNat+1) (by omega) (hD.keep (Fr.keepAll hf (.inr rfl)))) fun v hv=>?_
    subst hv
    refine jJ ru29 so9 (k:=?_)
    refine j_storeN (cs':=putR T e0 (k*2+1)) (H':=_) (o:=0+k*2*1) 1 rfl rfl rfl rfl so9 rfl rfl rfl rfl (Nat.ble_eq_true_of_le (by show 0+k*2*1+1≤(putR T e0 (k*2)).length;rw[putR_len (by omega)];omega)) (by rw[Nat.zero_add,Nat.mul_one];refine putR_step ?_;rw[ht0];unfold fid;rw[if_pos hfn0]) rfl ?_
    refine K24 (CJ.t [(2,_),(3,_),(4,_),(5,_),(6,_),(50,_),(51,_),(52,_)] (k:=cj_reg (jM (k:=jM (k:=?_)))))
    refine j_val rfl (fun _ _ h=>r_mul rfl rfl h) ?_
    refine j_eqv (u:=.int .i64 ((k*2:Nat):Int)) (by rw[hkw]) ?_
    refine j_val rfl (fun _ _ h=>r_add rfl rfl h) ?_
    refine j_eqv (u:=.int .i64 ((k*2+1:Nat):Int)) (by rw[hkw1]) ?_
    refine jF 1 ru97 so2 (k:=jH 0 ag2 (k:=?_))
    refine j_callQ (φ:=fun v=>v=.string (txt (hexI l.lines[k].line))) Tryz.call85 rfl rfl (fun w' hH hf=>fi16_c w' l.lines[k].line hfn2 (hD.keep (Fr.keepAll hf (.inr rfl)))) fun v hv=>?_
    subst hv
    refine jJ ru29 so9 (k:=?_)
    refine j_storeN (cs':=putR T e0 ((k+1)*2)) (H':=_) (o:=0+(k*2+1)*1) 1 rfl rfl rfl rfl so9 rfl rfl rfl rfl (Nat.ble_eq_true_of_le (by show 0+(k*2+1)*1+1≤(putR T e0 (k*2+1)).length;rw[putR_len (by omega)];omega)) (by rw[Nat.zero_add,Nat.mul_one,show (k+1)*2=k*2+1+1 by omega];exact putR_step ht1) rfl ?_
    refine K22 (cj_reg (jI (k:=jM (k:=j_nil (ej_then ?_)))))
    exact fun w' hH hf=>hKL (k+1,kA,kM) _ w' ⟨hk',hkA,hkM⟩ hf (hH.drop 0) (by simp only;omega) sR
   ·have hlt:l.lines[k].fn<0:=by
     rcases hpfc with ⟨-,h⟩|⟨_,_,rfl, -⟩
     ·exact h
     ·cases h59
    rw[show putR T e0 (k*2)=putR T e0 (k*2+1) from putR_skip (by rw[ht0,he0];unfold fid;rw[if_neg (by omega)];rfl)]
    refine cj_skip (K24 (CJ.t [(2,_),(3,_),(4,_),(5,_),(6,_),(50,_),(51,_),(52,_)] (k:=cj_reg (jM (k:=jM (k:=?_))))))
    refine j_val rfl (fun _ _ h=>r_mul rfl rfl h) ?_
    refine j_eqv (u:=.int .i64 ((k*2:Nat):Int)) (by rw[hkw]) ?_
    refine j_val rfl (fun _ _ h=>r_add rfl rfl h) ?_
    refine j_eqv (u:=.int .i64 ((k*2+1:Nat):Int)) (by rw[hkw1]) ?_
    refine jF 1 ru97 so2 (k:=jH 0 ag2 (k:=?_))
    refine j_callQ (φ:=fun v=>v=.string (txt (hexI l.lines[k].line))) Tryz.call85 rfl rfl (fun w' hH hf=>fi16_c w' l.lines[k].line hfn2 (hD.keep (Fr.keepAll hf (.inr rfl)))) fun v hv=>?_
    subst hv
    refine jJ ru29 so9 (k:=?_)
    refine j_storeN (cs':=putR T e0 ((k+1)*2)) (H':=_) (o:=0+(k*2+1)*1) 1 rfl rfl rfl rfl so9 rfl rfl rfl rfl (Nat.ble_eq_true_of_le (by show 0+(k*2+1)*1+1≤(putR T e0 (k*2+1)).length;rw[putR_len (by omega)];omega)) (by rw[Nat.zero_add,Nat.mul_one,show (k+1)*2=k*2+1+1 by omega];exact putR_step ht1) rfl ?_
    refine K22 (cj_reg (jI (k:=jM (k:=j_nil (ej_then ?_)))))
    exact fun w' hH hf=>hKL (k+1,kA,kM) _ w' ⟨hk',hkA,hkM⟩ hf (hH.drop 0) (by simp only;omega) sR
  ·have hke:k=l.lines.length:=by omega
   subst hke
   rw[← hTl,putR_all,hTl]
   refine cj_exit (K18 (CJ.t [(2,_),(3,_),(4,_)] (k:=sQ fun K26=>cj_reg (jM (k:=?_)))))
   refine j_callQ (φ:=fun v=>v=.string (txt (Lib.join (lnTx l.lines) [124]))) Tryz.call75 rfl rfl (fun w' hH hf=>joinB_c w' b46 (l.lines.length*2) (lnTx l.lines) 124 (by rw[lnTx_len]) (by rw[← hT];exact hH.get (i:=0) rfl rfl) (by rw[lnTx_len];omega) (fun x hx=>Nat.le_trans (lnTx_small (fun n hn=>⟨by have:=(hln n hn).1;omega,(hln n hn).2⟩) x hx) (by decide))) fun v hv=>?_
   subst hv
   refine jF 2 ru174 so9 (k:=jB [_,_,_,_] [_,_,_] 1 so9 (k:=K26 (sQ fun K27=>cj_reg ?_)))
   refine j_valw rfl (fun a w ha hH hf=>r_ldA (vs:=[_,_,_,_]) 1 rfl rfl ag174 so174 rfl rfl rfl ha hH) (jB [_,_,_,_] [_,_,_] 2 so174 (k:=K27 (cj_ret ?_)))
   exact ej_ret1C Tryz.results70 ag174 so174 rfl rfl (fun w' hH hf=>⟨_,hH.get (i:=2) rfl rfl⟩) fun w' hH hf=>⟨by rw[hkA,hkM];rfl,hf⟩
end Go.Proofs.YtffghbkcomlefaaGreatDoor
namespace Go.Proofs
open Go.Shelf
def Tryz.lays192_ren:Go.Shelf.Ren:=⟨fun|192=>72|190=>86|125=>77|258=>116|128=>98|129=>99|302=>136|303=>137|304=>138|305=>139|306=>140|307=>141|308=>142|309=>143|310=>144|333=>154|329=>120|330=>121|334=>155|335=>156|336=>157|344=>158|n=>n,fun|31=>29|0=>0|9=>9|3=>3|46=>182|51=>207|53=>76|4=>4|183=>200|182=>199|131=>204|5=>5|218=>228|222=>232|228=>252|229=>253|n=>n,fun|n=>n⟩
theorem Tryz.lays192:Go.Proofs.Lays.n192 Tryz.prog Tryz.lays192_ren:={
 mixed:=by kernel_rfl
 f125:=Tryz.func77.trans (congrArg some (by kernel_rfl))
 f128:=Tryz.func98.trans (congrArg some (by kernel_rfl))
 f129:=Tryz.func99.trans (congrArg some (by kernel_rfl))
 f190:=Tryz.func86.trans (congrArg some (by kernel_rfl))
 f192:=Tryz.func72.trans (congrArg some (by kernel_rfl))
 f258:=Tryz.func116.trans (congrArg some (by kernel_rfl))
 f302:=Tryz.func136.trans (congrArg some (by kernel_rfl))
 f303:=Tryz.func137.trans (congrArg some (by kernel_rfl))
 f304:=Tryz.func138.trans (congrArg some (by kernel_rfl))
 f305:=Tryz.func139.trans (congrArg some (by kernel_rfl))
 f306:=Tryz.func140.trans (congrArg some (by kernel_rfl))
 f307:=Tryz.func141.trans (congrArg some (by kernel_rfl))
 f308:=Tryz.func142.trans (congrArg some (by kernel_rfl))
 f309:=Tryz.func143.trans (congrArg some (by kernel_rfl))
 f310:=Tryz.func144.trans (congrArg some (by kernel_rfl))
 f329:=Tryz.func120.trans (congrArg some (by kernel_rfl))
 f330:=Tryz.func121.trans (congrArg some (by kernel_rfl))
 f333:=Tryz.func154.trans (congrArg some (by kernel_rfl))
 f334:=Tryz.func155.trans (congrArg some (by kernel_rfl))
 f335:=Tryz.func156.trans (congrArg some (by kernel_rfl))
 f336:=Tryz.func157.trans (congrArg some (by kernel_rfl))
 f344:=Tryz.func158.trans (congrArg some (by kernel_rfl))
 t0:=Tryz.underlying0
 a0:=Tryz.isAgg0
 z0:=Tryz.sizeOf0
 v0:=Tryz.zeroValue0
 t3:=Tryz.underlying3
 a3:=Tryz.isAgg3
 z3:=Tryz.sizeOf3
 v3:=Tryz.zeroValue3
 t4:=Tryz.underlying4
 a4:=Tryz.isAgg4
 z4:=Tryz.sizeOf4
 v4:=Tryz.zeroValue4
 t5:=Tryz.underlying5
 a5:=Tryz.isAgg5
 z5:=Tryz.sizeOf5
 v5:=Tryz.zeroValue5
 t9:=Tryz.underlying9
 a9:=Tryz.isAgg9
 z9:=Tryz.sizeOf9
 v9:=Tryz.zeroValue9
 t31:=Tryz.underlying29
 a31:=Tryz.isAgg29
 z31:=Tryz.sizeOf29
 v31:=Tryz.zeroValue29
 t46:=Tryz.underlying182
 a46:=Tryz.isAgg182
 z46:=Tryz.sizeOf182
 v46:=Tryz.zeroValue182
 t51:=Tryz.underlying207
 a51:=Tryz.isAgg207
 z51:=Tryz.sizeOf207
 v51:=Tryz.zeroValue207
 t53:=Tryz.underlying76
 a53:=Tryz.isAgg76
 z53:=Tryz.sizeOf76
 v53:=Tryz.zeroValue76
 t131:=Tryz.underlying204
 a131:=Tryz.isAgg204
 z131:=Tryz.sizeOf204
 v131:=Tryz.zeroValue204
 t182:=Tryz.underlying199
 a182:=Tryz.isAgg199
 z182:=Tryz.sizeOf199
 v182:=Tryz.zeroValue199
 t183:=Tryz.underlying200
 a183:=Tryz.isAgg200
 z183:=Tryz.sizeOf200
 v183:=Tryz.zeroValue200
 t218:=Tryz.underlying228
 a218:=Tryz.isAgg228
 z218:=Tryz.sizeOf228
 v218:=Tryz.zeroValue228
 t222:=Tryz.underlying232
 a222:=Tryz.isAgg232
 z222:=Tryz.sizeOf232
 v222:=Tryz.zeroValue232
 t228:=Tryz.underlying252
 a228:=Tryz.isAgg252
 z228:=Tryz.sizeOf252
 v228:=Tryz.zeroValue252
 t229:=Tryz.underlying253
 a229:=Tryz.isAgg253
 z229:=Tryz.sizeOf253
 v229:=Tryz.zeroValue253 }
open Go.Sort Go.RowKit in
theorem Tryz.sort_Strings (blk off cap:Nat) (ss:List (List UInt8)) (w:World) (hH:Holds encStr w blk off ss.toArray) (hblk:blk<w.heap.size) (hsz:ss.length<4611686018427387904):
  Calls Tryz.prog 72 #[.slice (some ⟨blk,off,none⟩) ss.length cap] w fun e w'=>
   e=.returned (.tuple #[])∧∃n os,w'=grow (putRow encStr (Sort.ahead w n) blk off (ss.mergeSort fun x y=>decide (x≤y)).toArray) os:=Any.sort_Strings Tryz.lays192 blk off cap ss w hH hblk hsz
open Go.RowKit Go.Sort in
theorem Tryz.sort_Strings_none (p:Option Addr) (cap:Nat) (w:World):
  Calls Tryz.prog 72 #[.slice p 0 cap] w fun e w'=>e=.returned (.tuple #[])∧w'=w:=Any.sort_Strings_none Tryz.lays192 p cap w
end Go.Proofs
namespace Go.Fw
open Go
variable {a:Act} {t:Nat} {w:World}
section
variable {P:Program} {n:Nat} {e:Env} {d ty:Nat} {pos:String} {af:Array Edge}
theorem r_stadd {t':Nat} {x y:Operand} {p q:List UInt8} (hx:ev e x=some (.string (txt p))) (hy:ev e y=some (.string (txt q))) (hl:p.length+q.length≤9223372036854775807) (ha:Sat n e a):
  (execOp a.eval ⟨some d,.binOp .add t x y t',ty,pos,af,none⟩).run P w=.ok (.value (.string (txt (p++q)))) w:=by
 have h:txt p++txt q=txt (p++q):=by
  apply ByteArray.ext
  simp[txt,ByteArray.data_append]
 have h2:((txt p).size:Int)+((txt q).size:Int)≤9223372036854775807:=by
  have h3:∀l:List UInt8,(txt l).size=l.length:=fun l=>by simp[txt,ByteArray.size]
  rw[h3,h3];omega
 simp only[execOp,ha.ev hx,ha.ev hy];simp[eqGuard,binOp,Op.stringOp,h,h2]
theorem r_mlenM {rt kt vt ck:Nat} {mo:Option Nat} {es:List MapEntry} {m:Operand} (hu:∀w,(underlying t).run P w=.ok (.map kt vt) w) (hm:ev e m=some (.map mo)) (ha:Sat n e a) (hA:MapAt w mo es ck):
  (execOp a.eval ⟨some d,.call ⟨.builtin .len, #[m], #[t]⟩,rt,pos,af,none⟩).run P w=.ok (.value (.int .i64 es.length)) w:=by
 simp only[execOp]
 rcases hA with ⟨rfl,rfl, -⟩|⟨b,rfl,hb⟩
 ·simp[resolve,invoke,builtin,Builtin.len_,hu,goInt,ha.ev hm]
 ·simp[resolve,invoke,builtin,Builtin.len_,hu,goInt,ha.ev hm]
  simp[run_getObj hb rfl]
end
theorem perm_of_map {α β:Type} (f:α→β):∀{l' m:List β},l'.Perm m→∀l:List α,m=l.map f→∃t:List α,t.Perm l∧l'=t.map f:=by
 intro l' m h
 induction h with
 |nil=>intro l hl;exact ⟨[],by rw[List.map_eq_nil_iff.1 hl.symm],rfl⟩
 |cons x _ ih=>
  intro l hl
  cases l with
  |nil=>cases hl
  |cons y r=>
   simp only[List.map_cons,List.cons.injEq]at hl
   obtain ⟨t,h1,h2⟩:=ih r hl.2
   exact ⟨y::t,h1.cons y,by rw[List.map_cons, ← hl.1,h2]⟩
 |swap x y _=>
  intro l hl
  match l,hl with
  |a::b::r,hl=>
   simp only[List.map_cons,List.cons.injEq]at hl
   exact ⟨b::a::r,List.Perm.swap ..,by rw[List.map_cons,List.map_cons, ← hl.1, ← hl.2.1, ← hl.2.2]⟩
 |trans _ _ ih1 ih2=>
  intro l hl
  obtain ⟨t,h1,h2⟩:=ih2 l hl
  obtain ⟨u,h3,h4⟩:=ih1 t h2
  exact ⟨u,h3.trans h1,h4⟩
theorem join_flat (xs:List (List UInt8)):Lib.join xs []=xs.flatten:=by
 cases xs with
 |nil=>rfl
 |cons x r=>rw[Lib.join_cons];simp[Lib.joinTail]
theorem qTl_snoc (T:Lib.PrintTabs) (l:List ByteArray) (x:ByteArray):qTl T (l++[x])=qTl T l++32::qB T x:=by simp[qTl]
theorem qLs_snoc (T:Lib.PrintTabs) (l:List ByteArray) (x:ByteArray):qLs T (l++[x])=(if l=[] then [] else qLs T l++[32])++qB T x:=by
 cases l with
 |nil=>simp[qLs,qTl]
 |cons y r=>simp[qLs,qTl_snoc]
theorem hTl_snoc (l:List Int) (x:Int):hTl (l++[x])=hTl l++32::hexI x:=by simp[hTl]
theorem hLs_snoc (l:List Int) (x:Int):hLs (l++[x])=(if l=[] then [] else hLs l++[32])++hexI x:=by
 cases l with
 |nil=>simp[hLs,hTl]
 |cons y r=>simp[hLs,hTl_snoc]
theorem qB_len (T:Lib.PrintTabs) (s:ByteArray):(qB T s).length≤10*s.size+2:=by
 have:=Lib.quoteZ_length_le T s
 simpa[qB,b8]using this
theorem qLs_len (T:Lib.PrintTabs) {C:Nat}:∀{l:List ByteArray},(∀x∈l,x.size≤C)→(qLs T l).length≤l.length*(10*C+3)
 |[],_=>by simp[qLs]
 |x::r,h=>by
    have h1:=qB_len T x
    have h2:=h x (List.mem_cons_self ..)
    have h3:∀{l:List ByteArray},(∀x∈l,x.size≤C)→(qTl T l).length≤l.length*(10*C+3):=by
     intro l
     induction l with
     |nil=>intro _;simp[qTl]
     |cons y t ih=>
      intro hl
      have h4:=ih fun z hz=>hl z (List.mem_cons_of_mem _ hz)
      have h5:=qB_len T y
      have h6:=hl y (List.mem_cons_self ..)
      simp only[qTl,List.flatMap_cons,List.length_append,List.length_cons]at h4⊢
      rw[Nat.add_mul];omega
    have h4:=h3 fun z hz=>h z (List.mem_cons_of_mem _ hz)
    simp only[qLs,List.length_append,List.length_cons]
    rw[Nat.add_mul];omega
theorem hLs_len:∀{l:List Int},Fit l→(hLs l).length≤l.length*18
 |[],_=>by simp[hLs]
 |x::r,h=>by
    have h1:=hexI_len (h x (List.mem_cons_self ..))
    have h3:∀{l:List Int},Fit l→(hTl l).length≤l.length*18:=by
     intro l
     induction l with
     |nil=>intro _;simp[hTl]
     |cons y t ih=>
      intro hl
      have h4:=ih fun z hz=>hl z (List.mem_cons_of_mem _ hz)
      have h5:=hexI_len (hl y (List.mem_cons_self ..))
      simp only[hTl,List.flatMap_cons,List.length_append,List.length_cons]at h4⊢
      omega
    have h4:=h3 (l:=r) fun z hz=>h z (List.mem_cons_of_mem _ hz)
    simp only[hLs,List.length_append,List.length_cons]
    omega
end Go.Fw
namespace Go.Proofs.YtffghbkcomlefaaGreatDoor
open Go Go.Fw Go.Proofs Go.Sort
variable {es:List MapEntry} {v:Value} {w:World}
theorem nodup_len:∀{l m:List Nat},l.Nodup→(∀x∈l,x∈m)→l.length≤m.length
 |[],_,_,_=>Nat.zero_le _
 |a::r,m,h,hs=>by
    have h1:=List.nodup_cons.1 h
    have ha:a∈m:=hs a (by simp)
    have:=nodup_len (l:=r) (m:=m.erase a) h1.2 fun x hx=>(List.mem_erase_of_ne (by rintro rfl;exact h1.1 hx)).2 (hs x (by simp[hx]))
    rw[List.length_erase_of_mem ha]at this
    have:=List.length_pos_of_mem ha
    simp only[List.length_cons]
    omega
structure Vis (es xs:List MapEntry) (seen:List Nat):Prop where
 sn:xs.map (·.born)=seen
 nd:seen.Nodup
 sub:∀x∈xs,x∈es
theorem Vis.nil:Vis es [] []:=⟨rfl,by simp,by simp⟩
theorem Vis.push {xs:List MapEntry} {seen:List Nat} {x:MapEntry} (h:Vis es xs seen) (hx:x∈es) (hn:x.born∉seen):Vis es (xs++[x]) (seen++[x.born]):=
 ⟨by simp[h.sn],by rw[List.nodup_append];exact ⟨h.nd,by simp,by simp;intro a ha he;subst he;exact hn ha⟩,fun y hy=>by
  rcases List.mem_append.1 hy with hy|hy
  ·exact h.sub y hy
  ·simp at hy;subst hy;exact hx⟩
theorem Vis.len {xs:List MapEntry} {seen:List Nat} (h:Vis es xs seen) (hb:(es.map (·.born)).Nodup):seen.length≤es.length:=by
 have h1:seen ⊆ es.map (·.born):=by
  intro b hb'
  rw[← h.sn]at hb'
  obtain ⟨x,hx,rfl⟩:=List.mem_map.1 hb'
  exact List.mem_map.2 ⟨x,h.sub x hx,rfl⟩
 have:=nodup_len h.nd fun x hx=>h1 hx
 simpa using this
theorem born_inj (hb:(es.map (·.born)).Nodup) {x y:MapEntry} (hx:x∈es) (hy:y∈es) (h:x.born=y.born):x=y:=by
 induction es with
 |nil=>cases hx
 |cons a r ih=>
  simp only[List.map_cons,List.nodup_cons]at hb
  rcases List.mem_cons.1 hx with hxa|hx
  ·rcases List.mem_cons.1 hy with hya|hy
   ·rw[hxa,hya]
   ·exact absurd (List.mem_map.2 ⟨y,hy,by rw[← h,hxa]⟩) hb.1
  ·rcases List.mem_cons.1 hy with hya|hy
   ·exact absurd (List.mem_map.2 ⟨x,hx,by rw[h,hya]⟩) hb.1
   ·exact ih hb.2 hx hy
theorem Vis.all {xs:List MapEntry} {seen:List Nat} (h:Vis es xs seen) (hb:(es.map (·.born)).Nodup) (ha:∀x∈es,x.born∈seen):∀x∈es,x∈xs:=by
 intro x hx
 have:=ha x hx
 rw[← h.sn]at this
 obtain ⟨y,hy,he⟩:=List.mem_map.1 this
 rw[← born_inj hb (h.sub y hy) hx he];exact hy
theorem menc_entry {κ:Type} [DecidableEq κ] {enc:κ→Value} {ms:List (κ×Value)} {ck:Nat} (h:MEnc enc ms es ck) {x:MapEntry} (hx:x∈es):∃p∈ms,x.key=enc p.1∧x.val=p.2:=by
 have h1:(x.key,x.val)∈es.map (fun x=>(x.key,x.val)):=List.mem_map.2 ⟨x,hx,rfl⟩
 rw[h.kv]at h1
 obtain ⟨p,hp,he⟩:=List.mem_map.1 h1
 injection he with e1 e2
 exact ⟨p,hp,e1.symm,e2.symm⟩
theorem Vis.perm {xs:List MapEntry} {seen:List Nat} (h:Vis es xs seen) (hb:(es.map (·.born)).Nodup) (ha:∀x∈es,x.born∈seen):xs.Perm es:=by
 have hn:∀{l:List MapEntry},(l.map (·.born)).Nodup→l.Nodup:=fun {l} h=>(List.pairwise_map.1 h).imp fun hne e=>hne (congrArg _ e)
 refine (List.perm_ext_iff_of_nodup (hn (by rw[h.sn];exact h.nd)) (hn hb)).2 fun x=>⟨h.sub x,h.all hb ha x⟩
theorem LabF.opn {α:Type} {T:Nat} {enc:α→Value} {f:ByteArray→List α} (h:LabF T enc w v f):
  ∃mo es ck ms,v=.map mo∧MapAt w mo es ck∧MEnc Value.string ms es ck∧(∀k u,mget ms k=some u→f k≠[]∧OS T 1 w u ((f k).map enc))∧∀k,mget ms k=none→f k=[]:=by
 rcases h with ⟨rfl,h2⟩|⟨b,ms,es,ck,rfl,h2,h3,h4,h5⟩
 ·exact ⟨none,[],0,[],rfl,.inl ⟨rfl,rfl,rfl⟩,MEnc.nil,fun k u hk=>by simp[mget_nil]at hk,fun k _=>h2 k⟩
 ·exact ⟨some b,es,ck,ms,rfl,.inr ⟨b,rfl,h2⟩,h3,h4,h5⟩
theorem UnN.opn (h:UnN w v):∃mo es ck ms,v=.map mo∧MapAt w mo es ck∧MEnc Value.string ms es ck∧∀k,∃p c,(mget ms k).getD (.slice none 0 0)=.slice p 0 c:=by
 rcases h with rfl|⟨b,ms,es,ck,rfl,h2,h3,h4⟩
 ·exact ⟨none,[],0,[],rfl,.inl ⟨rfl,rfl,rfl⟩,MEnc.nil,fun k=>⟨none,0,by simp[mget_nil]⟩⟩
 ·refine ⟨some b,es,ck,ms,rfl,.inr ⟨b,rfl,h2⟩,h3,fun k=>?_⟩
  cases hk:mget ms k with
  |none=>exact ⟨none,0,rfl⟩
  |some u=>obtain ⟨p,c,rfl⟩:=h4 k u hk;exact ⟨p,c,rfl⟩
theorem keys_perm {α β:Type} {ms:List (ByteArray×Value)} {ts:List β} {key:β→ByteArray} {lst:β→List α} {f:ByteArray→List α} (hn:(ms.map (·.1)).Nodup) (ht:(ts.map key).Nodup) (hl:∀t∈ts,lst t≠[])
  (hf:∀t∈ts,f (key t)=lst t) (h0:∀k,f k≠[]→k∈ts.map key) (h4:∀k u,mget ms k=some u→f k≠[]) (h5:∀k,mget ms k=none→f k=[]) {ks:List ByteArray} (hk:ks.Perm (ms.map (·.1))):
  (ks.map fun k=>(k,f k)).Perm (ts.map fun t=>(key t,lst t)):=by
 have hp:(ms.map (·.1)).Perm (ts.map key):=by
  refine (List.perm_ext_iff_of_nodup hn ht).2 fun k=>⟨fun hm=>?_,fun hm=>?_⟩
  ·cases hg:mget ms k with
   |none=>exact absurd hm (mget_none.1 hg)
   |some u=>exact h0 k (h4 k u hg)
  ·obtain ⟨t,htm,rfl⟩:=List.mem_map.1 hm
   cases hg:mget ms (key t) with
   |none=>exact absurd ((hf t htm).symm.trans (h5 _ hg)) (hl t htm)
   |some u=>
    by_cases hc:key t∈ms.map (·.1)
    ·exact hc
    ·rw[mget_none.2 hc]at hg;cases hg
 have h1:=(hk.trans hp).map fun k=>(k,f k)
 rw[List.map_map]at h1
 refine h1.trans (List.Perm.of_eq (List.map_congr_left fun t ht=>?_))
 show (key t,f (key t))=_
 rw[hf t ht]
theorem enc_bytes (ks:List ByteArray):(ks.map fun k=>k.data.toList).map encStr=ks.map .string:=by
 rw[List.map_map]
 refine List.map_congr_left fun k _=>?_
 simp[encStr]
theorem putH_self:∀{H:Heap} {i:Nat} {y:Ent},H[i]? =some y→putH H i y=H
 |[],_,_,h=>by simp at h
 |x::r,0,y,h=>by simp at h;subst h;rfl
 |x::r,i+1,y,h=>by simp at h;simp[putH,putH_self h]
theorem sortP_c (w:World) (y:Ent) (p:Option Addr) (l c:Nat) (ks:List ByteArray) (hO:Own tStr 1 y p l c (ks.map .string)) (hb:y.on=true→Blk w y.b tStr y.cs) (hl:l≤1000000):
  Calls Tryz.prog 72 #[.slice p l c] w (Ret fun _ w'=>∃rs:List ByteArray,rs.Perm ks∧((w'=w∧Own tStr 1 y p l c (rs.map .string))∨y.on=true∧∃cs',Own tStr 1 { y with cs:=cs' } p l c (rs.map .string)∧Blk w' y.b tStr cs'∧KeepX [y.b] w w')):=by
 have hlen:ks.length=l:=by have:=hO.sl.1;simpa using this
 obtain ⟨rs,hrs⟩:∃rs:List ByteArray,rs=((ks.map fun k=>k.data.toList).mergeSort fun x y=>decide (x≤y)).map fun q=>⟨q.toArray⟩:=⟨_,rfl⟩
 have hrd:(rs.map fun k=>k.data.toList)=(ks.map fun k=>k.data.toList).mergeSort fun x y=>decide (x≤y):=by
  rw[hrs,List.map_map]
  exact (List.map_congr_left fun q _=>by simp).trans (List.map_id _)
 have hp:rs.Perm ks:=by
  have h1:=(List.mergeSort_perm (ks.map fun k=>k.data.toList) fun x y=>decide (x≤y)).map fun q=>(⟨q.toArray⟩:ByteArray)
  rw[← hrs,List.map_map]at h1
  exact h1.trans (List.Perm.of_eq ((List.map_congr_left fun q _=>by simp).trans (List.map_id _)))
 have hal:rs.length=l:=by rw[hp.length_eq,hlen]
 by_cases h0:l=0
 ·subst h0
  have e1:ks=[]:=List.eq_nil_of_length_eq_zero hlen
  have e2:rs=[]:=List.eq_nil_of_length_eq_zero hal
  refine (Tryz.sort_Strings_none p c w).mono ?_
  rintro e w' ⟨rfl,rfl⟩
  exact ⟨rs,hp,.inl ⟨rfl,by rw[e2, ← e1];exact hO⟩⟩
 obtain ⟨hon,hpp⟩:=hO.pos (by omega)
 subst hpp
 have hb:=hb hon
 obtain ⟨h1,h2,h3⟩:=hO.sl
 rcases h3 with ⟨-, -,⟨ex,h4⟩,h5⟩|⟨h3, -⟩
 case inr=>rw[hon]at h3;cases h3
 have hb':w.heap[y.b]? =some (.cells y.cs.toArray tStr (0,0)):=hb
 have hH:Holds encStr w y.b 0 (ks.map fun k=>k.data.toList).toArray:=holds_of_block hb' (by
  rw[enc_bytes,List.length_map]
  show y.cs.take ks.length=ks.map .string
  rw[h4,List.take_append_of_le_length (by simp),List.take_of_length_le (by simp)])
 have hc:=Tryz.sort_Strings y.b 0 c (ks.map fun k=>k.data.toList) w hH hb.lt (by simp;omega)
 rw[List.length_map,hlen]at hc
 refine hc.mono ?_
 rintro e w' ⟨rfl,n,os,rfl⟩
 rw[← hrd]
 have hs:=heap_sorted (n:=n) (os:=os) (rs.map fun k=>k.data.toList).toArray hb'
 have hg:=grownBy_sorted (w:=w) (g:=y.b) (n:=n) (os:=os) (rs.map fun k=>k.data.toList).toArray
 have htk:=take_putCells y.cs.toArray (rs.map fun k=>k.data.toList) (by simp;omega)
 rw[enc_bytes,List.length_map,hal]at htk
 refine ⟨rs,hp,.inr ⟨hon,(putCells encStr 0 (rs.map fun k=>k.data.toList).toArray y.cs.toArray).toList,⟨hO.hT,hO.hw,hO.ho,?_⟩,by simpa[Blk]using hs,?_⟩⟩
 ·refine ⟨by simp[hal],h2,.inl ⟨hon,rfl,⟨(putCells encStr 0 (rs.map fun k=>k.data.toList).toArray y.cs.toArray).toList.drop l,?_⟩,?_⟩⟩
  ·rw[← htk,List.take_append_drop]
  ·have:(putCells encStr 0 (rs.map fun k=>k.data.toList).toArray y.cs.toArray).size=y.cs.length:=by simp[putCells]
   simp only[Array.length_toList,this];exact h5
 ·obtain ⟨g1,g2,g3,g4,g5⟩:=hg
  exact ⟨g1,g2,g3,g4,fun b o ho hne=>by
   rw[g5 b (Array.getElem?_eq_some_iff.1 ho).1 (by simp at hne⊢;exact fun e=>hne e)];exact ho⟩
section
variable {Q:Exit→Act→World→Prop} {n:Nat} {f:Fm} {e:Env} {H:Heap} {ops:Array Oper} {rest:List Oper} {d ty:Nat} {pos:String} {af:Array Edge}
theorem j_sortP {y:Ent} {p:Option Addr} {l c:Nat} {ks:List ByteArray} {args:Array Operand} {tys:Array TypeId} (i:Nat) (hi:H[i]? =some y) (hO:Own tStr 1 y p l c (ks.map .string)) (hl:l≤1000000)
  (hargs:evL e args.toList=some [.slice p l c]) (hd:Nat.blt d n=true)
  (k:∀v y' (rs:List ByteArray),rs.Perm ks→Own tStr 1 y' p l c (rs.map .string)→J Tryz.prog ops Q n f ((d,v)::e) (putH H i y') rest):
  J Tryz.prog ops Q n f e H (⟨some d,.call ⟨.value (.func 72),args,tys⟩,ty,pos,af,none⟩::rest):=
 j_callE (R:=fun w _ w'=>∃rs:List ByteArray,rs.Perm ks∧((w'=w∧Own tStr 1 y p l c (rs.map .string))∨y.on=true∧∃cs',Own tStr 1 { y with cs:=cs' } p l c (rs.map .string)∧Blk w' y.b tStr cs'∧KeepX [y.b] w w')) Tryz.call72 hargs hd (fun w hH _=>sortP_c w y p l c ks hO (fun ho=>by have:=hH.get hi ho;rwa [hO.hT]at this) hl) fun w v w' hH hf hR=>by
  obtain ⟨rs,hp,hR⟩:=hR
  rcases hR with ⟨rfl,h1⟩|⟨hon,cs',h1,h2,h3⟩
  ·have h2:=k v y rs hp h1 w' (by rw[putH_self hi];exact hH) hf
   exact h2
  ·have hm:=hH.may (List.mem_of_getElem? hi) hon hO.hw
   have hex:y.ex=true:=by simp[Ent.ex,hon]
   rw[hO.hT]at hm
   refine k v _ rs hp h1 w' (hH.putX hi hex rfl (fun _ _=>by rw[h1.tag];exact hm) h3 ⟨fun _=>by simp only[hO.hT];exact h2,fun o ho=>by simp only[hO.ho]at ho;cases ho⟩) (okK hf h3 hm fun o ho=>?_)
   have h4:=hH.get hi hon
   rw[hO.hT]at h4
   rw[show w.heap[y.b]? =some _ from h4]at ho
   cases ho
   rfl
end
theorem flat_len {B:Nat}:∀{xs:List (List UInt8)},(∀x∈xs,x.length≤B)→xs.flatten.length≤xs.length*B
 |[],_=>by simp
 |x::r,hB=>by
    have h1:=hB x (List.mem_cons_self ..)
    have h2:=flat_len (xs:=r) (fun y hy=>hB y (List.mem_cons_of_mem _ hy))
    rw[List.flatten_cons,List.length_append,List.length_cons,Nat.add_mul];omega
theorem joinE_c (w:World) (v:Value) (xs:List (List UInt8)) (B:Nat) (h:OS tStr 1 w v (xs.map fun x=>.string (txt x))) (hn:xs.length≤1000) (hB:∀x∈xs,x.length≤B) (hb:B≤100000000000):
  Calls Tryz.prog 75 #[v,.string ⟨#[]⟩] w (Ret fun v w'=>v=.string (txt xs.flatten)∧Fr 0 [] w w'):=by
 obtain ⟨p,l,c,rfl,hl,hlc,hx⟩:=h.openF
 simp only[List.length_map,Nat.mul_one]at hl
 subst hl
 by_cases h0:xs.length=0
 ·have e0:xs=[]:=List.eq_nil_of_length_eq_zero h0
  subst e0
  refine (Any.strings_Join_none Tryz.lays156 extraX p c ⟨#[]⟩ w).mono ?_
  rintro e w' ⟨rfl,rfl⟩
  exact ⟨rfl,Fr.refl _ _ _⟩
 obtain ⟨b,rfl,hx2⟩:=hx (by omega)
 have hm:(xs.map txt).map (fun s:ByteArray=>s.data.toList)=xs:=by
  rw[List.map_map]
  exact (List.map_congr_left fun x _=>txt_data x).trans (List.map_id _)
 have hcell:∀(j:Nat) x,(xs.map txt)[j]? =some x→w.cell? ⟨b,0+j,none⟩=some (.string x):=fun j x hx'=>by
  rw[Nat.zero_add]
  refine hx2 ⟨w,0,[]⟩ rfl rfl w ok_refl j _ ?_
  rw[List.getElem?_map]at hx'⊢
  obtain ⟨y,h1,rfl⟩:=Option.map_eq_some_iff.1 hx'
  rw[h1];rfl
 have hblt:b<w.heap.size:=by
  have h1:=hcell 0 (txt (xs[0]'(by omega))) (by rw[List.getElem?_map,List.getElem?_eq_getElem (by omega)];rfl)
  unfold World.cell? at h1
  cases ho:w.heap[b]? with
  |none=>simp[ho]at h1
  |some o=>exact (Array.getElem?_eq_some_iff.1 ho).1
 have h:=Any.strings_Join Tryz.lays156 extraX b 0 c (xs.map txt) ⟨#[]⟩ w hcell hblt (by simp;omega) (by simpa using hlc) (by
   rw[hm]
   show (Lib.join xs []).length≤_
   rw[join_flat]
   have:=flat_len hB
   have h2:xs.length*B≤1000*100000000000:=Nat.mul_le_mul hn hb
   omega)
 rw[List.length_map]at h
 refine h.mono ?_
 rintro e w' ⟨rfl,hB⟩
 refine ⟨?_,below_fr hB⟩
 rw[hm, ← join_flat];rfl
theorem quoteList_c (w:World) (v:Value) (l:List ByteArray) (h:OS tStr 1 w v (l.map .string)) (hn:l.length≤60) (hs:∀x∈l,x.size≤2000000) (hT:Tabs w):
  Calls Tryz.prog 71 #[v] w (Ret fun r w'=>r=.string (txt (91::(qLs Tg l++[93])))∧Fr 0 [] w w'):=by
 obtain ⟨p,ln,c,rfl,hl, -,hx⟩:=h.openF
 simp only[List.length_map,Nat.mul_one]at hl
 subst hl
 refine startJ (args:=[_]) [(0,_)] 0 [] [] Tryz.func71 rfl Tryz.ntmps71 rfl rfl .nil ?_
 refine sQ fun K1=>cj_reg (jA (k:=K1 (sQ fun K2=>cj_reg (jA (k:=K2 (sQ fun K3=>sQ fun K4=>cj_reg (jM (k:=jE ru29 (k:=jM (k:=?_))))))))))
 refine K4 (cj_block ?_)
 refine cj_loop (σ:=Nat) (fun k=>[(3,.string (txt (91::qLs Tg (l.take k)))),(6,.slice p l.length c),(7,.int .i64 (l.length:Nat)),(8,.int .i64 (k:Nat))]) (fun _=>[]) (fun k _=>k≤l.length) (fun k=>l.length - k) 0 sR (fun w hH hf=>⟨.nil,Nat.zero_le _⟩) ?_
 intro k w1 hk hf1 hH1 KL hKL
 have hqk:(qLs Tg (l.take k)).length≤1200000180:=by
  have h1:=qLs_len Tg (C:=2000000) (l:=l.take k) fun x hx=>hs x (List.mem_of_mem_take hx)
  have h2:(l.take k).length≤60:=by rw[List.length_take];omega
  have h3:(l.take k).length*(10*2000000+3)≤60*(10*2000000+3):=Nat.mul_le_mul_right _ h2
  omega
 refine C.begin _ _ hf1 hH1 ?_
 refine sQ fun K5=>cj_reg (jS (k:=K5 (sQ fun K6=>?_)))
 refine cj_dec rfl (fun h9=>?_) (fun h9=>?_)
 ·have hk':k<l.length:=by omega
  obtain ⟨bl,rfl,hlc⟩:=hx (by omega)
  have hQ:(qB Tg l[k]).length≤20000002:=by have h1:=qB_len Tg l[k];have h2:=hs _ (List.getElem_mem hk');omega
  have hcell:∀w',Fm.ok ⟨w,0,[]⟩ w'→w'.cell? ⟨bl,0+k*1,none⟩=some (.string l[k]):=fun w' hf=>by
   have:=hlc ⟨w,0,[]⟩ rfl rfl w' hf k (.string l[k]) (by rw[List.getElem?_map,List.getElem?_eq_getElem hk'];rfl)
   simpa using this
  refine cj_skip (K6 (sQ fun K7=>cj_block (sQ fun K8=>cj_reg (jM (k:=jJ ru29 so9 (k:=?_))))))
  refine j_valw rfl (fun a w ha hH hf=>r_load ag9 rfl (hcell w hf) ha) (jA (k:=jA (k:=K8 (sQ fun K9=>sQ fun K10=>cj_reg (jM (k:=jG (k:=K10 ?_)))))))
  refine cj_dec rfl (fun h14=>?_) (fun h14=>?_)
  ·have hsn:qLs Tg (l.take (k+1))=qLs Tg (l.take k)++[32]++qB Tg l[k]:=by
    rw[← List.take_append_getElem hk',qLs_snoc,if_neg (fun e=>by have:=congrArg List.length e;rw[List.length_take,Nat.min_eq_left (by omega)]at this;simp at this;omega)]
   refine cj_reg (jM (k:=?_))
   refine j_val rfl (fun _ _ h=>r_stadd rfl rfl (by (try simp only[List.length_append,List.length_cons,List.length_nil]);omega) h) ?_
   refine jA (k:=K9 (CJ.t [(3,_),(5,_),(6,_),(7,_),(8,_)] (k:=cj_reg (jM (k:=jM (k:=?_))))))
   refine j_callQ (φ:=fun v=>v=.string (txt (qB Tg l[k]))) Tryz.call41 rfl rfl (fun w' hH hf=>quote_c w' l[k] (by have:=hs _ (List.getElem_mem hk');omega) (hT.keep (Fr.keepAll hf (.inr rfl)))) fun v hv=>?_
   subst hv
   refine j_val rfl (fun _ _ h=>r_stadd rfl rfl (by (try simp only[List.length_append,List.length_cons,List.length_nil]);omega) h) ?_
   refine jA (k:=K7 (cj_reg (jI (k:=jM (k:=j_nil (ej_then ?_))))))
   exact fun w' hH hf=>hKL (k+1) _ w' hk' hf .nil (by omega) ⟨by rw[hsn];show some (Value.string (txt _))=some (Value.string (txt _));simp,rfl,rfl,rfl,trivial⟩
  ·have hk0:k=0:=by omega
   have hsn:qLs Tg (l.take (k+1))=qLs Tg (l.take k)++qB Tg l[k]:=by
    have h0:l.take k=[]:=by rw[hk0];rfl
    rw[← List.take_append_getElem hk',qLs_snoc,h0];rfl
   refine cj_skip (K9 (cj_reg (jM (k:=jM (k:=?_)))))
   refine j_callQ (φ:=fun v=>v=.string (txt (qB Tg l[k]))) Tryz.call41 rfl rfl (fun w' hH hf=>quote_c w' l[k] (by have:=hs _ (List.getElem_mem hk');omega) (hT.keep (Fr.keepAll hf (.inr rfl)))) fun v hv=>?_
   subst hv
   refine j_val rfl (fun _ _ h=>r_stadd rfl rfl (by (try simp only[List.length_append,List.length_cons,List.length_nil]);omega) h) ?_
   refine jA (k:=K7 (CJ.t [(3,_),(6,_),(7,_),(8,_)] (k:=cj_reg (jI (k:=jM (k:=j_nil (ej_then ?_)))))))
   exact fun w' hH hf=>hKL (k+1) _ w' hk' hf .nil (by omega) ⟨by rw[hsn];show some (Value.string (txt _))=some (Value.string (txt _));simp,rfl,rfl,rfl,trivial⟩
 ·have hke:k=l.length:=by omega
  subst hke
  rw[List.take_length]at hqk⊢
  refine cj_exit (K3 (sQ fun K11=>cj_reg (jM (k:=?_))))
  refine j_val rfl (fun _ _ h=>r_stadd rfl rfl (by (try simp only[List.length_append,List.length_cons,List.length_nil]);omega) h) ?_
  refine jA (k:=K11 (cj_ret ?_))
  exact ej_ret1 Tryz.results71 rfl fun w' hH hf=>⟨rfl,hf⟩
theorem hexList_c (w:World) (v:Value) (l:List Int) (h:OS tI64 1 w v (l.map (.int .i64))) (hn:l.length≤60) (hs:Fit l) (hT:Tabs w):
  Calls Tryz.prog 73 #[v] w (Ret fun r w'=>r=.string (txt (91::(hLs l++[93])))∧Fr 0 [] w w'):=by
 obtain ⟨p,ln,c,rfl,hl, -,hx⟩:=h.openF
 simp only[List.length_map,Nat.mul_one]at hl
 subst hl
 refine startJ (args:=[_]) [(0,_)] 0 [] [] Tryz.func73 rfl Tryz.ntmps73 rfl rfl .nil ?_
 refine sQ fun K1=>cj_reg (jA (k:=K1 (sQ fun K2=>cj_reg (jA (k:=K2 (sQ fun K3=>sQ fun K4=>cj_reg (jM (k:=jE ru49 (k:=jM (k:=?_))))))))))
 refine K4 (cj_block ?_)
 refine cj_loop (σ:=Nat) (fun k=>[(3,.string (txt (91::hLs (l.take k)))),(6,.slice p l.length c),(7,.int .i64 (l.length:Nat)),(8,.int .i64 (k:Nat))]) (fun _=>[]) (fun k _=>k≤l.length) (fun k=>l.length - k) 0 sR (fun w hH hf=>⟨.nil,Nat.zero_le _⟩) ?_
 intro k w1 hk hf1 hH1 KL hKL
 have hqk:(hLs (l.take k)).length≤1080:=by
  have h1:=hLs_len (l:=l.take k) fun x hx=>hs x (List.mem_of_mem_take hx)
  have h2:(l.take k).length≤60:=by rw[List.length_take];omega
  omega
 refine C.begin _ _ hf1 hH1 ?_
 refine sQ fun K5=>cj_reg (jS (k:=K5 (sQ fun K6=>?_)))
 refine cj_dec rfl (fun h9=>?_) (fun h9=>?_)
 ·have hk':k<l.length:=by omega
  obtain ⟨bl,rfl,hlc⟩:=hx (by omega)
  have hQ:=hexI_len (hs _ (List.getElem_mem hk'))
  have hcell:∀w',Fm.ok ⟨w,0,[]⟩ w'→w'.cell? ⟨bl,0+k*1,none⟩=some (.int .i64 l[k]):=fun w' hf=>by
   have:=hlc ⟨w,0,[]⟩ rfl rfl w' hf k (.int .i64 l[k]) (by rw[List.getElem?_map,List.getElem?_eq_getElem hk'];rfl)
   simpa using this
  refine cj_skip (K6 (sQ fun K7=>cj_block (sQ fun K8=>cj_reg (jM (k:=jJ ru49 so2 (k:=?_))))))
  refine j_valw rfl (fun a w ha hH hf=>r_load ag2 rfl (hcell w hf) ha) (jA (k:=jA (k:=K8 (sQ fun K9=>sQ fun K10=>cj_reg (jM (k:=jG (k:=K10 ?_)))))))
  refine cj_dec rfl (fun h14=>?_) (fun h14=>?_)
  ·have hsn:hLs (l.take (k+1))=hLs (l.take k)++[32]++hexI l[k]:=by
    rw[← List.take_append_getElem hk',hLs_snoc,if_neg (fun e=>by have:=congrArg List.length e;rw[List.length_take,Nat.min_eq_left (by omega)]at this;simp at this;omega)]
   refine cj_reg (jM (k:=?_))
   refine j_val rfl (fun _ _ h=>r_stadd rfl rfl (by (try simp only[List.length_append,List.length_cons,List.length_nil]);omega) h) ?_
   refine jA (k:=K9 (CJ.t [(3,_),(5,_),(6,_),(7,_),(8,_)] (k:=cj_reg (jM (k:=jM (k:=?_))))))
   refine j_callQ (φ:=fun v=>v=.string (txt (hexI l[k]))) Tryz.call85 rfl rfl (fun w' hH hf=>fi16_c w' l[k] (hs _ (List.getElem_mem hk')) (hT.db.keep (Fr.keepAll hf (.inr rfl)))) fun v hv=>?_
   subst hv
   refine j_val rfl (fun _ _ h=>r_stadd rfl rfl (by (try simp only[List.length_append,List.length_cons,List.length_nil]);omega) h) ?_
   refine jA (k:=K7 (cj_reg (jI (k:=jM (k:=j_nil (ej_then ?_))))))
   exact fun w' hH hf=>hKL (k+1) _ w' hk' hf .nil (by omega) ⟨by rw[hsn];show some (Value.string (txt _))=some (Value.string (txt _));simp,rfl,rfl,rfl,trivial⟩
  ·have hk0:k=0:=by omega
   have hsn:hLs (l.take (k+1))=hLs (l.take k)++hexI l[k]:=by
    have h0:l.take k=[]:=by rw[hk0];rfl
    rw[← List.take_append_getElem hk',hLs_snoc,h0];rfl
   refine cj_skip (K9 (cj_reg (jM (k:=jM (k:=?_)))))
   refine j_callQ (φ:=fun v=>v=.string (txt (hexI l[k]))) Tryz.call85 rfl rfl (fun w' hH hf=>fi16_c w' l[k] (hs _ (List.getElem_mem hk')) (hT.db.keep (Fr.keepAll hf (.inr rfl)))) fun v hv=>?_
   subst hv
   refine j_val rfl (fun _ _ h=>r_stadd rfl rfl (by (try simp only[List.length_append,List.length_cons,List.length_nil]);omega) h) ?_
   refine jA (k:=K7 (CJ.t [(3,_),(6,_),(7,_),(8,_)] (k:=cj_reg (jI (k:=jM (k:=j_nil (ej_then ?_)))))))
   exact fun w' hH hf=>hKL (k+1) _ w' hk' hf .nil (by omega) ⟨by rw[hsn];show some (Value.string (txt _))=some (Value.string (txt _));simp,rfl,rfl,rfl,trivial⟩
 ·have hke:k=l.length:=by omega
  subst hke
  rw[List.take_length]at hqk⊢
  refine cj_exit (K3 (sQ fun K11=>cj_reg (jM (k:=?_))))
  refine j_val rfl (fun _ _ h=>r_stadd rfl rfl (by (try simp only[List.length_append,List.length_cons,List.length_nil]);omega) h) ?_
  refine jA (k:=K11 (cj_ret ?_))
  exact ej_ret1 Tryz.results73 rfl fun w' hH hf=>⟨rfl,hf⟩
theorem hexTexts0_c (w:World) (p:Option Addr) (c:Nat):Calls Tryz.prog 74 #[.slice p 0 c] w (Ret fun r w'=>r=.string (txt [91,93])∧Fr 0 [] w w'):=by
 refine startJ (args:=[_]) [(0,_)] 0 [] [] Tryz.func74 rfl Tryz.ntmps74 rfl rfl .nil ?_
 refine sQ fun K1=>cj_reg (jA (k:=K1 (sQ fun K2=>cj_reg (jA (k:=K2 (sQ fun K3=>sQ fun K4=>cj_reg (jM (k:=jE ru29 (k:=jM (k:=?_))))))))))
 refine K4 (cj_block ?_)
 refine cj_loop (σ:=Unit) (fun _=>[(3,.string (txt [91])),(7,.slice p 0 c),(8,.int .i64 (0:Nat)),(9,.int .i64 0)]) (fun _=>[]) (fun _ _=>True) (fun _=>0) () sR (fun w hH hf=>⟨.nil,trivial⟩) ?_
 intro _ w1 _ hf1 hH1 KL hKL
 refine C.begin _ _ hf1 hH1 ?_
 refine sQ fun K5=>cj_reg (jS (k:=?_))
 refine j_eqv (u:=.bool false) rfl ?_
 refine K5 (sQ fun K6=>cj_if_f rfl (cj_exit (K3 (sQ fun K7=>cj_reg (jM (k:=?_))))))
 refine j_val rfl (fun _ _ h=>r_stadd rfl rfl (by (try simp only[List.length_append,List.length_cons,List.length_nil]);omega) h) ?_
 refine jA (k:=K7 (cj_ret ?_))
 exact ej_ret1 Tryz.results74 rfl fun w' hH hf=>⟨rfl,hf⟩
end Go.Proofs.YtffghbkcomlefaaGreatDoor
namespace Go.Fw
open Go Go.Lib
def numT (z:Int):List UInt8:=decDigits z.toNat++[44]
def mpT (k:Int×Int×ByteArray):List UInt8:=([109]++numT k.1++numT k.2.1)++qB Tg k.2.2
def fT10 (k:Int×ByteArray×ByteArray×ByteArray):List UInt8:=qB Tg k.2.1++qB Tg k.2.2.1++qB Tg k.2.2.2++numT (IntKind.u64.wrap k.1)
def foT (o:Option (Int×ByteArray×ByteArray×ByteArray)):List UInt8:=(o.map fT10).getD []
def lnT (k:LnK):List UInt8:=[124]++(foT k.1++([58]++numT (IntKind.u64.wrap k.2)))
def plB (k:PlK):List UInt8:=((k.1.map mpT).getD [45])++numT k.2.1
def plT (k:PlK):List UInt8:=plB k++k.2.2.flatMap lnT
def txsT (t:ByteArray×List ByteArray):List UInt8:=([116]++qB Tg t.1)++t.2.flatMap (qB Tg)
def nmsT (t:ByteArray×List Int):List UInt8:=([110]++qB Tg t.1)++t.2.flatMap fun x=>numT (IntKind.u64.wrap x)
def keyT (k:SmK):List UInt8:=(k.1.flatMap fun p=>[91]++plT p++[93])++k.2.1.flatMap txsT++k.2.2.flatMap nmsT
theorem nDigits_le:∀(n m:Nat),m<10^n→nDigits m≤n+1
 |0,m,h=>by unfold nDigits;rw[dif_pos (by simp at h;omega)];omega
 |n+1,m,h=>by
    unfold nDigits
    split
    ·omega
    ·have:=nDigits_le n (m/10) (by rw[Nat.pow_succ]at h;omega)
     omega
theorem numT_len {z:Int} (h:z<18446744073709551616):(numT z).length≤22:=by
 have:=nDigits_le 20 z.toNat (by omega)
 unfold numT
 rw[List.length_append,decDigits_length]
 simp only[List.length_cons,List.length_nil]
 omega
theorem u64r {z:Int} (h:IntKind.u64.wrap z=z):0≤z∧z<18446744073709551616:=by
 simp only[IntKind.wrap,IntKind.bits,IntKind.signed]at h
 simp at h;omega
theorem u64w (z:Int):0≤IntKind.u64.wrap z∧IntKind.u64.wrap z<18446744073709551616:=by
 simp only[IntKind.wrap,IntKind.bits,IntKind.signed]
 simp;omega
end Go.Fw
namespace Go.Proofs.YtffghbkcomlefaaGreatDoor
open Go Go.Fw Go.Proofs Go.Lib
variable {b k:Nat} {s:PSample}
theorem fu10z_c (w:World) (z:Int) (h0:0≤z) (hz:z<18446744073709551616) (hT:Tabs w):Calls Tryz.prog 62 #[.int .u64 z,.int .i64 10] w (Ret fun v w'=>v=.string (txt (decDigits z.toNat))∧Fr 0 [] w w'):=by
 obtain ⟨m,rfl⟩:∃m:Nat,z=m:=⟨z.toNat,by omega⟩
 exact fu10_c w m (by omega) hT
theorem number_c (w:World) (z:Int) (h0:0≤z) (hz:z<18446744073709551616) (hT:Tabs w):Calls Tryz.prog 42 #[.int .u64 z] w (Ret fun v w'=>v=.string (txt (numT z))∧Fr 0 [] w w'):=by
 have hl:=numT_len hz
 unfold numT at hl
 refine startJ (args:=[_]) [(0,_)] 0 [] [] Tryz.func42 rfl Tryz.ntmps42 rfl rfl .nil ?_
 refine sQ fun K1=>cj_reg (jA (k:=K1 (sQ fun K2=>cj_reg (jM (k:=?_)))))
 refine j_callQ (φ:=fun v=>v=.string (txt (decDigits z.toNat))) Tryz.call62 rfl rfl (fun w' hH hf=>fu10z_c w' z h0 hz (hT.keep (Fr.keepAll hf (.inr rfl)))) fun v hv=>?_
 subst hv
 refine j_val rfl (fun _ _ h=>r_stadd (q:=[44]) rfl rfl (by rw[List.length_append]at hl;omega) h) ?_
 refine jA (k:=K2 (cj_ret ?_))
 exact ej_ret1 Tryz.results42 rfl fun w' hH hf=>⟨rfl,hf⟩
set_option maxHeartbeats 1000000 in
theorem part_c (w:World) (cs:List Value) (m:PMapping) (h:RMapping w cs m) (hs:SzM m) (hT:Tabs w):Calls Tryz.prog 60 #[.agg cs.toArray] w (Ret fun v w'=>v=.string (txt (mpT (partK m)))∧Fr 0 [] w w'):=by
 obtain ⟨rfl,h1,h2,h3,h4⟩:=h
 obtain ⟨hs1,hs2⟩:=hs
 have ho:=u64r h4
 have hpg:=u64w (IntKind.u64.wrap (m.limit - m.start)+4095)
 have hp1:=u64w (pgs m - pgs m%4096)
 have hl1:(numT (partK m).1).length≤22:=numT_len hp1.2
 have hl2:=numT_len ho.2
 refine startJ (args:=[_]) [(0,_)] 0 [] [] Tryz.func60 rfl Tryz.ntmps60 rfl rfl .nil ?_
 refine sQ fun K1=>cj_reg (j_boxA (vs:=[_,_,_,_,_,_,_,_,_,_]) rfl rfl fun b1=>jA (k:=K1 ?_))
 refine cj_seqF fun K2 hK2=>cj_reg (jF 2 ru78 so76 (k:=jH 0 ag76 (k:=jF 1 ru78 so76 (k:=jH 0 ag76 (k:=?_)))))
 refine j_val rfl (fun _ _ h=>r_sub rfl rfl h) (j_val rfl (fun _ _ h=>r_add rfl rfl h) (jA (k:=j_nil (ej_then (hK2 _ _ _ (sQ fun K3=>cj_reg (jM (k:=jM (k:=?_)))))))))
 refine j_val rfl (fun _ _ h=>r_remI rfl rfl hpg.1 (by omega) h) (j_val rfl (fun _ _ h=>r_sub rfl rfl h) (jA (k:=K3 (CJ.t [(1,_),(3,_)] (k:=sQ fun K4=>cj_reg (jF 5 ru78 so9 (k:=jH 0 ag9 (k:=jA (k:=K4 (sQ fun K5=>sQ fun K6=>cj_reg ?_))))))))))
 refine jM (k:=?_)
 refine j_val rfl (fun _ _ h=>r_seql rfl rfl h) (K6 ?_)
 refine cj_if rfl (fun h18=>?_) (fun h18=>?_)
 ·have hnm:(if m.build=⟨#[]⟩ then m.file else m.build)=m.file:=if_pos (by simpa using h18)
  have hnz:(partK m).2.2.size≤2000000:=by unfold partK;dsimp only;rw[hnm];exact hs1
  have hqn:=qB_len Tg (partK m).2.2
  refine cj_reg (jF 4 ru78 so9 (k:=jH 0 ag9 (k:=jA (k:=K5 (sQ fun K7=>?_)))))
  refine cj_drawI 11 (lts [0,3,4,7]++(1,false)::(lts [2]++(5,false)::(lts [6]++(8,false)::lts [9,10]))) [0] rfl (by kernel_rfl) (by kernel_rfl) (dM [0] (k:=dF [0] 3 ru78 so76 (k:=dH [0] 0 ag76 (k:=dM [0] (k:=dE (h:=fun Kd=>?_))))))
  refine j_callQ (φ:=fun v=>v=.string (txt (numT (partK m).1))) Tryz.call42 rfl rfl (fun w' hH hf=>number_c w' _ hp1.1 hp1.2 (hT.keep (Fr.keepAll hf (.inr rfl)))) fun v hv=>?_
  subst hv
  refine Kd (sb [0]) ?_
  refine dj_val rfl rfl (sub_of [0] rfl) (fun _ _ h=>r_stadd rfl rfl (by (try simp only[List.length_append,List.length_cons,List.length_nil]);omega) h) ?_
  refine dE (h:=fun Kd=>?_)
  refine j_callQ (φ:=fun v=>v=.string (txt (numT m.offset))) Tryz.call42 rfl rfl (fun w' hH hf=>number_c w' _ ho.1 ho.2 (hT.keep (Fr.keepAll hf (.inr rfl)))) fun v hv=>?_
  subst hv
  refine Kd (sb [0]) ?_
  refine dj_val rfl rfl (sub_of [0] rfl) (fun _ _ h=>r_stadd rfl rfl (by (try simp only[List.length_append,List.length_cons,List.length_nil]);omega) h) ?_
  refine dE (h:=fun Kd=>?_)
  refine j_callQ (φ:=fun v=>v=.string (txt (qB Tg (partK m).2.2))) Tryz.call41 rfl rfl (fun w' hH hf=>by first|exact hnm▸quote_c w' (partK m).2.2 (by omega) (hT.keep (Fr.keepAll hf (.inr rfl)))|(rw[show m.file=(partK m).2.2 from hnm.symm];exact quote_c w' (partK m).2.2 (by omega) (hT.keep (Fr.keepAll hf (.inr rfl))))|(rw[show m.build=(partK m).2.2 from hnm.symm];exact quote_c w' (partK m).2.2 (by omega) (hT.keep (Fr.keepAll hf (.inr rfl))))) fun v hv=>?_
  subst hv
  refine Kd (sb [0]) ?_
  refine dj_val rfl rfl (sub_of [0] rfl) (fun _ _ h=>r_stadd rfl rfl (by (try simp only[List.length_append,List.length_cons,List.length_nil]);omega) h) ?_
  refine dA [0] (k:=K7 (CJ.t [(2,_)] (k:=cj_ret ?_)))
  exact ej_ret1 Tryz.results60 rfl fun w' hH hf=>⟨rfl,hf⟩
 ·have hnm:(if m.build=⟨#[]⟩ then m.file else m.build)=m.build:=if_neg (by simpa using h18)
  have hnz:(partK m).2.2.size≤2000000:=by unfold partK;dsimp only;rw[hnm];exact hs2
  have hqn:=qB_len Tg (partK m).2.2
  refine cj_skip (K5 (sQ fun K8=>cj_drawI 11 (lts [0,3,4,7]++(1,false)::(lts [2]++(5,false)::(lts [6]++(8,false)::lts [9,10]))) [0] rfl (by kernel_rfl) (by kernel_rfl) (dM [0] (k:=dF [0] 3 ru78 so76 (k:=dH [0] 0 ag76 (k:=dM [0] (k:=dE (h:=fun Kd=>?_))))))))
  refine j_callQ (φ:=fun v=>v=.string (txt (numT (partK m).1))) Tryz.call42 rfl rfl (fun w' hH hf=>number_c w' _ hp1.1 hp1.2 (hT.keep (Fr.keepAll hf (.inr rfl)))) fun v hv=>?_
  subst hv
  refine Kd (sb [0]) ?_
  refine dj_val rfl rfl (sub_of [0] rfl) (fun _ _ h=>r_stadd rfl rfl (by (try simp only[List.length_append,List.length_cons,List.length_nil]);omega) h) ?_
  refine dE (h:=fun Kd=>?_)
  refine j_callQ (φ:=fun v=>v=.string (txt (numT m.offset))) Tryz.call42 rfl rfl (fun w' hH hf=>number_c w' _ ho.1 ho.2 (hT.keep (Fr.keepAll hf (.inr rfl)))) fun v hv=>?_
  subst hv
  refine Kd (sb [0]) ?_
  refine dj_val rfl rfl (sub_of [0] rfl) (fun _ _ h=>r_stadd rfl rfl (by (try simp only[List.length_append,List.length_cons,List.length_nil]);omega) h) ?_
  refine dE (h:=fun Kd=>?_)
  refine j_callQ (φ:=fun v=>v=.string (txt (qB Tg (partK m).2.2))) Tryz.call41 rfl rfl (fun w' hH hf=>by first|exact hnm▸quote_c w' (partK m).2.2 (by omega) (hT.keep (Fr.keepAll hf (.inr rfl)))|(rw[show m.file=(partK m).2.2 from hnm.symm];exact quote_c w' (partK m).2.2 (by omega) (hT.keep (Fr.keepAll hf (.inr rfl))))|(rw[show m.build=(partK m).2.2 from hnm.symm];exact quote_c w' (partK m).2.2 (by omega) (hT.keep (Fr.keepAll hf (.inr rfl))))) fun v hv=>?_
  subst hv
  refine Kd (sb [0]) ?_
  refine dj_val rfl rfl (sub_of [0] rfl) (fun _ _ h=>r_stadd rfl rfl (by (try simp only[List.length_append,List.length_cons,List.length_nil]);omega) h) ?_
  refine dA [0] (k:=K8 (CJ.t [(2,_)] (k:=cj_ret ?_)))
  exact ej_ret1 Tryz.results60 rfl fun w' hH hf=>⟨rfl,hf⟩
structure KeyOK (x:PProf):Prop where
 m:∀m∈x.mappings,SzM m
 f:∀f∈x.funcs,SzF f
 l:∀l∈x.locs,(-1≤l.mapping∧l.mapping<x.mappings.length)∧l.lines.length≤60∧∀n∈l.lines, -1≤n.fn∧n.fn<x.funcs.length
theorem KeyOK.fo {x:PProf} (h:KeyOK x) (z:Int):(foT ((atZ x.funcs z).map fnK)).length≤60000100:=by
 cases hf:atZ x.funcs z with
 |none=>simp[foT]
 |some f=>
  have hm:f∈x.funcs:=by
    unfold atZ at hf
    split at hf
    ·exact List.mem_of_getElem? hf
    ·cases hf
  obtain ⟨h1,h2,h3⟩:=h.f f hm
  have q1:=qB_len Tg f.name
  have q2:=qB_len Tg f.system
  have q3:=qB_len Tg f.file
  have q4:=numT_len (u64w f.start).2
  show (fT10 (fnK f)).length≤_
  unfold fT10 fnK
  simp only[List.length_append]
  omega
theorem KeyOK.ln {x:PProf} (h:KeyOK x) (n:PLine):(lnT (lnK x n)).length≤60000200:=by
 have h1:=h.fo n.fn
 have h2:=numT_len (u64w n.line).2
 unfold lnT lnK
 simp only[List.length_append,List.length_cons,List.length_nil]
 omega
theorem flat_lenB {α:Type} {f:α→List UInt8} {C:Nat}:∀{l:List α},(∀x∈l,(f x).length≤C)→(l.flatMap f).length≤l.length*C
 |[],_=>by simp
 |a::r,h=>by
    have h1:=flat_lenB (l:=r) fun x hx=>h x (List.mem_cons_of_mem _ hx)
    have h2:=h a (List.mem_cons_self ..)
    rw[List.flatMap_cons,List.length_append,List.length_cons,Nat.succ_mul];omega
theorem take_flatB {α:Type} {xs:List α} {c:α→List UInt8} (hk:k<xs.length):(xs.take (k+1)).flatMap c=(xs.take k).flatMap c++c xs[k]:=by
 rw[← List.take_append_getElem hk,List.flatMap_append];simp
theorem partK_len {m:PMapping} (hs:SzM m) (ho:m.offset<18446744073709551616):(mpT (partK m)).length≤20000100:=by
 have h1:(numT (partK m).1).length≤22:=numT_len (u64w (pgs m - pgs m%4096)).2
 have h2:=numT_len ho
 have h3:=qB_len Tg (partK m).2.2
 have h4:(partK m).2.2.size≤2000000:=by
  unfold partK;dsimp only
  split
  ·exact hs.1
  ·exact hs.2
 unfold mpT
 simp only[List.length_append,List.length_cons,List.length_nil]
 have e:(partK m).2.1=m.offset:=rfl
 rw[e]
 omega
theorem KeyOK.plB {x:PProf} (h:KeyOK x) (ho:∀m∈x.mappings,m.offset<18446744073709551616) (l:PLoc):(plB (plK x l)).length≤20000200:=by
 have h2:=numT_len (u64w (l.addr - ((atZ x.mappings l.mapping).map (·.start)).getD 0)).2
 unfold Go.Fw.plB
 rw[List.length_append]
 show (((Option.map partK (atZ x.mappings l.mapping)).map mpT).getD [45]).length+_≤_
 cases hf:atZ x.mappings l.mapping with
 |none=>
  rw[hf]at h2
  show ([45]:List UInt8).length+_≤_
  simp only[List.length_cons,List.length_nil]
  have:(numT (plK x l).2.1).length≤22:=by unfold plK;rw[hf];exact h2
  omega
 |some m=>
  have hm:m∈x.mappings:=by
    unfold atZ at hf
    split at hf
    ·exact List.mem_of_getElem? hf
    ·cases hf
  have h3:=partK_len (h.m m hm) (ho m hm)
  have:(numT (plK x l).2.1).length≤22:=by unfold plK;rw[hf]at h2⊢;exact h2
  show (mpT (partK m)).length+_≤_
  omega
theorem atZ_pos {α:Type} {xs:List α} {z:Int} (h0:0≤z) (h1:z<xs.length):atZ xs z=some (xs[z.toNat]'(by omega)):=by
 unfold atZ;rw[if_pos h0];exact List.getElem?_eq_getElem (by omega)
theorem atZ_neg {α:Type} {xs:List α} {z:Int} (h0:z<0):atZ xs z=none:=by
 unfold atZ;rw[if_neg (by omega)]
set_option maxHeartbeats 1000000 in
theorem place_c (w:World) (cs ds:List Value) (x:PProf) (l:PLoc) (h:RProf w cs x) (hl:RLoc w ds l) (hm:l∈x.locs) (hx:KeyOK x) (hT:Tabs w):Calls Tryz.prog 40 #[.agg cs.toArray,.agg ds.toArray] w (Ret fun v w'=>v=.string (txt (plT (plK x l)))∧Fr 0 [] w w'):=by
 have hP:=h
 obtain ⟨la,ls,lm,ll,lf,lcm,rfl,hla,hls,hlm,hll,hlf,hlc, -⟩:=h
 obtain ⟨pa,ca,rfl, -⟩:=hla.open
 obtain ⟨ps,c_s,rfl, -⟩:=hls.open
 obtain ⟨pm,cm,rfl, -,hxm⟩:=hlm.open
 obtain ⟨pl,cl,rfl, -⟩:=hll.open
 obtain ⟨pf,cf,rfl, -,hxf⟩:=hlf.open
 obtain ⟨pc,cc,rfl, -⟩:=hlc.open
 obtain ⟨lln,rfl,hw1,hw2,hw3,hln⟩:=hl
 obtain ⟨pn,cn,rfl, -,hxn⟩:=hln.open
 have hwo:∀m∈x.mappings,m.offset<18446744073709551616:=hlm.each fun c m hR=>(u64r hR.2.2.2.2).2
 obtain ⟨⟨hm1,hm2⟩,h60,hfn⟩:=hx.l l hm
 have hbl:=hx.plB hwo l
 have hal:=u64w (l.addr - ((atZ x.mappings l.mapping).map (·.start)).getD 0)
 have hnl:(numT (IntKind.u64.wrap (l.addr - ((atZ x.mappings l.mapping).map (·.start)).getD 0))).length≤22:=numT_len hal.2
 have hacc:∀k,((l.lines.take k).flatMap fun n=>lnT (lnK x n)).length≤60*60000200:=fun k=>by
  have h1:=flat_lenB (l:=l.lines.take k) (f:=fun n=>lnT (lnK x n)) (C:=60000200) fun n _=>hx.ln n
  have h2:(l.lines.take k).length≤60:=by rw[List.length_take];omega
  exact Nat.le_trans h1 (Nat.mul_le_mul_right _ h2)
 refine startJ (args:=[_,_]) [(0,.agg (List.toArray [_,_,_,_,_,_,_,_,_,_,_,_,_,_])),(1,.agg (List.toArray [_,_,_,_]))] 0 [] [] Tryz.func40 rfl Tryz.ntmps40 rfl rfl .nil ?_
 refine sQ fun K1=>cj_reg (j_boxA (vs:=[_,_,_,_,_,_,_,_,_,_,_,_,_,_]) rfl rfl fun b2=>j_boxA (vs:=[_,_,_,_]) rfl rfl fun b3=>jA (k:=K1 ?_))
 refine cj_seqF fun K2 hK2=>cj_reg (jA (k:=j_nil (ej_then (hK2 _ _ _ (sQ fun K3=>cj_reg (jF 2 ru89 so76 (k:=jH 0 ag76 (k:=jA (k:=K3 (sQ fun K4=>sQ fun K5=>cj_reg ?_))))))))))
 refine jF 1 ru89 so3 (k:=jH 0 ag3 (k:=?_))
 refine j_val rfl (fun _ _ h=>r_geq rfl rfl h) (K5 (CJ.t [(2,_),(3,_),(5,_),(6,_),(15,_)] (k:=?_)))
 refine cj_dec rfl (fun h15=>?_) (fun h15=>?_)
 ·have hmz:l.mapping.toNat<x.mappings.length:=by omega
  obtain ⟨bm,om,cm',hpm,hcm,hRm,hcellm⟩:=hxm l.mapping.toNat x.mappings[l.mapping.toNat] (List.getElem?_eq_getElem hmz)
  have hRm0:=hRm
  obtain ⟨rfl, -,hms, -⟩:=hRm
  have hma:atZ x.mappings l.mapping=some (x.mappings[l.mapping.toNat]):=atZ_pos (by omega) hm2
  have hplb:plB (plK x l)=mpT (partK x.mappings[l.mapping.toNat])++numT (IntKind.u64.wrap (l.addr - x.mappings[l.mapping.toNat].start)):=by
   unfold plB plK;rw[hma];rfl
  rw[hma]at hal hnl
  replace hal:0≤IntKind.u64.wrap (l.addr - x.mappings[l.mapping.toNat].start)∧IntKind.u64.wrap (l.addr - x.mappings[l.mapping.toNat].start)<18446744073709551616:=hal
  replace hnl:(numT (IntKind.u64.wrap (l.addr - x.mappings[l.mapping.toNat].start))).length≤22:=hnl
  have hpl:=partK_len (hx.m _ (List.getElem_mem hmz)) (hwo _ (List.getElem_mem hmz))
  refine sQ fun K6=>cj_reg (jF 3 ru33 so26 (k:=jH 1 ag26 (k:=?_)))
  refine j_eqv (u:=.slice (some ⟨bm,om,none⟩) x.mappings.length cm) (by rw[hpm]) ?_
  refine jF 1 ru89 so3 (k:=jH 0 ag3 (k:=?_))
  refine j_val rfl (fun _ _ h=>r_idxI l.mapping.toNat ru26 so78 rfl rfl rfl (by omega) hmz h) (j_valw rfl (fun a w ha hH hf=>r_loadA ag78 so78 rfl rfl (hcellm w (hf.keepAll (.inr rfl))) ha) (j_allocA (zs:=[(.int .u64 0),(.int .u64 0),(.int .u64 0),(.int .u64 0),(.string ⟨#[]⟩),(.string ⟨#[]⟩),(.bool false),(.bool false),(.bool false),(.bool false)]) zv78 rfl fun b7=>jB [_,_,_,_,_,_,_,_,_,_] [_,_,_] 0 so78 (k:=K6 (sQ fun K7=>cj_reg ?_))))
  refine j_valw rfl (fun a w ha hH hf=>r_ldA (vs:=[_,_,_,_,_,_,_,_,_,_]) 0 rfl rfl ag78 so78 rfl rfl rfl ha hH) ?_
  refine j_callQ (φ:=fun v=>v=.string (txt (mpT (partK x.mappings[l.mapping.toNat])))) Tryz.call60 rfl rfl (fun w' hH hf=>by
    have a1:=RMapping.keep (hf.keepAll (.inr rfl)) _ _ hRm0
    have a2:=hx.m _ (List.getElem_mem hmz)
    have a4:=part_c w' _ _ a1 a2 (hT.keep (Fr.keepAll hf (.inr rfl)))
    exact a4) fun v hv=>?_
  subst hv
  refine jA (k:=K7 (CJ.t [(2,_),(3,_),(5,_),(6,_),(7,_)] (k:=cj_reg (jM (k:=jF 1 ru78 so76 (k:=jH 0 ag76 (k:=?_)))))))
  refine j_val rfl (fun _ _ h=>r_sub rfl rfl h) (jA (k:=K4 (sQ fun K8=>cj_reg (jM (k:=jM (k:=?_))))))
  first
  |(have:=hRm0;refine j_callQ (φ:=fun v=>v=.string (txt (numT (IntKind.u64.wrap (l.addr - x.mappings[l.mapping.toNat].start))))) Tryz.call42 rfl rfl (fun w' hH hf=>number_c w' _ hal.1 hal.2 (hT.keep (Fr.keepAll hf (.inr rfl)))) fun v hv=>?_)
  |(refine j_callQ (φ:=fun v=>v=.string (txt (numT l.addr))) Tryz.call42 rfl rfl (fun w' hH hf=>number_c w' _ hal.1 hal.2 (hT.keep (Fr.keepAll hf (.inr rfl)))) fun v hv=>?_)
  subst hv
  refine j_val rfl (fun _ _ h=>r_stadd rfl rfl (by (try simp only[List.length_append,List.length_cons,List.length_nil]);omega) h) ?_
  refine jA (k:=K8 (sQ fun K9=>sQ fun K10=>cj_reg (jF 3 ru89 so87 (k:=jH 1 ag87 (k:=jE ru87 (k:=jM (k:=K10 (CJ.t [(2,_),(5,_),(33,_),(34,_),(35,_)] (k:=cj_block ?_)))))))))
  refine cj_loop (σ:=Nat) (fun k=>[(2,ptr b2),(5,.string (txt (plB (plK x l)++(l.lines.take k).flatMap fun n=>lnT (lnK x n)))),(33,.slice pn l.lines.length cn),(34,.int .i64 (l.lines.length:Nat)),(35,.int .i64 (k:Nat))])
   (fun _=>[⟨b2,33,[.slice pa x.types.length ca,.string x.deflt,.slice ps x.samples.length c_s,.slice pm x.mappings.length cm,.slice pl x.locs.length cl,.slice pf x.funcs.length cf,.slice pc x.comments.length cc,.string x.drop,.string x.keep,.int .i64 x.time,.int .i64 x.dur,.int .i64 x.period,.string x.per.ty,.string x.per.unit],true,true,none⟩]) (fun k _=>k≤l.lines.length) (fun k=>l.lines.length - k) 0 ⟨rfl,by rw[hplb,List.take_zero,List.flatMap_nil,List.append_nil];rfl,rfl,rfl,rfl,trivial⟩ (fun w' hH hf=>⟨by first|exact (hH.drop 0).drop 0|exact hH.drop 0|exact hH,Nat.zero_le _⟩) ?_
  rintro k w1 hk hf1 hH1 KL hKL
  refine C.begin _ _ hf1 hH1 ?_
  try dsimp only
  have hak:=hacc k
  refine sQ fun K11=>cj_reg (jS (k:=K11 (sQ fun K12=>?_)))
  refine cj_dec rfl (fun h36=>?_) (fun h36=>?_)
  ·have hk':k<l.lines.length:=by omega
   obtain ⟨bn,on,csn,rfl, -,hRn,hcelln⟩:=hxn k l.lines[k] (List.getElem?_eq_getElem hk')
   obtain ⟨rfl, -, -⟩:=hRn
   obtain ⟨hf1',hf2'⟩:=hfn _ (List.getElem_mem hk')
   have hLn:=u64w l.lines[k].line
   have hLl:=numT_len hLn.2
   refine cj_skip (K12 (sQ fun K13=>cj_block (sQ fun K14=>cj_reg (jJ ru87 so95 (k:=?_)))))
   refine j_valw rfl (fun a w ha hH hf=>r_loadA ag95 so95 rfl rfl (hcelln w (hf.keepAll (.inr rfl))) ha) (j_allocA (zs:=[(.int .i64 0),(.int .i64 0)]) zv95 rfl fun b9=>jB [_,_] [_,_] 0 so95 (k:=K14 (sQ fun K15=>cj_reg (jM (k:=?_)))))
   refine j_val rfl (fun _ _ h=>r_stadd rfl rfl (by (try simp only[List.length_append,List.length_cons,List.length_nil]);omega) h) ?_
   refine jA (k:=K15 (sQ fun K16=>sQ fun K17=>cj_reg (jF 0 ru95 so3 (k:=jH 0 ag3 (k:=?_)))))
   refine j_val rfl (fun _ _ h=>r_geq rfl rfl h) (K17 (CJ.t [(2,_),(5,_),(9,_),(33,_),(34,_),(35,_),(43,_)] (k:=?_)))
   refine cj_dec rfl (fun h43=>?_) (fun h43=>?_)
   ·have hfz:l.lines[k].fn.toNat<x.funcs.length:=by omega
    obtain ⟨bf,of',csf,rfl, -,hRf,hcellf⟩:=hxf l.lines[k].fn.toNat x.funcs[l.lines[k].fn.toNat] (List.getElem?_eq_getElem hfz)
    obtain ⟨rfl, -, -⟩:=hRf
    have hfa:foT (lnK x l.lines[k]).1=qB Tg x.funcs[l.lines[k].fn.toNat].name++qB Tg x.funcs[l.lines[k].fn.toNat].system++qB Tg x.funcs[l.lines[k].fn.toNat].file++numT (IntKind.u64.wrap x.funcs[l.lines[k].fn.toNat].start):=by
     unfold lnK;rw[atZ_pos (by omega) hf2'];rfl
    obtain ⟨hz1,hz2,hz3⟩:=hx.f _ (List.getElem_mem hfz)
    have hq1:=qB_len Tg x.funcs[l.lines[k].fn.toNat].name
    have hq2:=qB_len Tg x.funcs[l.lines[k].fn.toNat].system
    have hq3:=qB_len Tg x.funcs[l.lines[k].fn.toNat].file
    have hSt:=u64w x.funcs[l.lines[k].fn.toNat].start
    have hq4:=numT_len hSt.2
    refine sQ fun K18=>cj_reg (jF 5 ru33 so28 (k:=jH 1 ag28 (k:=jF 0 ru95 so3 (k:=jH 0 ag3 (k:=?_)))))
    refine j_val rfl (fun _ _ h=>r_idxI (z:=l.lines[k].fn) l.lines[k].fn.toNat ru28 so83 rfl rfl rfl (by omega) hfz h) (j_valw rfl (fun a w ha hH hf=>r_loadA ag83 so83 rfl rfl (hcellf w (hf.keepAll (.inr rfl))) ha) (j_allocA (zs:=[(.int .u64 0),(.string ⟨#[]⟩),(.string ⟨#[]⟩),(.string ⟨#[]⟩),(.int .i64 0)]) zv83 rfl fun b10=>jB [_,_,_,_,_] [_,_,_] 0 so83 (k:=K18 ?_)))
    refine cj_drawI 19 (lts [0,1,2,4,5,8,9,12,13,14]++(3,false)::((6,false)::(lts [7]++(10,false)::(lts [11]++(15,false)::lts [16,17,18])))) [2,1,0] rfl (by kernel_rfl) (by kernel_rfl) (dM [2,1,0] (k:=dF [2,1,0] 1 ru83 so9 (k:=dH [2,1,0] 2 ag9 (k:=dF [2,1,0] 2 ru83 so9 (k:=dH [2,1,0] 2 ag9 (k:=dF [2,1,0] 3 ru83 so9 (k:=dH [2,1,0] 2 ag9 (k:=dF [2,1,0] 4 ru83 so2 (k:=dH [2,1,0] 2 ag2 (k:=?_))))))))))
    refine dj_val rfl rfl (sub_of [2,1,0] rfl) (fun _ _ h=>r_conv ru2 ru76 rfl h) (dE (h:=fun Kd=>?_))
    refine j_callQ (φ:=fun v=>v=.string (txt (qB Tg x.funcs[l.lines[k].fn.toNat].name))) Tryz.call41 rfl rfl (fun w' hH hf=>quote_c w' _ (by omega) (hT.keep (Fr.keepAll hf (.inr rfl)))) fun v hv=>?_
    subst hv
    refine Kd (sb [2,1,0]) (dE (h:=fun Kd=>?_))
    refine j_callQ (φ:=fun v=>v=.string (txt (qB Tg x.funcs[l.lines[k].fn.toNat].system))) Tryz.call41 rfl rfl (fun w' hH hf=>quote_c w' _ (by omega) (hT.keep (Fr.keepAll hf (.inr rfl)))) fun v hv=>?_
    subst hv
    refine Kd (sb [2,1,0]) ?_
    refine dj_val rfl rfl (sub_of [2,1,0] rfl) (fun _ _ h=>r_stadd rfl rfl (by (try simp only[List.length_append,List.length_cons,List.length_nil]);omega) h) ?_
    refine dE (h:=fun Kd=>?_)
    refine j_callQ (φ:=fun v=>v=.string (txt (qB Tg x.funcs[l.lines[k].fn.toNat].file))) Tryz.call41 rfl rfl (fun w' hH hf=>quote_c w' _ (by omega) (hT.keep (Fr.keepAll hf (.inr rfl)))) fun v hv=>?_
    subst hv
    refine Kd (sb [2,1,0]) ?_
    refine dj_val rfl rfl (sub_of [2,1,0] rfl) (fun _ _ h=>r_stadd rfl rfl (by (try simp only[List.length_append,List.length_cons,List.length_nil]);omega) h) ?_
    refine dE (h:=fun Kd=>?_)
    refine j_callQ (φ:=fun v=>v=.string (txt (numT (IntKind.u64.wrap x.funcs[l.lines[k].fn.toNat].start)))) Tryz.call42 rfl rfl (fun w' hH hf=>number_c w' _ hSt.1 hSt.2 (hT.keep (Fr.keepAll hf (.inr rfl)))) fun v hv=>?_
    subst hv
    refine Kd (sb [2,1,0]) ?_
    refine dj_val rfl rfl (sub_of [2,1,0] rfl) (fun _ _ h=>r_stadd rfl rfl (by (try simp only[List.length_append,List.length_cons,List.length_nil]);omega) h) ?_
    refine dj_val rfl rfl (sub_of [2,1,0] rfl) (fun _ _ h=>r_stadd rfl rfl (by (try simp only[List.length_append,List.length_cons,List.length_nil]);omega) h) ?_
    refine dA [2,1,0] (k:=K16 (CJ.t [(2,_),(5,_),(9,_),(33,_),(34,_),(35,_)] (k:=cj_reg (jM (k:=jF 1 ru95 so2 (k:=jH 1 ag2 (k:=?_)))))))
    refine j_val rfl (fun _ _ h=>r_conv ru2 ru76 rfl h) ?_
    refine j_callQ (φ:=fun v=>v=.string (txt (numT (IntKind.u64.wrap l.lines[k].line)))) Tryz.call42 rfl rfl (fun w' hH hf=>number_c w' _ hLn.1 hLn.2 (hT.keep (Fr.keepAll hf (.inr rfl)))) fun v hv=>?_
    subst hv
    refine j_val rfl (fun _ _ h=>r_stadd rfl rfl (by (try simp only[List.length_append,List.length_cons,List.length_nil]);omega) h) ?_
    refine j_val rfl (fun _ _ h=>r_stadd rfl rfl (by (try simp only[List.length_append,List.length_cons,List.length_nil]);omega) h) ?_
    refine jA (k:=K13 (cj_reg (jI (k:=jM (k:=j_nil (ej_then ?_))))))
    exact fun w' hH hf=>hKL (k+1) _ w' hk' hf (by first|exact (hH.drop 0).drop 0|exact hH.drop 0|exact hH) (by omega) ⟨rfl,by rw[take_flatB hk'];unfold lnT;rw[hfa];simp only[List.append_assoc,List.nil_append];rfl,rfl,rfl,rfl,trivial⟩
   ·have hfa:foT (lnK x l.lines[k]).1=[]:=by
     unfold lnK;rw[atZ_neg (by omega)];rfl
    refine cj_skip (K16 (cj_reg (jM (k:=jF 1 ru95 so2 (k:=jH 0 ag2 (k:=?_))))))
    refine j_val rfl (fun _ _ h=>r_conv ru2 ru76 rfl h) ?_
    refine j_callQ (φ:=fun v=>v=.string (txt (numT (IntKind.u64.wrap l.lines[k].line)))) Tryz.call42 rfl rfl (fun w' hH hf=>number_c w' _ hLn.1 hLn.2 (hT.keep (Fr.keepAll hf (.inr rfl)))) fun v hv=>?_
    subst hv
    refine j_val rfl (fun _ _ h=>r_stadd rfl rfl (by (try simp only[List.length_append,List.length_cons,List.length_nil]);omega) h) ?_
    refine j_val rfl (fun _ _ h=>r_stadd rfl rfl (by (try simp only[List.length_append,List.length_cons,List.length_nil]);omega) h) ?_
    refine jA (k:=K13 (CJ.t [(2,_),(5,_),(33,_),(34,_),(35,_)] (k:=cj_reg (jI (k:=jM (k:=j_nil (ej_then ?_)))))))
    exact fun w' hH hf=>hKL (k+1) _ w' hk' hf (by first|exact (hH.drop 0).drop 0|exact hH.drop 0|exact hH) (by omega) ⟨rfl,by rw[take_flatB hk'];unfold lnT;rw[hfa];simp only[List.append_assoc,List.nil_append];rfl,rfl,rfl,rfl,trivial⟩
  ·have hke:k=l.lines.length:=by omega
   have hfin:plB (plK x l)++((l.lines.take k).flatMap fun n=>lnT (lnK x n))=plT (plK x l):=by
    rw[hke,List.take_of_length_le (Nat.le_refl _)];unfold plT plK;rw[List.flatMap_map]
   refine cj_exit (K9 (sQ fun K19=>cj_reg (jM (k:=jA (k:=K19 (cj_ret ?_))))))
   exact ej_ret1 Tryz.results40 rfl fun w' hH hf=>⟨by rw[hfin],hf⟩
 ·have hma:atZ x.mappings l.mapping=none:=atZ_neg (by omega)
  have hae:IntKind.u64.wrap (l.addr - 0)=l.addr:=by rw[Int.sub_zero];exact hw3
  have hplb:plB (plK x l)=[45]++numT l.addr:=by
   unfold plB plK;rw[hma];show _++numT (IntKind.u64.wrap (l.addr - 0))=_;rw[hae];rfl
  rw[hma]at hal hnl
  replace hal:0≤l.addr∧l.addr<18446744073709551616:=by rw[← hae];exact hal
  replace hnl:(numT l.addr).length≤22:=by rw[← hae];exact hnl
  refine cj_skip (K4 (sQ fun K20=>cj_reg (jM (k:=jM (k:=?_)))))
  first
  |(have:=hRm0;refine j_callQ (φ:=fun v=>v=.string (txt (numT (IntKind.u64.wrap (l.addr - x.mappings[l.mapping.toNat].start))))) Tryz.call42 rfl rfl (fun w' hH hf=>number_c w' _ hal.1 hal.2 (hT.keep (Fr.keepAll hf (.inr rfl)))) fun v hv=>?_)
  |(refine j_callQ (φ:=fun v=>v=.string (txt (numT l.addr))) Tryz.call42 rfl rfl (fun w' hH hf=>number_c w' _ hal.1 hal.2 (hT.keep (Fr.keepAll hf (.inr rfl)))) fun v hv=>?_)
  subst hv
  refine j_val rfl (fun _ _ h=>r_stadd rfl rfl (by (try simp only[List.length_append,List.length_cons,List.length_nil]);omega) h) ?_
  refine jA (k:=K20 (sQ fun K21=>sQ fun K22=>cj_reg (jF 3 ru89 so87 (k:=jH 0 ag87 (k:=jE ru87 (k:=jM (k:=K22 (CJ.t [(2,_),(5,_),(33,_),(34,_),(35,_)] (k:=cj_block ?_)))))))))
  refine cj_loop (σ:=Nat) (fun k=>[(2,ptr b2),(5,.string (txt (plB (plK x l)++(l.lines.take k).flatMap fun n=>lnT (lnK x n)))),(33,.slice pn l.lines.length cn),(34,.int .i64 (l.lines.length:Nat)),(35,.int .i64 (k:Nat))])
   (fun _=>[⟨b2,33,[.slice pa x.types.length ca,.string x.deflt,.slice ps x.samples.length c_s,.slice pm x.mappings.length cm,.slice pl x.locs.length cl,.slice pf x.funcs.length cf,.slice pc x.comments.length cc,.string x.drop,.string x.keep,.int .i64 x.time,.int .i64 x.dur,.int .i64 x.period,.string x.per.ty,.string x.per.unit],true,true,none⟩]) (fun k _=>k≤l.lines.length) (fun k=>l.lines.length - k) 0 ⟨rfl,by rw[hplb,List.take_zero,List.flatMap_nil,List.append_nil];rfl,rfl,rfl,rfl,trivial⟩ (fun w' hH hf=>⟨by first|exact (hH.drop 0).drop 0|exact hH.drop 0|exact hH,Nat.zero_le _⟩) ?_
  rintro k w1 hk hf1 hH1 KL hKL
  refine C.begin _ _ hf1 hH1 ?_
  try dsimp only
  have hak:=hacc k
  refine sQ fun K23=>cj_reg (jS (k:=K23 (sQ fun K24=>?_)))
  refine cj_dec rfl (fun h36=>?_) (fun h36=>?_)
  ·have hk':k<l.lines.length:=by omega
   obtain ⟨bn,on,csn,rfl, -,hRn,hcelln⟩:=hxn k l.lines[k] (List.getElem?_eq_getElem hk')
   obtain ⟨rfl, -, -⟩:=hRn
   obtain ⟨hf1',hf2'⟩:=hfn _ (List.getElem_mem hk')
   have hLn:=u64w l.lines[k].line
   have hLl:=numT_len hLn.2
   refine cj_skip (K24 (sQ fun K25=>cj_block (sQ fun K26=>cj_reg (jJ ru87 so95 (k:=?_)))))
   refine j_valw rfl (fun a w ha hH hf=>r_loadA ag95 so95 rfl rfl (hcelln w (hf.keepAll (.inr rfl))) ha) (j_allocA (zs:=[(.int .i64 0),(.int .i64 0)]) zv95 rfl fun b9=>jB [_,_] [_,_] 0 so95 (k:=K26 (sQ fun K27=>cj_reg (jM (k:=?_)))))
   refine j_val rfl (fun _ _ h=>r_stadd rfl rfl (by (try simp only[List.length_append,List.length_cons,List.length_nil]);omega) h) ?_
   refine jA (k:=K27 (sQ fun K28=>sQ fun K29=>cj_reg (jF 0 ru95 so3 (k:=jH 0 ag3 (k:=?_)))))
   refine j_val rfl (fun _ _ h=>r_geq rfl rfl h) (K29 (CJ.t [(2,_),(5,_),(9,_),(33,_),(34,_),(35,_),(43,_)] (k:=?_)))
   refine cj_dec rfl (fun h43=>?_) (fun h43=>?_)
   ·have hfz:l.lines[k].fn.toNat<x.funcs.length:=by omega
    obtain ⟨bf,of',csf,rfl, -,hRf,hcellf⟩:=hxf l.lines[k].fn.toNat x.funcs[l.lines[k].fn.toNat] (List.getElem?_eq_getElem hfz)
    obtain ⟨rfl, -, -⟩:=hRf
    have hfa:foT (lnK x l.lines[k]).1=qB Tg x.funcs[l.lines[k].fn.toNat].name++qB Tg x.funcs[l.lines[k].fn.toNat].system++qB Tg x.funcs[l.lines[k].fn.toNat].file++numT (IntKind.u64.wrap x.funcs[l.lines[k].fn.toNat].start):=by
     unfold lnK;rw[atZ_pos (by omega) hf2'];rfl
    obtain ⟨hz1,hz2,hz3⟩:=hx.f _ (List.getElem_mem hfz)
    have hq1:=qB_len Tg x.funcs[l.lines[k].fn.toNat].name
    have hq2:=qB_len Tg x.funcs[l.lines[k].fn.toNat].system
    have hq3:=qB_len Tg x.funcs[l.lines[k].fn.toNat].file
    have hSt:=u64w x.funcs[l.lines[k].fn.toNat].start
    have hq4:=numT_len hSt.2
    refine sQ fun K30=>cj_reg (jF 5 ru33 so28 (k:=jH 1 ag28 (k:=jF 0 ru95 so3 (k:=jH 0 ag3 (k:=?_)))))
    refine j_val rfl (fun _ _ h=>r_idxI (z:=l.lines[k].fn) l.lines[k].fn.toNat ru28 so83 rfl rfl rfl (by omega) hfz h) (j_valw rfl (fun a w ha hH hf=>r_loadA ag83 so83 rfl rfl (hcellf w (hf.keepAll (.inr rfl))) ha) (j_allocA (zs:=[(.int .u64 0),(.string ⟨#[]⟩),(.string ⟨#[]⟩),(.string ⟨#[]⟩),(.int .i64 0)]) zv83 rfl fun b10=>jB [_,_,_,_,_] [_,_,_] 0 so83 (k:=K30 ?_)))
    refine cj_drawI 19 (lts [0,1,2,4,5,8,9,12,13,14]++(3,false)::((6,false)::(lts [7]++(10,false)::(lts [11]++(15,false)::lts [16,17,18])))) [2,1,0] rfl (by kernel_rfl) (by kernel_rfl) (dM [2,1,0] (k:=dF [2,1,0] 1 ru83 so9 (k:=dH [2,1,0] 2 ag9 (k:=dF [2,1,0] 2 ru83 so9 (k:=dH [2,1,0] 2 ag9 (k:=dF [2,1,0] 3 ru83 so9 (k:=dH [2,1,0] 2 ag9 (k:=dF [2,1,0] 4 ru83 so2 (k:=dH [2,1,0] 2 ag2 (k:=?_))))))))))
    refine dj_val rfl rfl (sub_of [2,1,0] rfl) (fun _ _ h=>r_conv ru2 ru76 rfl h) (dE (h:=fun Kd=>?_))
    refine j_callQ (φ:=fun v=>v=.string (txt (qB Tg x.funcs[l.lines[k].fn.toNat].name))) Tryz.call41 rfl rfl (fun w' hH hf=>quote_c w' _ (by omega) (hT.keep (Fr.keepAll hf (.inr rfl)))) fun v hv=>?_
    subst hv
    refine Kd (sb [2,1,0]) (dE (h:=fun Kd=>?_))
    refine j_callQ (φ:=fun v=>v=.string (txt (qB Tg x.funcs[l.lines[k].fn.toNat].system))) Tryz.call41 rfl rfl (fun w' hH hf=>quote_c w' _ (by omega) (hT.keep (Fr.keepAll hf (.inr rfl)))) fun v hv=>?_
    subst hv
    refine Kd (sb [2,1,0]) ?_
    refine dj_val rfl rfl (sub_of [2,1,0] rfl) (fun _ _ h=>r_stadd rfl rfl (by (try simp only[List.length_append,List.length_cons,List.length_nil]);omega) h) ?_
    refine dE (h:=fun Kd=>?_)
    refine j_callQ (φ:=fun v=>v=.string (txt (qB Tg x.funcs[l.lines[k].fn.toNat].file))) Tryz.call41 rfl rfl (fun w' hH hf=>quote_c w' _ (by omega) (hT.keep (Fr.keepAll hf (.inr rfl)))) fun v hv=>?_
    subst hv
    refine Kd (sb [2,1,0]) ?_
    refine dj_val rfl rfl (sub_of [2,1,0] rfl) (fun _ _ h=>r_stadd rfl rfl (by (try simp only[List.length_append,List.length_cons,List.length_nil]);omega) h) ?_
    refine dE (h:=fun Kd=>?_)
    refine j_callQ (φ:=fun v=>v=.string (txt (numT (IntKind.u64.wrap x.funcs[l.lines[k].fn.toNat].start)))) Tryz.call42 rfl rfl (fun w' hH hf=>number_c w' _ hSt.1 hSt.2 (hT.keep (Fr.keepAll hf (.inr rfl)))) fun v hv=>?_
    subst hv
    refine Kd (sb [2,1,0]) ?_
    refine dj_val rfl rfl (sub_of [2,1,0] rfl) (fun _ _ h=>r_stadd rfl rfl (by (try simp only[List.length_append,List.length_cons,List.length_nil]);omega) h) ?_
    refine dj_val rfl rfl (sub_of [2,1,0] rfl) (fun _ _ h=>r_stadd rfl rfl (by (try simp only[List.length_append,List.length_cons,List.length_nil]);omega) h) ?_
    refine dA [2,1,0] (k:=K28 (CJ.t [(2,_),(5,_),(9,_),(33,_),(34,_),(35,_)] (k:=cj_reg (jM (k:=jF 1 ru95 so2 (k:=jH 1 ag2 (k:=?_)))))))
    refine j_val rfl (fun _ _ h=>r_conv ru2 ru76 rfl h) ?_
    refine j_callQ (φ:=fun v=>v=.string (txt (numT (IntKind.u64.wrap l.lines[k].line)))) Tryz.call42 rfl rfl (fun w' hH hf=>number_c w' _ hLn.1 hLn.2 (hT.keep (Fr.keepAll hf (.inr rfl)))) fun v hv=>?_
    subst hv
    refine j_val rfl (fun _ _ h=>r_stadd rfl rfl (by (try simp only[List.length_append,List.length_cons,List.length_nil]);omega) h) ?_
    refine j_val rfl (fun _ _ h=>r_stadd rfl rfl (by (try simp only[List.length_append,List.length_cons,List.length_nil]);omega) h) ?_
    refine jA (k:=K25 (cj_reg (jI (k:=jM (k:=j_nil (ej_then ?_))))))
    exact fun w' hH hf=>hKL (k+1) _ w' hk' hf (by first|exact (hH.drop 0).drop 0|exact hH.drop 0|exact hH) (by omega) ⟨rfl,by rw[take_flatB hk'];unfold lnT;rw[hfa];simp only[List.append_assoc,List.nil_append];rfl,rfl,rfl,rfl,trivial⟩
   ·have hfa:foT (lnK x l.lines[k]).1=[]:=by
     unfold lnK;rw[atZ_neg (by omega)];rfl
    refine cj_skip (K28 (cj_reg (jM (k:=jF 1 ru95 so2 (k:=jH 0 ag2 (k:=?_))))))
    refine j_val rfl (fun _ _ h=>r_conv ru2 ru76 rfl h) ?_
    refine j_callQ (φ:=fun v=>v=.string (txt (numT (IntKind.u64.wrap l.lines[k].line)))) Tryz.call42 rfl rfl (fun w' hH hf=>number_c w' _ hLn.1 hLn.2 (hT.keep (Fr.keepAll hf (.inr rfl)))) fun v hv=>?_
    subst hv
    refine j_val rfl (fun _ _ h=>r_stadd rfl rfl (by (try simp only[List.length_append,List.length_cons,List.length_nil]);omega) h) ?_
    refine j_val rfl (fun _ _ h=>r_stadd rfl rfl (by (try simp only[List.length_append,List.length_cons,List.length_nil]);omega) h) ?_
    refine jA (k:=K25 (CJ.t [(2,_),(5,_),(33,_),(34,_),(35,_)] (k:=cj_reg (jI (k:=jM (k:=j_nil (ej_then ?_)))))))
    exact fun w' hH hf=>hKL (k+1) _ w' hk' hf (by first|exact (hH.drop 0).drop 0|exact hH.drop 0|exact hH) (by omega) ⟨rfl,by rw[take_flatB hk'];unfold lnT;rw[hfa];simp only[List.append_assoc,List.nil_append];rfl,rfl,rfl,rfl,trivial⟩
  ·have hke:k=l.lines.length:=by omega
   have hfin:plB (plK x l)++((l.lines.take k).flatMap fun n=>lnT (lnK x n))=plT (plK x l):=by
    rw[hke,List.take_of_length_le (Nat.le_refl _)];unfold plT plK;rw[List.flatMap_map]
   refine cj_exit (K21 (sQ fun K31=>cj_reg (jM (k:=jA (k:=K31 (cj_ret ?_))))))
   exact ej_ret1 Tryz.results40 rfl fun w' hH hf=>⟨by rw[hfin],hf⟩
open Go Go.Fw Go.Proofs Go.Proofs.Tryz
structure TxS (s:PSample):Prop where
 t:∀t∈s.texts,t.key.size≤2000000∧∀x∈t.list,x.size≤2000000
 n:∀t∈s.nums,t.key.size≤2000000∧Fit t.list
theorem find_mem {β γ:Type} {ts:List β} {key:β→ByteArray} {lst:β→List γ} {k:ByteArray} (h:((ts.find? fun t=>key t=k).map lst).getD []≠[]):∃t∈ts,key t=k∧((ts.find? fun t=>key t=k).map lst).getD []=lst t:=by
 cases hf:ts.find? fun t=>key t=k with
 |none=>rw[hf]at h;exact absurd rfl h
 |some u=>exact ⟨u,List.mem_of_find?_eq_some hf,by simpa using List.find?_some hf,rfl⟩
theorem find_at {β γ:Type} {ts:List β} {key:β→ByteArray} {lst:β→List γ} (hn:(ts.map key).Nodup):∀t∈ts,((ts.find? fun u=>key u=key t).map lst).getD []=lst t:=by
 induction ts with
 |nil=>intro t ht;cases ht
 |cons a r ih=>
  intro t ht
  rw[List.map_cons,List.nodup_cons]at hn
  by_cases e:key a=key t
  ·rw[List.find?_cons_of_pos (by simpa using e)]
   rcases List.mem_cons.1 ht with rfl|ht
   ·rfl
   ·exact absurd (by rw[e];exact List.mem_map_of_mem ht) hn.1
  ·rw[List.find?_cons_of_neg (by simpa using e)]
   rcases List.mem_cons.1 ht with rfl|ht
   ·exact absurd rfl e
   ·exact ih hn.2 t ht
theorem nodup_tx (h:LabP s):(s.texts.map (·.key)).Nodup:=h.tpw.imp fun {a b} h e=>by subst e;rw[ltB_irrefl]at h;cases h
theorem nodup_nx (h:LabP s):(s.nums.map (·.key)).Nodup:=h.npw.imp fun {a b} h e=>by subst e;rw[ltB_irrefl]at h;cases h
structure SamY (w:World) (locs:List Nat) (b:Nat) (s:PSample):Prop where
 ex:∃ls vs lm nm um iv xv,Blk w b tSam [ls,vs,lm,nm,um,iv,xv]∧OS pLoc 1 w ls (s.stack.map (ptrAt locs))∧LabF tStr .string w lm (fT s)∧LabF tI64 (.int .i64) w nm (fN s)∧UnN w um
theorem Own.make0 {T sz c:Nat} {cs:List Value} (h:cs.length=c*sz):Own T sz ⟨b,T,cs,true,true,none⟩ (some ⟨b,0,none⟩) 0 c []:=⟨rfl,rfl,rfl,by simp,Nat.zero_le _,.inl ⟨rfl,rfl,⟨cs,rfl⟩,h⟩⟩
theorem keyStr:KeyT Tryz.prog 9 Value.string (fun _ _=>True):=keyT_string ru9
abbrev tSmK:Nat:=154
theorem map_pair {κ:Type} {xs:List MapEntry} {ks:List ByteArray} {es:List MapEntry} {ms:List (ByteArray×Value)} {ck:Nat} (hM:MEnc Value.string ms es ck) (hp:xs.Perm es) (hk:xs.map (·.key)=ks.map .string) (_:κ=κ):ks.Perm (ms.map (·.1)):=by
 have h1:=hp.map (·.key)
 rw[hk]at h1
 have h2:es.map (·.key)=(ms.map (·.1)).map .string:=by
  have:=congrArg (List.map Prod.fst) hM.kv
  simpa[List.map_map,Function.comp_def]using this
 rw[h2]at h1
 obtain ⟨t,h3,h4⟩:=perm_of_map Value.string h1 _ rfl
 rw[List.map_inj_right (f:=Value.string) (fun a b h=>by cases h;rfl)]at h4
 rw[h4];exact h3
set_option maxHeartbeats 4000000 in
theorem smpKey_c (w:World) (locs:List Nat) (b:Nat) (s:PSample) (h:SamY w locs b s) (hloc:∀k∈s.stack,0≤k∧k<2000000∧∃bl cs,ptrAt locs k=ptr bl∧Blk w bl tLoc (.int .u64 (k+1)::cs)) (hst:s.stack.length≤60) (hL:LabP s) (hX:TxS s) (hT:Tabs w):
  Calls Tryz.prog 54 #[ptr b] w (Ret fun v w'=>(∃k:SmpK,v=encSm k∧SKey s k)∧Fr 0 [] w w'):=by
 obtain ⟨ls,vs,lm,nm,um,iv,xv,hb,hls,hlm,hnm,hum⟩:=h.ex
 obtain ⟨pL,lL,cL,rfl,hlL, -,hLx⟩:=hls.openF
 simp only[List.length_map,Nat.mul_one]at hlL
 subst hlL
 obtain ⟨mo1,es1,ck1,ms1,rfl,hA1,hM1,hg1,hn1⟩:=hlm.opn
 obtain ⟨mo2,es2,ck2,ms2,rfl,hA2,hM2,hg2,hn2⟩:=hnm.opn
 obtain ⟨mo3,es3,ck3,ms3,rfl,hA3,hM3,hg3⟩:=hum.opn
 have hl1:es1.length≤60:=by
  rw[hM1.length]
  have:=keys_len (ids:=s.texts.map (·.key)) hM1.keys fun k u hu=>by
   obtain ⟨t,ht,rfl, -⟩:=find_mem (hg1 k u hu).1
   exact List.mem_map_of_mem ht
  rw[List.length_map]at this
  exact Nat.le_trans this hL.tlen
 have hl2:es2.length≤60:=by
  rw[hM2.length]
  have:=keys_len (ids:=s.nums.map (·.key)) hM2.keys fun k u hu=>by
   obtain ⟨t,ht,rfl, -⟩:=find_mem (hg2 k u hu).1
   exact List.mem_map_of_mem ht
  rw[List.length_map]at this
  exact Nat.le_trans this hL.nlen
 have hc0:=mc (f:=⟨w,0,[]⟩) hb rfl
 obtain ⟨T,hTT⟩:∃T,T=s.stack.map fun k=>Value.string (txt (hexU (k.toNat+1))):=⟨_,rfl⟩
 have hTl:T.length=s.stack.length:=by rw[hTT,List.length_map]
 obtain ⟨e0,he0⟩:∃e0:Value,e0=.string ⟨#[]⟩:=⟨_,rfl⟩
 refine startJ (args:=[_]) [(0,_)] 0 [] [] func54 rfl ntmps54 rfl rfl .nil ?_
 refine sQ fun K1=>cj_reg (j_allocA (zs:=[(.string ⟨#[]⟩),(.string ⟨#[]⟩),(.string ⟨#[]⟩)]) zv154 rfl fun b2=>K1 (cj_seqF fun K2 hK2=>cj_reg (jM (k:=jN (k:=jF 0 ru103 so72 (k:=jL ag72 hc0 0 (k:=jE ru72 (k:=?_))))))))
 refine j_make (l:=s.stack.length) ru29 el9 rfl rfl rfl (Nat.le_refl _) (by omega) rfl fun b17 cs17 _ hcs17=>?_
 replace hcs17:cs17=putR T e0 0:=by rw[hcs17 _ zv9,make_one rfl, ← he0,putR,hTl];simp
 subst hcs17
 refine jA (k:=j_nil (ej_then (hK2 _ _ _ (sQ fun K3=>sQ fun K4=>cj_reg (jM (k:=jN (k:=jF 0 ru103 so72 (k:=jL ag72 hc0 0 (k:=jE ru72 (k:=jM (k:=K4 (CJ.t [(0,_),(2,_),(3,_),(21,_),(22,_),(23,_)] (k:=?_)))))))))))))
 refine cj_block ?_
 refine cj_loop (σ:=Nat) (fun k=>[(0,ptr b),(2,ptr b2),(3,.slice (some ⟨b17,0,none⟩) s.stack.length s.stack.length),(21,.slice pL s.stack.length cL),(22,.int .i64 (s.stack.length:Nat)),(23,.int .i64 (k:Nat))])
  (fun k=>[⟨b17,tStr,putR T e0 k,true,true,none⟩,⟨b2,tSmK,[.string ⟨#[]⟩,.string ⟨#[]⟩,.string ⟨#[]⟩],true,true,none⟩])
  (fun k _=>k≤s.stack.length) (fun k=>s.stack.length - k) 0 sR (fun w' hH hf=>⟨hH,Nat.zero_le _⟩) ?_
 intro k w1 hk hf1 hH1 KL hKL
 refine C.begin _ _ hf1 hH1 ?_
 refine sQ fun K5=>cj_reg (jS (k:=K5 (sQ fun K6=>?_)))
 refine cj_dec rfl (fun h24=>?_) (fun h24=>?_)
 ·have hk':k<s.stack.length:=by omega
  obtain ⟨bl,rfl,hlc⟩:=hLx (by omega)
  obtain ⟨hk0,hk2,bq,cq,hpq,hbq⟩:=hloc _ (List.getElem_mem hk')
  have hcell:∀w',Fm.ok ⟨w,0,[]⟩ w'→w'.cell? ⟨bl,0+k*1,none⟩=some (ptr bq):=fun w' hf=>by
   have:=hlc ⟨w,0,[]⟩ rfl rfl w' hf k (ptrAt locs s.stack[k]) (by rw[List.getElem?_map,List.getElem?_eq_getElem hk'];rfl)
   rw[hpq]at this
   simpa using this
  have hcq:=mc (f:=⟨w,0,[]⟩) hbq rfl
  have hfx:(s.stack[k]+1:Int)=((s.stack[k].toNat+1:Nat):Int):=by omega
  have hTk:T[k]? =some (.string (txt (hexU (s.stack[k].toNat+1)))):=by rw[hTT,List.getElem?_map,List.getElem?_eq_getElem hk'];rfl
  refine cj_skip (K6 (sQ fun K7=>cj_block (sQ fun K8=>cj_reg (jM (k:=jJ ru72 so90 (k:=?_))))))
  refine j_valw rfl (fun a w ha hH hf=>r_load ag90 rfl (hcell w hf) ha) (jA (k:=jA (k:=K8 (cj_reg (jM (k:=jM (k:=jM (k:=jN (k:=jF 0 ru93 so76 (k:=jL ag76 hcq 0 (k:=?_)))))))))))
  rw[hfx]
  refine j_callQ (φ:=fun v=>v=.string (txt (hexU (s.stack[k].toNat+1)))) call62 rfl rfl (fun w' hH hf=>fu16_c w' (s.stack[k].toNat+1) (by omega) (hT.db.keep (Fr.keepAll hf (.inr rfl)))) fun v hv=>?_
  subst hv
  refine jJ ru29 so9 (k:=?_)
  refine j_storeN (cs':=putR T e0 (k+1)) (H':=_) (o:=0+k*1) 0 rfl rfl rfl rfl so9 rfl rfl rfl rfl (Nat.ble_eq_true_of_le (by show 0+k*1+1≤(putR T e0 k).length;rw[putR_len (by omega)];omega)) (by rw[Nat.zero_add,Nat.mul_one];exact putR_step hTk) rfl ?_
  refine K7 (CJ.t [(0,_),(2,_),(3,_),(21,_),(22,_),(23,_)] (k:=cj_reg (jI (k:=jM (k:=j_nil (ej_then ?_))))))
  exact fun w' hH hf=>hKL (k+1) _ w' hk' hf hH (by omega) sR
 ·have hke:k=s.stack.length:=by omega
  subst hke
  rw[← hTl,putR_all,hTl]
  refine cj_exit (K3 (sQ fun K9=>cj_reg (jM (k:=jN (k:=jF 2 ru103 so99 (k:=jL ag99 hc0 2 (k:=?_)))))))
  refine j_valw rfl (fun a w' ha hH hf=>r_mlenM ru99 rfl ha (hA1.keep fun b es ck hb=>(Fr.keepAll hf (.inr rfl)) _ _ hb)) ?_
  refine j_make (l:=0) (c:=es1.length) ru29 el9 rfl rfl rfl (Nat.zero_le _) (by omega) rfl fun b42 cs42 hcs42 _=>?_
  refine jA (k:=K9 (sQ fun K10=>sQ fun K11=>cj_reg (jM (k:=jN (k:=jF 2 ru103 so99 (k:=jL ag99 hc0 2 (k:=?_)))))))
  refine j_rangeM ru99 (fun w' _ hf=>hA1.keep fun b es ck hb=>(Fr.keepAll hf (.inr rfl)) _ _ hb) rfl rfl fun b47=>?_
  refine K11 (CJ.t [(0,_),(2,_),(3,_),(6,_),(47,_)] (k:=cj_block ?_))
  refine cj_loop (σ:=List Nat×List MapEntry×List ByteArray×Ent×Option Addr×Nat) (fun q=>[(0,ptr b),(2,ptr b2),(3,.slice (some ⟨b17,0,none⟩) s.stack.length s.stack.length),(6,.slice q.2.2.2.2.1 q.2.2.1.length q.2.2.2.2.2),(47,ptr b47)])
   (fun q=>[itM b47 mo1 ck1 q.1 ck1,q.2.2.2.1,⟨b17,tStr,T,true,true,none⟩,⟨b2,tSmK,[.string ⟨#[]⟩,.string ⟨#[]⟩,.string ⟨#[]⟩],true,true,none⟩])
   (fun q _=>Vis es1 q.2.1 q.1∧q.2.1.map (·.key)=q.2.2.1.map .string∧Own tStr 1 q.2.2.2.1 q.2.2.2.2.1 q.2.2.1.length q.2.2.2.2.2 ((q.2.2.1.map fun k=>txt (tokT Tg (k,fT s k))).map .string)) (fun q=>es1.length - q.1.length)
   ([],[],[],_,_,_) sR (fun w' hH hf=>⟨hH,Vis.nil,rfl,Own.make0 hcs42⟩) ?_
  rintro ⟨seen,xs,ks,y,p,c⟩ w1 ⟨hV,hxk,hO⟩ hf1 hH1 KL hKL
  try dsimp only at hV hxk hO
  have hsl:seen.length≤60:=Nat.le_trans (hV.len hM1.born) hl1
  have hkl:ks.length=seen.length:=by have h1:=congrArg List.length hxk;have h2:=congrArg List.length hV.sn;simp at h1 h2;omega
  refine C.begin _ _ hf1 hH1 ?_
  refine sQ fun K12=>cj_reg ?_
  refine j_nextM 0 rfl (fun w' _ hf=>hA1.keep fun b es ck hb=>(Fr.keepAll hf (.inr rfl)) _ _ hb) hM1.lt (Nat.le_refl _) rfl rfl (fun hall=>?_) (fun xe hxe hns=>?_)
  ·refine jX (k:=K12 (sQ fun K13=>?_))
   refine cj_if_f rfl (cj_exit (K10 (sQ fun K14=>cj_reg (jM (k:=?_)))))
   refine j_sortP 1 rfl hO (by omega) rfl rfl fun v12 y2 rs hrs hO2=>?_
   obtain ⟨ts,hts,hrse⟩:=perm_of_map _ hrs ks rfl
   subst hrse
   have hksp:=map_pair (κ:=Nat) hM1 (hV.perm hM1.born hall) hxk rfl
   have htp:=keys_perm (f:=fT s) (key:=(·.key)) (lst:=(·.list)) hM1.keys (nodup_tx hL) (fun t ht=>(hL.tl t ht).1) (fun t ht=>show fT s t.key=t.list from find_at (key:=PTexts.key) (lst:=PTexts.list) (nodup_tx hL) t ht) (fun k hk=>by obtain ⟨t,h1,rfl, -⟩:=find_mem hk;exact List.mem_map_of_mem h1) (fun k u hu=>(hg1 k u hu).1) hn1 (hts.trans hksp)
   have htn:ts.length=ks.length:=hts.length_eq
   clear hrs hO hKL
   refine K14 (sQ fun K15=>cj_reg (jM (k:=jN (k:=jF 3 ru103 so37 (k:=jL ag37 hc0 3 (k:=?_))))))
   refine j_valw rfl (fun a w' ha hH hf=>r_mlenM ru37 rfl ha (hA2.keep fun b es ck hb=>(Fr.keepAll hf (.inr rfl)) _ _ hb)) ?_
   refine j_make (l:=0) (c:=es2.length) ru29 el9 rfl rfl rfl (Nat.zero_le _) (by omega) rfl fun b68 cs68 hcs68 _=>?_
   refine jA (k:=K15 (CJ.t [(0,_),(2,_),(3,_),(6,_),(9,_)] (k:=sQ fun K16=>sQ fun K17=>cj_reg (jM (k:=jN (k:=jF 3 ru103 so37 (k:=jL ag37 hc0 3 (k:=?_))))))))
   refine j_rangeM ru37 (fun w' _ hf=>hA2.keep fun b es ck hb=>(Fr.keepAll hf (.inr rfl)) _ _ hb) rfl rfl fun b73=>?_
   refine K17 (cj_block ?_)
   refine cj_loop (σ:=List Nat×List MapEntry×List ByteArray×Ent×Option Addr×Nat) (fun q=>[(0,ptr b),(2,ptr b2),(3,.slice (some ⟨b17,0,none⟩) s.stack.length s.stack.length),(6,.slice p ks.length c),(9,.slice q.2.2.2.2.1 q.2.2.1.length q.2.2.2.2.2),(73,ptr b73)])
    (fun q=>[itM b73 mo2 ck2 q.1 ck2,q.2.2.2.1,y2,⟨b17,tStr,T,true,true,none⟩,⟨b2,tSmK,[.string ⟨#[]⟩,.string ⟨#[]⟩,.string ⟨#[]⟩],true,true,none⟩])
    (fun q _=>Vis es2 q.2.1 q.1∧q.2.1.map (·.key)=q.2.2.1.map .string∧Own tStr 1 q.2.2.2.1 q.2.2.2.2.1 q.2.2.1.length q.2.2.2.2.2 ((q.2.2.1.map fun k=>txt (tokN Tg (k,fN s k))).map .string)) (fun q=>es2.length - q.1.length)
    ([],[],[],_,_,_) sR (fun w' hH hf=>⟨hH.drop 2,Vis.nil,rfl,Own.make0 hcs68⟩) ?_
   rintro ⟨seen2,xs2,ks2,y3,p3,c3⟩ w2 ⟨hV2,hxk2,hO3⟩ hf2 hH2 KL2 hKL2
   try dsimp only at hV2 hxk2 hO3
   have hsl2:seen2.length≤60:=Nat.le_trans (hV2.len hM2.born) hl2
   have hkl2:ks2.length=seen2.length:=by have h1:=congrArg List.length hxk2;have h2:=congrArg List.length hV2.sn;simp at h1 h2;omega
   refine C.begin _ _ hf2 hH2 ?_
   refine sQ fun K18=>cj_reg ?_
   refine j_nextM 0 rfl (fun w' _ hf=>hA2.keep fun b es ck hb=>(Fr.keepAll hf (.inr rfl)) _ _ hb) hM2.lt (Nat.le_refl _) rfl rfl (fun hall2=>?_) (fun xe hxe hns=>?_)
   ·refine jX (k:=K18 (sQ fun K19=>?_))
    refine cj_if_f rfl (cj_exit (K16 (sQ fun K20=>cj_reg (jM (k:=?_)))))
    refine j_sortP 1 rfl hO3 (by omega) rfl rfl fun v18 y4 rs2 hrs2 hO4=>?_
    obtain ⟨ts2,hts2,hrse2⟩:=perm_of_map _ hrs2 ks2 rfl
    subst hrse2
    have hksp2:=map_pair (κ:=Nat) hM2 (hV2.perm hM2.born hall2) hxk2 rfl
    have htp2:=keys_perm (f:=fN s) (key:=(·.key)) (lst:=(·.list)) hM2.keys (nodup_nx hL) (fun t ht=>(hL.nl t ht).1) (fun t ht=>show fN s t.key=t.list from find_at (key:=PNums.key) (lst:=PNums.list) (nodup_nx hL) t ht) (fun k hk=>by obtain ⟨t,h1,rfl, -⟩:=find_mem hk;exact List.mem_map_of_mem h1) (fun k u hu=>(hg2 k u hu).1) hn2 (hts2.trans hksp2)
    have htn2:ts2.length=ks2.length:=hts2.length_eq
    clear hrs2 hO3
    refine K20 (sQ fun K21=>cj_reg (jM (k:=?_)))
    refine j_callQ (φ:=fun v=>v=.string (txt (Lib.join (s.stack.map fun j=>hexU (j.toNat+1)) [124]))) call75 rfl rfl (fun w' hH hf=>joinB_c w' b17 s.stack.length (s.stack.map fun j=>hexU (j.toNat+1)) 124 (by rw[List.length_map]) (by rw[List.map_map];have:=hH.get (i:=3) rfl rfl;rw[hTT]at this;exact this) (by rw[List.length_map];omega) (fun x hx=>by
     obtain ⟨j,hj,rfl⟩:=List.mem_map.1 hx
     have h1:=hexU_len 15 (j.toNat+1) (by have:=hloc j hj;show _<18446744073709551616;omega)
     omega)) fun v hv=>?_
    subst hv
    refine jM (k:=?_)
    refine j_callQ (φ:=fun v=>v=.string (txt ((ts.map fun k=>tokT Tg (k,fT s k)).flatten))) call75 rfl rfl (fun w' hH hf=>joinE_c w' (.slice p ks.length c) (ts.map fun k=>tokT Tg (k,fT s k)) 2000000000 (by have:=hO2.os hH (i:=2) rfl;rw[List.map_map]at this⊢;exact this) (by rw[List.length_map];omega) (fun x hx=>by
     obtain ⟨k,hk,rfl⟩:=List.mem_map.1 hx
     obtain ⟨t,ht,hte⟩:=List.mem_map.1 (htp.subset (List.mem_map_of_mem (f:=fun k=>(k,fT s k)) hk))
     have hts:=hX.t t ht
     have htl:=hL.tl t ht
     have hq1:=qB_len Tg t.key
     have hq2:=qLs_len Tg hts.2
     have hq3:t.list.length*(10*2000000+3)≤60*(10*2000000+3):=Nat.mul_le_mul_right _ htl.2.1
     rw[← show (t.key,t.list)=(k,fT s k) from hte]
     simp only[tokT,List.length_append,List.length_cons,List.length_nil]
     omega) (by decide)) fun v hv=>?_
    subst hv
    refine jM (k:=?_)
    refine j_callQ (φ:=fun v=>v=.string (txt ((ts2.map fun k=>tokN Tg (k,fN s k)).flatten))) call75 rfl rfl (fun w' hH hf=>joinE_c w' (.slice p3 ks2.length c3) (ts2.map fun k=>tokN Tg (k,fN s k)) 2000000000 (by have:=hO4.os hH (i:=1) rfl;rw[List.map_map]at this⊢;exact this) (by rw[List.length_map];omega) (fun x hx=>by
     obtain ⟨k,hk,rfl⟩:=List.mem_map.1 hx
     obtain ⟨t,ht,hte⟩:=List.mem_map.1 (htp2.subset (List.mem_map_of_mem (f:=fun k=>(k,fN s k)) hk))
     have hts:=hX.n t ht
     have htl:=hL.nl t ht
     have hq1:=qB_len Tg t.key
     have hq2:=hLs_len hts.2
     rw[← show (t.key,t.list)=(k,fN s k) from hte]
     simp only[tokN,List.length_append,List.length_cons,List.length_nil]
     omega) (by decide)) fun v hv=>?_
    subst hv
    refine j_val rfl (fun _ _ h=>r_build (cs:=[_,_,_]) bt154 rfl rfl h) (jB [_,_,_] [_,_,_,_,_] 4 so154 (k:=K21 (CJ.t [(2,_)] (k:=cj_ret ?_))))
    exact ej_ret1C results54 ag154 so154 rfl rfl (fun w' hH hf=>⟨_,hH.get (i:=4) rfl rfl⟩) fun w' hH hf=>⟨⟨(txt (Lib.join (s.stack.map fun j=>hexU (j.toNat+1)) [124]),txt ((ts.map fun k=>tokT Tg (k,fT s k)).flatten),txt ((ts2.map fun k=>tokN Tg (k,fN s k)).flatten)),rfl,rfl,⟨_,htp,by rw[List.flatMap_map];rfl⟩,⟨_,htp2,by rw[List.flatMap_map];rfl⟩⟩,hf⟩
   ·refine jX (k:=K18 (sQ fun K22=>?_))
    refine cj_if_t rfl (cj_skip (K22 (cj_block (sQ fun K23=>cj_reg (j_valw rfl (fun a w' ha hH hf=>r_entryM 0 rfl (fun w' _ hf=>hA2.keep fun b es ck hb=>(Fr.keepAll hf (.inr rfl)) _ _ hb) rfl hxe hM2.born ha hH hf) (jX (k:=?_)))))))
    obtain ⟨⟨qs,qv⟩,hq,hqk,hqv⟩:=menc_entry hM2 hxe
    have hqm:=hg2 qs qv (mget_of_mem hM2.keys hq)
    obtain ⟨tq,htq,htk,hte⟩:=find_mem hqm.1
    have hts2:=hX.n tq htq
    have htl:=hL.nl tq htq
    replace hte:fN s qs=tq.list:=hte
    have hq1:=qB_len Tg qs
    have hq2:=hLs_len hts2.2
    have hq0:qs.size≤2000000:=by rw[← htk];exact hts2.1
    obtain ⟨up,uc,hue⟩:=hg3 qs
    refine j_eqv hqk ?_
    refine jX (k:=?_)
    refine j_eqv hqv ?_
    refine jA (k:=jA (k:=K23 ?_))
    refine cj_drawI 17 (lts [0,1,3,6,7,8,9,10,11]++(2,false)::((4,false)::(lts [5]++(12,false)::(lts [13]++(14,false)::(15,false)::lts [16])))) [] rfl (by kernel_rfl) (by kernel_rfl) (dM [] (k:=dM [] (k:=dM [] (k:=dM [] (k:=dN [] (k:=dF [] 4 ru103 so99 (k:=dL [] ag99 hc0 4 (k:=dM [] (k:=?_)))))))))
    refine dj_ld rfl rfl (sub_of [] rfl) (fun a w' ha hS=>(r_mlookM (k:=qs) ru99 keyStr hM3 zv29 rfl rfl ha (hA3.keep fun b es ck hb=>(Fr.keepAll hS.2 (.inr rfl)) _ _ hb)).trans (by rw[hue])) (dE (h:=fun Kd=>?_))
    refine j_callQ (φ:=fun v=>v=.string (txt (qB Tg qs))) call41 rfl rfl (fun w' hH hf=>quote_c w' qs (by omega) (hT.keep (Fr.keepAll hf (.inr rfl)))) fun v hv=>?_
    subst hv
    refine Kd (sb []) (dE (h:=fun Kd=>?_))
    refine j_callQ (φ:=fun v=>v=.string (txt (91::(hLs tq.list++[93])))) call73 rfl rfl (fun w' hH hf=>hexList_c w' qv tq.list (by rw[← hte];exact hqm.2.mono (fr_row hf rfl)) htl.2 hts2.2 (hT.keep (Fr.keepAll hf (.inr rfl)))) fun v hv=>?_
    subst hv
    refine Kd (sb []) ?_
    refine dj_val rfl rfl (sub_of [] rfl) (fun _ _ h=>r_stadd rfl rfl (by (try simp only[List.length_append,List.length_cons,List.length_nil]);omega) h) ?_
    refine dE (h:=fun Kd=>?_)
    refine j_callQ (φ:=fun v=>v=.string (txt [91,93])) call74 rfl rfl (fun w' hH hf=>hexTexts0_c w' up uc) fun v hv=>?_
    subst hv
    refine Kd (sb []) ?_
    refine dj_val rfl rfl (sub_of [] rfl) (fun _ _ h=>r_stadd rfl rfl (by (try simp only[List.length_append,List.length_cons,List.length_nil]);omega) h) ?_
    refine dE (h:=fun Kd=>j_bslice1 ru29 so9 zv9 rfl rfl rfl rfl rfl fun b93=>Kd (sb []) (dE (h:=fun Kd=>?_)))
    refine j_appO 1 rfl hO3 ru29 el9 rfl rfl rfl rfl rfl (by omega) rfl fun y94 p94 c94 hO94=>?_
    refine Kd (sb []) (dA [] (k:=dj_end (ej_blk (ej_then ?_))))
    have hlt:seen2.length<es2.length:=by
     have:=(hV2.push hxe hns).len hM2.born
     simp at this;omega
    exact fun w' hH hf=>hKL2 (seen2++[xe.born],xs2++[xe],ks2++[qs],y94,p94,c94) _ w' ⟨hV2.push hxe hns,by simp[hxk2,hqk],by
     show Own tStr 1 y94 p94 (ks2++[qs]).length c94 (((ks2++[qs]).map fun k=>txt (tokN Tg (k,fN s k))).map .string)
     rw[List.length_append,List.map_append,List.map_append]
     simp only[List.map_cons,List.map_nil,hte]
     have e:tokN Tg (qs,tq.list)=qB Tg qs++91::(hLs tq.list++[93])++[91,93]:=by simp[tokN]
     rw[e]
     exact hO94⟩ hf hH (by simp only[List.length_append,List.length_singleton];omega) ⟨rfl,rfl,rfl,rfl,congrArg (fun q:Nat=>some (Value.slice p94 q c94)) (show ks2.length+1=(ks2++[qs]).length by simp),rfl,trivial⟩
  ·refine jX (k:=K12 (CJ.t [(0,_),(2,_),(3,_),(6,_),(47,_),(49,_)] (k:=sQ fun K24=>?_)))
   refine cj_if_t rfl (cj_skip (K24 (cj_block (sQ fun K25=>cj_reg (j_valw rfl (fun a w' ha hH hf=>r_entryM 0 rfl (fun w' _ hf=>hA1.keep fun b es ck hb=>(Fr.keepAll hf (.inr rfl)) _ _ hb) rfl hxe hM1.born ha hH hf) (jX (k:=?_)))))))
   obtain ⟨⟨qs,qv⟩,hq,hqk,hqv⟩:=menc_entry hM1 hxe
   have hqm:=hg1 qs qv (mget_of_mem hM1.keys hq)
   obtain ⟨tq,htq,htk,hte⟩:=find_mem hqm.1
   have hts:=hX.t tq htq
   have htl:=hL.tl tq htq
   replace hte:fT s qs=tq.list:=hte
   have hq1:=qB_len Tg qs
   have hq2:=qLs_len Tg hts.2
   have hq3:tq.list.length*(10*2000000+3)≤60*(10*2000000+3):=Nat.mul_le_mul_right _ htl.2.1
   have hq0:qs.size≤2000000:=by rw[← htk];exact hts.1
   refine j_eqv hqk ?_
   refine jX (k:=?_)
   refine j_eqv hqv ?_
   refine jA (k:=jA (k:=K25 (cj_reg (jM (k:=jM (k:=?_))))))
   refine j_callQ (φ:=fun v=>v=.string (txt (qB Tg qs))) call41 rfl rfl (fun w' hH hf=>quote_c w' qs (by omega) (hT.keep (Fr.keepAll hf (.inr rfl)))) fun v hv=>?_
   subst hv
   refine jM (k:=?_)
   refine j_callQ (φ:=fun v=>v=.string (txt (91::(qLs Tg tq.list++[93])))) call71 rfl rfl (fun w' hH hf=>quoteList_c w' qv tq.list (by rw[← hte];exact hqm.2.mono (fr_row hf rfl)) htl.2.1 hts.2 (hT.keep (Fr.keepAll hf (.inr rfl)))) fun v hv=>?_
   subst hv
   refine j_val rfl (fun _ _ h=>r_stadd rfl rfl (by (try simp only[List.length_append,List.length_cons,List.length_nil]);omega) h) ?_
   refine j_bslice1 ru29 so9 zv9 rfl rfl rfl rfl rfl fun b59=>?_
   refine j_appO 1 rfl hO ru29 el9 rfl rfl rfl rfl rfl (by omega) rfl fun y60 p60 c60 hO60=>?_
   refine jA (k:=j_nil (ej_blk (ej_then ?_)))
   have hlt:seen.length<es1.length:=by
    have:=(hV.push hxe hns).len hM1.born
    simp at this;omega
   exact fun w' hH hf=>hKL (seen++[xe.born],xs++[xe],ks++[qs],y60,p60,c60) _ w' ⟨hV.push hxe hns,by simp[hxk,hqk],by
    show Own tStr 1 y60 p60 (ks++[qs]).length c60 (((ks++[qs]).map fun k=>txt (tokT Tg (k,fT s k))).map .string)
    rw[List.length_append,List.map_append,List.map_append]
    simp only[List.map_cons,List.map_nil,hte]
    exact hO60⟩ hf hH (by simp only[List.length_append,List.length_singleton];omega) ⟨rfl,rfl,rfl,congrArg (fun q:Nat=>some (Value.slice p60 q c60)) (show ks.length+1=(ks++[qs]).length by simp),rfl,trivial⟩
theorem KeyOK.pl {x:PProf} (h:KeyOK x) (ho:∀m∈x.mappings,m.offset<18446744073709551616) {l:PLoc} (hl:l∈x.locs):(plT (plK x l)).length≤4000000000:=by
 have h1:=h.plB ho l
 have h2:(((plK x l).2.2).flatMap lnT).length≤(plK x l).2.2.length*60000200:=flat_lenB fun k hk=>by
  obtain ⟨n,hn,rfl⟩:=List.mem_map.1 hk
  exact h.ln n
 have h3:(plK x l).2.2.length≤60:=by
  show (l.lines.map (lnK x)).length≤60
  rw[List.length_map];exact (h.l l hl).2.1
 have h4:(plK x l).2.2.length*60000200≤60*60000200:=Nat.mul_le_mul_right _ h3
 unfold plT
 rw[List.length_append]
 omega
def stT (x:PProf) (ss:List Int):List UInt8:=(ss.filterMap fun k=>(atZ x.locs k).map (plK x)).flatMap fun p=>[91]++plT p++[93]
def txT1 (t:PTexts):List UInt8:=txsT (t.key,t.list)
def nmT1 (t:PNums):List UInt8:=nmsT (t.key,t.list)
theorem keyT_eq (x:PProf) (s:PSample):keyT (smK x s)=stT x s.stack++s.texts.flatMap txT1++s.nums.flatMap nmT1:=by
 unfold keyT smK stT
 dsimp only
 rw[List.flatMap_map,List.flatMap_map];rfl
theorem stT_snoc {x:PProf} {ss:List Int} {l:PLoc} (hk:k<ss.length) (hl:atZ x.locs ss[k]=some l):stT x (ss.take (k+1))=stT x (ss.take k)++([91]++plT (plK x l)++[93]):=by
 unfold stT
 rw[← List.take_append_getElem hk,List.filterMap_append,List.flatMap_append]
 simp[hl]
theorem stT_len {x:PProf} (h:KeyOK x) (ho:∀m∈x.mappings,m.offset<18446744073709551616) {ss:List Int} (hs:ss.length≤60):(stT x ss).length≤60*4000000100:=by
 unfold stT
 have h1:((ss.filterMap fun k=>(atZ x.locs k).map (plK x)).flatMap fun p=>[91]++plT p++[93]).length≤(ss.filterMap fun k=>(atZ x.locs k).map (plK x)).length*4000000100:=flat_lenB fun p hp=>by
  obtain ⟨k,hk,he⟩:=List.mem_filterMap.1 hp
  obtain ⟨l,hl,rfl⟩:=Option.map_eq_some_iff.1 he
  have hm:l∈x.locs:=by
   unfold atZ at hl
   split at hl
   ·exact List.mem_of_getElem? hl
   ·cases hl
  have:=h.pl ho hm
  simp only[List.length_append,List.length_cons,List.length_nil]
  omega
 have h2:(ss.filterMap fun k=>(atZ x.locs k).map (plK x)).length≤60:=Nat.le_trans (List.length_filterMap_le ..) hs
 exact Nat.le_trans h1 (Nat.mul_le_mul_right _ h2)
theorem qL_len {l:List ByteArray} (hl:l.length≤60) (h:∀t∈l,t.size≤2000000):(l.flatMap (qB Tg)).length≤60*20000002:=by
 have h1:(l.flatMap (qB Tg)).length≤l.length*20000002:=flat_lenB fun t ht=>by
  have:=h t ht
  have:=qB_len Tg t
  omega
 exact Nat.le_trans h1 (Nat.mul_le_mul_right _ hl)
theorem nL_len {l:List Int} (hl:l.length≤60):(l.flatMap fun x=>numT (IntKind.u64.wrap x)).length≤60*22:=by
 have h1:(l.flatMap fun x=>numT (IntKind.u64.wrap x)).length≤l.length*22:=flat_lenB fun t _=>numT_len (u64w t).2
 exact Nat.le_trans h1 (Nat.mul_le_mul_right _ hl)
theorem txs_len (hL:LabP s) (hT:TxS s) (k:Nat):((s.texts.take k).flatMap txT1).length≤60*1300000000:=by
 have h1:((s.texts.take k).flatMap txT1).length≤(s.texts.take k).length*1300000000:=flat_lenB fun t ht=>by
  have hm:=List.mem_of_mem_take ht
  obtain ⟨q1,q2⟩:=hT.t t hm
  have q3:=qL_len (hL.tl t hm).2.1 q2
  have q4:=qB_len Tg t.key
  unfold txT1 txsT
  simp only[List.length_append,List.length_cons,List.length_nil]
  omega
 have h2:(s.texts.take k).length≤60:=by have:=hL.tlen;rw[List.length_take];omega
 exact Nat.le_trans h1 (Nat.mul_le_mul_right _ h2)
theorem nms_len (hL:LabP s) (hT:TxS s) (k:Nat):((s.nums.take k).flatMap nmT1).length≤60*1300000000:=by
 have h1:((s.nums.take k).flatMap nmT1).length≤(s.nums.take k).length*1300000000:=flat_lenB fun t ht=>by
  have hm:=List.mem_of_mem_take ht
  have q3:=nL_len (hL.nl t hm).2
  have q1:=(hT.n t hm).1
  have q4:=qB_len Tg t.key
  unfold nmT1 nmsT
  simp only[List.length_append,List.length_cons,List.length_nil]
  omega
 have h2:(s.nums.take k).length≤60:=by have:=hL.nlen;rw[List.length_take];omega
 exact Nat.le_trans h1 (Nat.mul_le_mul_right _ h2)
set_option maxHeartbeats 2000000 in
theorem key_c (w:World) (cs ds:List Value) (x:PProf) (s:PSample) (h:RProf w cs x) (hs:RSample w ds s) (hx:KeyOK x) (h60:s.stack.length≤60) (hst:∀k∈s.stack,0≤k∧k<x.locs.length) (hL:LabP s) (hTx:TxS s) (hT:Tabs w):Calls Tryz.prog 17 #[.agg cs.toArray,.agg ds.toArray] w (Ret fun v w'=>v=.string (txt (keyT (smK x s)))∧Fr 0 [] w w'):=by
 have hP:=h
 obtain ⟨la,ls,lm,ll,lf,lcm,rfl,hla,hls,hlm,hll,hlf,hlc, -⟩:=h
 obtain ⟨pa,ca,rfl, -⟩:=hla.open
 obtain ⟨ps,c_s,rfl, -⟩:=hls.open
 obtain ⟨pm,cm,rfl, -⟩:=hlm.open
 obtain ⟨pl,cl,rfl, -,hxl⟩:=hll.open
 obtain ⟨pf,cf,rfl, -⟩:=hlf.open
 obtain ⟨pc,cc,rfl, -⟩:=hlc.open
 have hwo:∀m∈x.mappings,m.offset<18446744073709551616:=hlm.each fun c m hR=>(u64r hR.2.2.2.2).2
 obtain ⟨sa,sb,stx,snm,rfl,hsa,hsb,hstx,hsnm⟩:=hs
 obtain ⟨p1,c1,rfl, -,hx1⟩:=hsa.open
 obtain ⟨p2,c2,rfl, -⟩:=hsb.open
 obtain ⟨p3,c3,rfl, -,hx3⟩:=hstx.open
 obtain ⟨p4,c4,rfl, -,hx4⟩:=hsnm.open
 have hn3:=hL.tlen
 have hn4:=hL.nlen
 have haS:∀k,(stT x (s.stack.take k)).length≤60*4000000100:=fun k=>stT_len hx hwo (by rw[List.length_take];omega)
 have haSt:=haS s.stack.length
 rw[List.take_of_length_le (Nat.le_refl _)]at haSt
 have haT:=txs_len hL hTx
 have haTt:=haT s.texts.length
 rw[List.take_of_length_le (Nat.le_refl _)]at haTt
 have haN:=nms_len hL hTx
 refine startJ (args:=[_,_]) [(0,.agg (List.toArray [_,_,_,_,_,_,_,_,_,_,_,_,_,_])),(1,.agg (List.toArray [_,_,_,_]))] 0 [] [] Tryz.func17 rfl Tryz.ntmps17 rfl rfl .nil ?_
 refine sQ fun K1=>cj_reg (j_boxA (vs:=[_,_,_,_,_,_,_,_,_,_,_,_,_,_]) rfl rfl fun b2=>j_boxA (vs:=[_,_,_,_]) rfl rfl fun b3=>jA (k:=K1 ?_))
 refine cj_seqF fun K2 hK2=>cj_reg (jA (k:=j_nil (ej_then (hK2 _ _ _ (sQ fun K3=>sQ fun K4=>cj_reg (jF 0 ru55 so51 (k:=jH 0 ag51 (k:=jE ru51 (k:=jM (k:=K4 (cj_block ?_)))))))))))
 refine cj_loop (σ:=Nat) (fun k=>[(2,ptr b2),(3,ptr b3),(5,.string (txt (stT x (s.stack.take k)))),(17,.slice p1 s.stack.length c1),(18,.int .i64 (s.stack.length:Nat)),(19,.int .i64 (k:Nat))])
  (fun _=>[⟨b3,55,[.slice p1 s.stack.length c1,.slice p2 s.values.length c2,.slice p3 s.texts.length c3,.slice p4 s.nums.length c4],true,true,none⟩,⟨b2,33,[.slice pa x.types.length ca,.string x.deflt,.slice ps x.samples.length c_s,.slice pm x.mappings.length cm,.slice pl x.locs.length cl,.slice pf x.funcs.length cf,.slice pc x.comments.length cc,.string x.drop,.string x.keep,.int .i64 x.time,.int .i64 x.dur,.int .i64 x.period,.string x.per.ty,.string x.per.unit],true,true,none⟩]) (fun k _=>k≤s.stack.length) (fun k=>s.stack.length - k) 0 sR (fun w' hH hf=>⟨hH,Nat.zero_le _⟩) ?_
 rintro k w1 hk hf1 hH1 KL hKL
 refine C.begin _ _ hf1 hH1 ?_
 try dsimp only
 have hak:=haS k
 refine sQ fun K5=>cj_reg (jS (k:=K5 (sQ fun K6=>?_)))
 refine cj_dec rfl (fun h20=>?_) (fun h20=>?_)
 ·have hk':k<s.stack.length:=by omega
  obtain ⟨b1',o1,cs1,rfl, -,hR1,hcell1⟩:=hx1 k s.stack[k] (List.getElem?_eq_getElem hk')
  obtain ⟨rfl, -⟩:=hR1
  obtain ⟨hz0,hz1⟩:=hst _ (List.getElem_mem hk')
  have hzl:s.stack[k].toNat<x.locs.length:=by omega
  obtain ⟨bl,ol,csl,rfl,hcsl,hRl,hcelll⟩:=hxl s.stack[k].toNat x.locs[s.stack[k].toNat] (List.getElem?_eq_getElem hzl)
  have hRl0:=hRl
  obtain ⟨lln,rfl, -, -, -,hln⟩:=hRl
  obtain ⟨pn,cn,rfl, -⟩:=hln.open
  have hatl:=atZ_pos hz0 hz1
  have hpl:=hx.pl hwo (List.getElem_mem hzl)
  refine cj_skip (K6 (sQ fun K7=>cj_block (sQ fun K8=>cj_reg (jJ ru51 so3 (k:=?_)))))
  refine j_valw rfl (fun a w ha hH hf=>r_load ag3 rfl (hcell1 w (hf.keepAll (.inr rfl)) 0 _ rfl) ha) (jA (k:=K8 ?_))
  refine cj_drawI 12 (lts [0,1,2,3,4,5,6]++(7,false)::lts [8,9,10,11]) [1] rfl (by kernel_rfl) (by kernel_rfl) (dM [1] (k:=?_))
  refine dj_ld rfl rfl (sub_of [1] rfl) (fun a w ha hS=>r_ldSA (vs:=[_,_,_,_,_,_,_,_,_,_,_,_,_,_]) 0 rfl rfl ag33 so33 rfl rfl rfl ha hS) (dF [1] 4 ru33 so27 (k:=dH [1] 0 ag27 (k:=dM [1] (k:=?_))))
  refine dj_val rfl rfl (sub_of [1] rfl) (fun _ _ h=>r_idxI (z:=s.stack[k]) s.stack[k].toNat ru27 so89 rfl rfl rfl (by omega) hzl h) (dj_ld rfl rfl (sub_of [1] rfl) (fun a w ha hS=>r_loadA ag89 so89 rfl rfl (hcelll w (hS.2.keepAll (.inr rfl))) ha) (dE (h:=fun Kd=>?_)))
  refine j_callQ (φ:=fun v=>v=.string (txt (plT (plK x x.locs[s.stack[k].toNat])))) Tryz.call40 rfl rfl (fun w' hH hf=>by
    have a1:=RProf.keep (hf.keepAll (.inr rfl)) _ _ hP
    have a2:=RLoc.keep (hf.keepAll (.inr rfl)) _ _ hRl0
    have a4:=place_c w' _ _ x x.locs[s.stack[k].toNat] a1 a2 (List.getElem_mem hzl) hx (hT.keep (Fr.keepAll hf (.inr rfl)))
    exact a4) fun v hv=>?_
  subst hv
  refine Kd (sb [1]) ?_
  refine dj_val rfl rfl (sub_of [1] rfl) (fun _ _ h=>r_stadd rfl rfl (by (try simp only[List.length_append,List.length_cons,List.length_nil]);omega) h) ?_
  refine dj_val rfl rfl (sub_of [1] rfl) (fun _ _ h=>r_stadd rfl rfl (by (try simp only[List.length_append,List.length_cons,List.length_nil]);omega) h) ?_
  refine dj_val rfl rfl (sub_of [1] rfl) (fun _ _ h=>r_stadd rfl rfl (by (try simp only[List.length_append,List.length_cons,List.length_nil]);omega) h) ?_
  refine dA [1] (k:=K7 (CJ.t [(2,_),(3,_),(5,_),(17,_),(18,_),(19,_)] (k:=cj_reg (jI (k:=jM (k:=j_nil (ej_then ?_)))))))
  exact fun w' hH hf=>hKL (k+1) _ w' hk' hf hH (by omega) ⟨rfl,rfl,by rw[stT_snoc hk' hatl];rfl,rfl,rfl,rfl,trivial⟩
 ·have hke:k=s.stack.length:=by omega
  subst hke
  rw[List.take_of_length_le (Nat.le_refl _)]
  refine cj_exit (K3 (sQ fun K9=>sQ fun K10=>cj_reg (jF 2 ru55 so52 (k:=jH 0 ag52 (k:=jE ru52 (k:=jM (k:=K10 (cj_block ?_))))))))
  refine cj_loop (σ:=Nat) (fun k=>[(3,ptr b3),(5,.string (txt (stT x s.stack++(s.texts.take k).flatMap txT1))),(36,.slice p3 s.texts.length c3),(37,.int .i64 (s.texts.length:Nat)),(38,.int .i64 (k:Nat))])
   (fun _=>[⟨b3,55,[.slice p1 s.stack.length c1,.slice p2 s.values.length c2,.slice p3 s.texts.length c3,.slice p4 s.nums.length c4],true,true,none⟩]) (fun k _=>k≤s.texts.length) (fun k=>s.texts.length - k) 0 ⟨rfl,by rw[List.take_zero,List.flatMap_nil,List.append_nil];rfl,rfl,rfl,rfl,trivial⟩ (fun w' hH hf=>⟨hH.drop 1,Nat.zero_le _⟩) ?_
  rintro k2 w2 hk2 hf2 hH2 KL2 hKL2
  refine C.begin _ _ hf2 hH2 ?_
  try dsimp only
  have hak2:=haT k2
  refine sQ fun K11=>cj_reg (jS (k:=K11 (sQ fun K12=>?_)))
  refine cj_dec rfl (fun h39=>?_) (fun h39=>?_)
  ·have hk2':k2<s.texts.length:=by omega
   obtain ⟨bt,ot,cst,rfl, -,hRt,hcellt⟩:=hx3 k2 s.texts[k2] (List.getElem?_eq_getElem hk2')
   obtain ⟨lt,rfl,hlt⟩:=hRt
   obtain ⟨pt,ct,rfl, -,hxt⟩:=hlt.open
   obtain ⟨hks,hls'⟩:=hTx.t _ (List.getElem_mem hk2')
   obtain ⟨-,hl60, -⟩:=hL.tl _ (List.getElem_mem hk2')
   have hqk:=qB_len Tg s.texts[k2].key
   refine cj_skip (K12 (sQ fun K13=>cj_block (sQ fun K14=>cj_reg (jJ ru52 so130 (k:=?_)))))
   refine j_valw rfl (fun a w ha hH hf=>r_loadA ag130 so130 rfl rfl (hcellt w (hf.keepAll (.inr rfl))) ha) (j_allocA (zs:=[(.string ⟨#[]⟩),(.slice none 0 0)]) zv130 rfl fun b9=>jB [_,_] [_,_] 0 so130 (k:=K14 (sQ fun K15=>cj_reg (jM (k:=jF 0 ru130 so9 (k:=jH 0 ag9 (k:=?_)))))))
   refine j_callQ (φ:=fun v=>v=.string (txt (qB Tg s.texts[k2].key))) Tryz.call41 rfl rfl (fun w' hH hf=>quote_c w' _ (by omega) (hT.keep (Fr.keepAll hf (.inr rfl)))) fun v hv=>?_
   subst hv
   refine j_val rfl (fun _ _ h=>r_stadd rfl rfl (by (try simp only[List.length_append,List.length_cons,List.length_nil]);omega) h) ?_
   refine j_val rfl (fun _ _ h=>r_stadd rfl rfl (by (try simp only[List.length_append,List.length_cons,List.length_nil]);omega) h) ?_
   refine jA (k:=K15 (CJ.t [(3,_),(5,_),(9,_),(36,_),(37,_),(38,_)] (k:=sQ fun K16=>cj_reg (jF 1 ru130 so29 (k:=jH 0 ag29 (k:=jE ru29 (k:=jM (k:=K16 (cj_block ?_)))))))))
   refine cj_loop (σ:=Nat) (fun j=>[(3,ptr b3),(5,.string (txt (stT x s.stack++(s.texts.take k2).flatMap txT1++(([116]++qB Tg s.texts[k2].key)++(s.texts[k2].list.take j).flatMap (qB Tg))))),(36,.slice _ s.texts.length c3),(37,.int .i64 (s.texts.length:Nat)),(38,.int .i64 (k2:Nat)),(49,.slice pt s.texts[k2].list.length ct),(50,.int .i64 (s.texts[k2].list.length:Nat)),(51,.int .i64 (j:Nat))])
    (fun _=>[⟨b3,55,[.slice p1 s.stack.length c1,.slice p2 s.values.length c2,.slice _ s.texts.length c3,.slice p4 s.nums.length c4],true,true,none⟩]) (fun j _=>j≤s.texts[k2].list.length) (fun j=>s.texts[k2].list.length - j) 0 ⟨rfl,by rw[List.take_zero,List.flatMap_nil,List.append_nil];rfl,rfl,rfl,rfl,rfl,rfl,rfl,trivial⟩ (fun w' hH hf=>⟨hH.drop 0,Nat.zero_le _⟩) ?_
   rintro j w4 hj hf4 hH4 KL4 hKL4
   refine C.begin _ _ hf4 hH4 ?_
   try dsimp only
   have hql:=qL_len (l:=s.texts[k2].list.take j) (by rw[List.length_take];omega) fun t ht=>hls' t (List.mem_of_mem_take ht)
   refine sQ fun K17=>cj_reg (jS (k:=K17 (sQ fun K18=>?_)))
   refine cj_dec rfl (fun h52=>?_) (fun h52=>?_)
   ·have hj':j<s.texts[k2].list.length:=by omega
    obtain ⟨bi,oi,csi,rfl, -,hRi,hcelli⟩:=hxt j s.texts[k2].list[j] (List.getElem?_eq_getElem hj')
    unfold RStr at hRi
    subst hRi
    have hsi:=hls' _ (List.getElem_mem hj')
    have hqi:=qB_len Tg s.texts[k2].list[j]
    refine cj_skip (K18 (sQ fun K19=>cj_block (sQ fun K20=>cj_reg (jJ ru29 so9 (k:=?_)))))
    refine j_valw rfl (fun a w ha hH hf=>r_load ag9 rfl (hcelli w (hf.keepAll (.inr rfl)) 0 _ rfl) ha) (jA (k:=K20 (cj_reg (jM (k:=jM (k:=?_))))))
    refine j_callQ (φ:=fun v=>v=.string (txt (qB Tg s.texts[k2].list[j]))) Tryz.call41 rfl rfl (fun w' hH hf=>quote_c w' _ (by omega) (hT.keep (Fr.keepAll hf (.inr rfl)))) fun v hv=>?_
    subst hv
    refine j_val rfl (fun _ _ h=>r_stadd rfl rfl (by (try simp only[List.length_append,List.length_cons,List.length_nil]);omega) h) ?_
    refine jA (k:=K19 (cj_reg (jI (k:=jM (k:=j_nil (ej_then ?_))))))
    exact fun w' hH hf=>hKL4 (j+1) _ w' hj' hf hH (by omega) ⟨rfl,by rw[take_flatB hj'];simp only[List.append_assoc];rfl,rfl,rfl,rfl,rfl,rfl,rfl,trivial⟩
   ·have hje:j=s.texts[k2].list.length:=by omega
    have hst2:stT x s.stack++(s.texts.take k2).flatMap txT1++(([116]++qB Tg s.texts[k2].key)++(s.texts[k2].list.take j).flatMap (qB Tg))=stT x s.stack++(s.texts.take (k2+1)).flatMap txT1:=by
     rw[take_flatB hk2',hje,List.take_of_length_le (Nat.le_refl _),List.append_assoc];rfl
    rw[hst2]
    refine cj_exit (K13 (CJ.t [(3,_),(5,_),(36,_),(37,_),(38,_)] (k:=cj_reg (jI (k:=jM (k:=j_nil (ej_then ?_)))))))
    exact fun w' hH hf=>hKL2 (k2+1) _ w' hk2' hf hH (by omega) sR
  ·have hke2:k2=s.texts.length:=by omega
   subst hke2
   rw[List.take_of_length_le (Nat.le_refl _)]
   refine cj_exit (K9 (sQ fun K21=>sQ fun K22=>cj_reg (jF 3 ru55 so53 (k:=jH 0 ag53 (k:=jE ru53 (k:=jM (k:=K22 (cj_block ?_))))))))
   refine cj_loop (σ:=Nat) (fun k=>[(5,.string (txt (stT x s.stack++s.texts.flatMap txT1++(s.nums.take k).flatMap nmT1))),(62,.slice p4 s.nums.length c4),(63,.int .i64 (s.nums.length:Nat)),(64,.int .i64 (k:Nat))])
    (fun _=>[]) (fun k _=>k≤s.nums.length) (fun k=>s.nums.length - k) 0 ⟨by rw[List.take_zero,List.flatMap_nil,List.append_nil];rfl,rfl,rfl,rfl,trivial⟩ (fun w' hH hf=>⟨.nil,Nat.zero_le _⟩) ?_
   rintro k6 w6 hk6 hf6 hH6 KL6 hKL6
   refine C.begin _ [] hf6 .nil ?_
   try dsimp only
   have hak6:=haN k6
   refine sQ fun K23=>cj_reg (jS (k:=K23 (sQ fun K24=>?_)))
   refine cj_dec rfl (fun h65=>?_) (fun h65=>?_)
   ·have hk6':k6<s.nums.length:=by omega
    obtain ⟨bt,ot,cst,rfl, -,hRt,hcellt⟩:=hx4 k6 s.nums[k6] (List.getElem?_eq_getElem hk6')
    obtain ⟨lt,rfl,hlt⟩:=hRt
    obtain ⟨pt,ct,rfl, -,hxt⟩:=hlt.open
    have hks:=(hTx.n _ (List.getElem_mem hk6')).1
    obtain ⟨-,hl60⟩:=hL.nl _ (List.getElem_mem hk6')
    have hqk:=qB_len Tg s.nums[k6].key
    refine cj_skip (K24 (sQ fun K25=>cj_block (sQ fun K26=>cj_reg (jJ ru53 so133 (k:=?_)))))
    refine j_valw rfl (fun a w ha hH hf=>r_loadA ag133 so133 rfl rfl (hcellt w (hf.keepAll (.inr rfl))) ha) (j_allocA (zs:=[(.string ⟨#[]⟩),(.slice none 0 0)]) zv133 rfl fun b13=>jB [_,_] [_] 0 so133 (k:=K26 (sQ fun K27=>cj_reg (jM (k:=jF 0 ru133 so9 (k:=jH 0 ag9 (k:=?_)))))))
    refine j_callQ (φ:=fun v=>v=.string (txt (qB Tg s.nums[k6].key))) Tryz.call41 rfl rfl (fun w' hH hf=>quote_c w' _ (by omega) (hT.keep (Fr.keepAll hf (.inr rfl)))) fun v hv=>?_
    subst hv
    refine j_val rfl (fun _ _ h=>r_stadd rfl rfl (by (try simp only[List.length_append,List.length_cons,List.length_nil]);omega) h) ?_
    refine j_val rfl (fun _ _ h=>r_stadd rfl rfl (by (try simp only[List.length_append,List.length_cons,List.length_nil]);omega) h) ?_
    refine jA (k:=K27 (CJ.t [(5,_),(13,_),(62,_),(63,_),(64,_)] (k:=sQ fun K28=>cj_reg (jF 1 ru133 so49 (k:=jH 0 ag49 (k:=jE ru49 (k:=jM (k:=K28 (cj_block ?_)))))))))
    refine cj_loop (σ:=Nat) (fun j=>[(5,.string (txt (stT x s.stack++s.texts.flatMap txT1++(s.nums.take k6).flatMap nmT1++(([110]++qB Tg s.nums[k6].key)++(s.nums[k6].list.take j).flatMap fun x=>numT (IntKind.u64.wrap x))))),(62,.slice _ s.nums.length c4),(63,.int .i64 (s.nums.length:Nat)),(64,.int .i64 (k6:Nat)),(75,.slice pt s.nums[k6].list.length ct),(76,.int .i64 (s.nums[k6].list.length:Nat)),(77,.int .i64 (j:Nat))])
     (fun _=>[]) (fun j _=>j≤s.nums[k6].list.length) (fun j=>s.nums[k6].list.length - j) 0 ⟨by rw[List.take_zero,List.flatMap_nil,List.append_nil];rfl,rfl,rfl,rfl,rfl,rfl,rfl,trivial⟩ (fun w' hH hf=>⟨.nil,Nat.zero_le _⟩) ?_
    rintro j w8 hj hf8 hH8 KL8 hKL8
    refine C.begin _ [] hf8 .nil ?_
    try dsimp only
    have hql:=nL_len (l:=s.nums[k6].list.take j) (by rw[List.length_take];omega)
    refine sQ fun K29=>cj_reg (jS (k:=K29 (sQ fun K30=>?_)))
    refine cj_dec rfl (fun h78=>?_) (fun h78=>?_)
    ·have hj':j<s.nums[k6].list.length:=by omega
     obtain ⟨bi,oi,csi,rfl, -,hRi,hcelli⟩:=hxt j s.nums[k6].list[j] (List.getElem?_eq_getElem hj')
     obtain ⟨rfl, -⟩:=hRi
     have hwz:=u64w s.nums[k6].list[j]
     have hqi:=numT_len hwz.2
     refine cj_skip (K30 (sQ fun K31=>cj_block (sQ fun K32=>cj_reg (jJ ru49 so2 (k:=?_)))))
     refine j_valw rfl (fun a w ha hH hf=>r_load ag2 rfl (hcelli w (hf.keepAll (.inr rfl)) 0 _ rfl) ha) (jA (k:=K32 (cj_reg (jM (k:=jM (k:=?_))))))
     refine j_val rfl (fun _ _ h=>r_conv ru2 ru76 rfl h) ?_
     refine j_callQ (φ:=fun v=>v=.string (txt (numT (IntKind.u64.wrap s.nums[k6].list[j])))) Tryz.call42 rfl rfl (fun w' hH hf=>number_c w' _ hwz.1 hwz.2 (hT.keep (Fr.keepAll hf (.inr rfl)))) fun v hv=>?_
     subst hv
     refine j_val rfl (fun _ _ h=>r_stadd rfl rfl (by (try simp only[List.length_append,List.length_cons,List.length_nil]);omega) h) ?_
     refine jA (k:=K31 (cj_reg (jI (k:=jM (k:=j_nil (ej_then ?_))))))
     exact fun w' hH hf=>hKL8 (j+1) _ w' hj' hf .nil (by omega) ⟨by rw[take_flatB hj'];simp only[List.append_assoc];rfl,rfl,rfl,rfl,rfl,rfl,rfl,trivial⟩
    ·have hje:j=s.nums[k6].list.length:=by omega
     have hst2:stT x s.stack++s.texts.flatMap txT1++(s.nums.take k6).flatMap nmT1++(([110]++qB Tg s.nums[k6].key)++(s.nums[k6].list.take j).flatMap fun x=>numT (IntKind.u64.wrap x))=stT x s.stack++s.texts.flatMap txT1++(s.nums.take (k6+1)).flatMap nmT1:=by
      rw[take_flatB hk6',hje,List.take_of_length_le (Nat.le_refl _),List.append_assoc];rfl
     rw[hst2]
     refine cj_exit (K25 (CJ.t [(5,_),(62,_),(63,_),(64,_)] (k:=cj_reg (jI (k:=jM (k:=j_nil (ej_then ?_)))))))
     exact fun w' hH hf=>hKL6 (k6+1) _ w' hk6' hf .nil (by omega) sR
   ·have hke6:k6=s.nums.length:=by omega
    have hfin:stT x s.stack++s.texts.flatMap txT1++(s.nums.take k6).flatMap nmT1=keyT (smK x s):=by
     rw[hke6,List.take_of_length_le (Nat.le_refl _),keyT_eq]
    refine cj_exit (K21 (sQ fun K33=>cj_reg (jM (k:=jA (k:=K33 (cj_ret ?_))))))
    exact ej_ret1 Tryz.results17 rfl fun w' hH hf=>⟨by rw[hfin],hf⟩
theorem ptrAt_nat {bs:List Nat} {j:Nat} (h:bs[j]? =some b):ptrAt bs (j:Int)=ptr b:=by
 unfold ptrAt
 rw[if_pos (by omega),Int.toNat_natCast,h];rfl
theorem wrap_subw (a b:Int):IntKind.i64.wrap (IntKind.i64.wrap a - IntKind.i64.wrap b)=IntKind.i64.wrap (a - b):=by
 simp only[IntKind.wrap,IntKind.bits,IntKind.signed]
 repeat' split
 all_goals (simp at*;omega)
theorem mapMapping_c (w0 w:World) (x:PProf) (g:G) (n:Nat) (s:MS) (z:Int) (h:MG w0 x n w s) (hX:SrcT w0 x g) (hz:z<x.mappings.length):
  Calls Tryz.prog 33 #[ptr s.pm,ptrAt g.maps z] w (Ret fun v w'=>∃(s':MS) (j o:Int),v=encMI (ptrAt s'.maps j) o∧MG w0 x n w' s'∧MStep w s w' s'∧(s'.z.locs,s'.jL)=(s.z.locs,s.jL)∧s'.z.funcs=s.z.funcs∧MpR x s'.z z j o):=by
 by_cases hz0:0≤z
 case neg=>
  rw[ptrAt_neg hz0]
  refine startJ (args:=[_,_]) [(0,_),(1,_)] 0 [] [] func33 rfl ntmps33 rfl rfl .nil ?_
  refine sQ fun K1=>cj_reg (j_allocA (zs:=[(.pointer none),(.int .i64 0)]) zv117 rfl fun b4=>K1 (cj_seqF fun K2 hK2=>sQ fun K3=>cj_reg (jM (k:=?_))))
  refine j_val rfl (fun _ _ h=>r_pneql ud79 rfl h) (K3 (cj_if_t rfl (sQ fun K4=>cj_reg (j_val rfl (fun _ _ h=>r_build (cs:=[(.pointer none),(.int .i64 0)]) bt117 rfl rfl h) (jB [_,_] [_] 0 so117 (k:=K4 (cj_ret ?_)))))))
  exact ej_ret1C results33 ag117 so117 rfl rfl (fun w' hH hf=>⟨_,hH.get (i:=0) rfl rfl⟩) fun w' hH hf=>⟨s, -1,0,rfl,h.keep (KeepX.of hf) (by simp),MStep.after (KeepX.of hf) MStep.refl,rfl,rfl,.inl ⟨by omega,rfl,rfl⟩⟩
 have hzl:z.toNat<x.mappings.length:=by omega
 have hgl:z.toNat<g.maps.length:=by rw[hX.of.maps.1];exact hzl
 obtain ⟨m,hm⟩:∃m,x.mappings[z.toNat]? =some m:=⟨_,List.getElem?_eq_getElem hzl⟩
 obtain ⟨b,hb⟩:∃b,g.maps[z.toNat]? =some b:=⟨_,List.getElem?_eq_getElem hgl⟩
 have hpz:ptrAt g.maps z=ptr b:=by unfold ptrAt;rw[if_pos hz0,hb];rfl
 rw[hpz]
 have hbk:Blk w b tMap (cMap m):=h.kp _ _ (hX.of.maps.2 _ _ _ hb hm)
 obtain ⟨sa,ma,lo,fu,hpb,hsa,⟨y,p,l,c,rfl,hO,hy⟩,hlo,hfu⟩:=h.prof
 obtain ⟨e1,k1,hm1,hM1⟩:=h.uM
 obtain ⟨e2,k2,hm2,hM2⟩:=h.tM
 have hll:l=s.maps.length:=by have:=hO.sl.1;simp at this;omega
 have hlen:s.z.mappings.length=s.maps.length:=h.oM.1.symm
 have hjm:=h.jm
 have hbm:=h.bM
 have hnx:=hX.nm
 have hcp:=mc (f:=⟨w,0,[tProf,pMap,1000000]⟩) h.bpm rfl
 have hcs:=mc (f:=⟨w,0,[tProf,pMap,1000000]⟩) hbk rfl
 obtain ⟨pv,po,hlk⟩:∃pv po,(mget s.jM m.id).getD (.agg #[.pointer none,.int .i64 0])=.agg (List.toArray [.pointer pv,.int .i64 po]):=by
  cases hg:mget s.jM m.id with
  |none=>exact ⟨_,_,rfl⟩
  |some u=>
   obtain ⟨_,_,_,_,_, -, -, -, -,rfl, -⟩:=h.rM _ _ hg
   exact ⟨_,_,rfl⟩
 obtain ⟨pk,hlk2⟩:∃pk,(mget s.kM (partK m)).getD (.pointer none)=.pointer pk:=by
  cases hg:mget s.kM (partK m) with
  |none=>exact ⟨_,rfl⟩
  |some u=>
   obtain ⟨_,_,_, -, -,rfl, -⟩:=h.sM _ _ hg
   exact ⟨_,rfl⟩
 have hne12:s.iM≠s.mM:=by
  have:=h.nd
  simp only[List.nodup_cons,List.mem_cons,List.not_mem_nil,or_false,not_or]at this
  exact fun e=>this.2.2.2.1.2.2 e.symm
 have hHp:Hp ⟨w,0,[tProf,pMap,1000000]⟩ w (y::⟨s.pb,tProf,cProf s.z s.ty sa (.slice p l c) lo fu (.slice none 0 0) s.per,true,true,none⟩::mpE s.iM e1 k1::mpE s.mM e2 k2::restH w ([s.pb,s.iM,s.mM]++rowL y)):=by
  refine Hp.listL (es:=[y,⟨s.pb,tProf,cProf s.z s.ty sa (.slice p l c) lo fu (.slice none 0 0) s.per,true,true,none⟩,mpE s.iM e1 k1,mpE s.mM e2 k2]) ?_ ?_ ?_ ?_
  ·intro q hq
   simp only[List.mem_cons,List.not_mem_nil,or_false]at hq
   rcases hq with rfl|rfl|rfl|rfl
   ·exact has_own hO fun ho=>(hy ho).1
   ·exact has_blk hpb
   ·exact has_map hm1
   ·exact has_map hm2
  ·intro q hq he _
   simp only[List.mem_cons,List.not_mem_nil,or_false]at hq
   rcases hq with rfl|rfl|rfl|rfl
   ·exact ⟨Nat.zero_le _,by rw[hO.tag];decide⟩
   ·exact ⟨Nat.zero_le _,by show tProf∈_;decide⟩
   ·exact ⟨Nat.zero_le _,by show 1000000∈_;decide⟩
   ·exact ⟨Nat.zero_le _,by show 1000000∈_;decide⟩
  ·have hyx:=fun he=>own_ex hO he
   simp only[List.pairwise_cons,List.mem_cons,List.not_mem_nil,or_false,forall_eq_or_imp,forall_eq,false_imp_iff,implies_true,and_true,List.Pairwise.nil]
   refine ⟨⟨fun he _=>((hy (hyx he)).1.ne hpb (by decide)).symm,fun he _=>map_neB hm1 (hy (hyx he)).1,fun he _=>map_neB hm2 (hy (hyx he)).1⟩,⟨fun _ _=>map_neB hm1 hpb,fun _ _=>map_neB hm2 hpb⟩,fun _ _=>hne12.symm⟩
  ·intro q hq he
   simp only[List.mem_cons,List.not_mem_nil,or_false]at hq
   rcases hq with rfl|rfl|rfl|rfl
   ·simp[rowL,own_ex hO he]
   ·simp
   ·simp
   ·simp
 have hB:∀(w':World) (e':List MapEntry) (k':Nat),Hp ⟨w,0,[tProf,pMap,1000000]⟩ w' (y::⟨s.pb,tProf,cProf s.z s.ty sa (.slice p l c) lo fu (.slice none 0 0) s.per,true,true,none⟩::mpE s.iM e' k'::mpE s.mM e2 k2::restH w ([s.pb,s.iM,s.mM]++rowL y))→Fm.ok ⟨w,0,[tProf,pMap,1000000]⟩ w'→KeepX [s.iM] w w':=fun w' e' k' hH hf=>by
  refine KeepX.same (Hp.keepL (es:=[y,⟨s.pb,tProf,cProf s.z s.ty sa (.slice p l c) lo fu (.slice none 0 0) s.per,true,true,none⟩,mpE s.iM e' k',mpE s.mM e2 k2]) hH hf) fun b hb=>?_
  rcases List.mem_append.1 hb with hb|hb
  ·simp only[List.mem_cons,List.not_mem_nil,or_false]at hb
   rcases hb with rfl|rfl|rfl
   ·refine .inr fun o ho=>?_
    rw[show w.heap[s.pb]? =some _ from hpb]at ho
    cases ho
    exact hH.get (i:=1) rfl rfl
   ·exact .inl (by simp)
   ·refine .inr fun o ho=>?_
    rw[hm2]at ho
    cases ho
    exact hH.obj (i:=3) rfl rfl
  ·obtain ⟨hon,rfl⟩:=mem_rowL' hb
   refine .inr fun o ho=>?_
   rw[show w.heap[y.b]? =some _ from (hy hon).1]at ho
   cases ho
   have:=hH.get (i:=0) rfl hon
   rw[hO.hT]at this
   exact this
 have hA:∀(w':World),Hp ⟨w,0,[tProf,pMap,1000000]⟩ w' (y::⟨s.pb,tProf,cProf s.z s.ty sa (.slice p l c) lo fu (.slice none 0 0) s.per,true,true,none⟩::mpE s.iM e1 k1::mpE s.mM e2 k2::restH w ([s.pb,s.iM,s.mM]++rowL y))→Fm.ok ⟨w,0,[tProf,pMap,1000000]⟩ w'→KeepX [] w w':=fun w' hH hf=>KeepX.same (hB w' _ _ hH hf) fun b hb=>by
  rw[List.mem_singleton.1 hb]
  refine .inr fun o ho=>?_
  rw[hm1]at ho
  cases ho
  exact hH.obj (i:=2) rfl rfl
 refine startJ (args:=[_,_]) [(0,_),(1,_)] 0 [tProf,pMap,1000000] _ func33 rfl ntmps33 rfl rfl hHp ?_
 refine sQ fun K1=>cj_reg (j_allocA (zs:=[(.pointer none),(.int .i64 0)]) zv117 rfl fun b4=>K1 (cj_seqF fun K2 hK2=>sQ fun K3=>cj_reg (jM (k:=?_))))
 refine j_val rfl (fun _ _ h=>r_pneql ud79 rfl h) (K3 (cj_if_f rfl (cj_skip (ej_then (hK2 _ _ _ (sQ fun K4=>sQ fun K5=>?_))))))
 refine cj_drawT 15 (lts [0,1,2,3,4,5,6,7,8,9,10,11]++(12,false)::(13,false)::lts [14]) [] rfl (fun w=>w.heap[s.iM]? =some (.map e1.toArray k1)) (by kernel_rfl) (by kernel_rfl) ?_
 refine dj_valT rfl rfl (sub_of [] rfl) (fun w hH hf=>by first|exact hH.obj (i:=3) rfl rfl|exact hH.obj (i:=4) rfl rfl) (fun _ _ h=>r_move rfl h) ?_
 refine dj_valT rfl rfl (sub_of [] rfl) (fun w hH hf=>by first|exact hH.obj (i:=3) rfl rfl|exact hH.obj (i:=4) rfl rfl) (fun _ _ h=>r_nil rfl h) ?_
 refine dj_valT rfl rfl (sub_of [] rfl) (fun w hH hf=>by first|exact hH.obj (i:=3) rfl rfl|exact hH.obj (i:=4) rfl rfl) (fun _ _ h=>r_fl (q:=3) (ft:=113) ru115 rfl so113 rfl h) ?_
 refine dj_ldT rfl rfl (sub_of [] rfl) (fun w hH hf=>by first|exact hH.obj (i:=3) rfl rfl|exact hH.obj (i:=4) rfl rfl) (fun a w ha hS=>r_load ag113 rfl (hcp w (hS.2) 3 _ rfl) ha) ?_
 refine dj_valT rfl rfl (sub_of [] rfl) (fun w hH hf=>by first|exact hH.obj (i:=3) rfl rfl|exact hH.obj (i:=4) rfl rfl) (fun _ _ h=>r_move rfl h) ?_
 refine dj_valT rfl rfl (sub_of [] rfl) (fun w hH hf=>by first|exact hH.obj (i:=3) rfl rfl|exact hH.obj (i:=4) rfl rfl) (fun _ _ h=>r_nil rfl h) ?_
 refine dj_valT rfl rfl (sub_of [] rfl) (fun w hH hf=>by first|exact hH.obj (i:=3) rfl rfl|exact hH.obj (i:=4) rfl rfl) (fun _ _ h=>r_fl (q:=0) (ft:=76) ru81 rfl so76 rfl h) ?_
 refine dj_ldT rfl rfl (sub_of [] rfl) (fun w hH hf=>by first|exact hH.obj (i:=3) rfl rfl|exact hH.obj (i:=4) rfl rfl) (fun a w ha hS=>r_load ag76 rfl (hcs w (hS.2) 0 _ rfl) ha) ?_
 refine dj_lkT rfl rfl (sub_of [] rfl) (fun w hH hf=>hH.obj (i:=3) rfl rfl) (fun a w ha hT=>(r_look2W (k:=m.id) ru113 keyId hM1 zv117 rfl rfl ha hT).trans (by rw[hlk])) ?_
 refine dj_valT rfl rfl (sub_of [] rfl) (fun w hH hf=>by first|exact hH.obj (i:=3) rfl rfl|exact hH.obj (i:=4) rfl rfl) (fun _ _ h=>r_move rfl h) ?_
 refine dj_valT rfl rfl (sub_of [] rfl) (fun w hH hf=>by first|exact hH.obj (i:=3) rfl rfl|exact hH.obj (i:=4) rfl rfl) (fun _ _ h=>r_extract rfl rfl h) ?_
 refine dj_valT rfl rfl (sub_of [] rfl) (fun w hH hf=>by first|exact hH.obj (i:=3) rfl rfl|exact hH.obj (i:=4) rfl rfl) (fun _ _ h=>r_extract rfl rfl h) ?_
 refine dj_effW rfl fun K2 hK2=>j_allocA (zs:=[(.pointer none),(.int .i64 0)]) zv117 rfl fun b5=>?_
 refine j_nil (ej_then (hK2 _ _ (.inr ⟨(sub_of [] rfl),(fun w hH hf=>by first|exact hH.obj (i:=3) rfl rfl|exact hH.obj (i:=4) rfl rfl)⟩) ?_));clear hK2 K2
 refine dj_effW rfl fun K2 hK2=>jB [_,_] (_::_::_::_::_::_::_) 0 so117 (k:=?_)
 refine j_nil (ej_then (hK2 _ _ (.inr ⟨(sub_of [] rfl),(fun w hH hf=>by first|exact hH.obj (i:=3) rfl rfl|exact hH.obj (i:=4) rfl rfl)⟩) ?_));clear hK2 K2
 refine dj_valT rfl rfl (sub_of [] rfl) (fun w hH hf=>by first|exact hH.obj (i:=3) rfl rfl|exact hH.obj (i:=4) rfl rfl) (fun _ _ h=>r_assign rfl h) ?_
 refine K5 (CJ.t [(0,_),(1,_),(4,_),(5,_),(6,_)] (k:=sQ fun K6=>cj_reg (jM (k:=K6 ?_))))
 refine cj_if rfl (fun h28=>?_) (fun h28=>?_)
 ·obtain ⟨u,hu⟩:=Option.isSome_iff_exists.1 h28
  obtain ⟨i,j,bj,mi,mj,q1,q2,q3,q4,q5,q6⟩:=h.rM _ _ hu
  have ei:mi=m:=by
   have h1:=(List.getElem?_eq_some_iff.1 q1).1
   have h2:i=z.toNat:=nodup_ix hX.idm (by simpa using h1) (by simpa using hzl) (by
    rw[List.getElem_map,List.getElem_map,(List.getElem?_eq_some_iff.1 q1).2,(List.getElem?_eq_some_iff.1 hm).2];exact q2)
   rw[h2,hm]at q1
   exact (Option.some.inj q1).symm
  rw[ei]at q5 q6
  rw[hu,q5,Option.getD_some,encMI]at hlk
  have e1:pv=some ⟨bj,0,none⟩:=by cases hlk;rfl
  have e2:po=IntKind.i64.wrap (mj.start - m.start):=by cases hlk;rfl
  refine sQ fun K7=>cj_reg (j_valw rfl (fun a w ha hH hf=>r_ldA (vs:=[_,_]) 0 rfl rfl ag117 so117 rfl rfl rfl ha hH) (jB [_,_] (_::_::_::_::_::_::_) 1 so117 (k:=K7 (cj_ret ?_))))
  first
  |exact ej_ret1C results33 ag117 so117 rfl rfl (fun w' hH hf=>⟨_,hH.get (i:=1) rfl rfl⟩) fun w' hH hf=>⟨s,j,po,by rw[ptrAt_nat q3,e1];rfl,h.keep (hA w' hH.2.2.2.2.2.2 hf) (by simp),MStep.after (hA w' hH.2.2.2.2.2.2 hf) MStep.refl,rfl,rfl,.inr ⟨hz0,by omega,m,mj,hm,by simpa using q4,e2,q6⟩⟩
  |exact ej_ret1C results33 ag117 so117 rfl rfl (fun w' hH hf=>⟨_,hH.get (i:=3) rfl rfl⟩) fun w' hH hf=>by
     have hk:=hB w' _ _ hH.2.2.2.2.2.2.2.2.2.2.2.2 hf
     obtain ⟨g1,g2⟩:=h.setM hk ⟨_,_,hH.obj (i:=6) rfl rfl,hM'⟩ ⟨z.toNat,j,bj,m,mj,hm,rfl,hbj,hmj,by rw[wrap_subw];rfl,hkj.symm⟩
     exact ⟨_,j,IntKind.i64.wrap (mj.start - m.start),by rw[ptrAt_nat hbj,wrap_subw];rfl,g1,g2,rfl,rfl,.inr ⟨hz0,by omega,m,mj,hm,by simpa using hmj,rfl,hkj.symm⟩⟩
  |exact ej_ret1C results33 ag117 so117 rfl rfl (fun w' hH hf=>⟨_,hH.get (i:=4) rfl rfl⟩) fun w' hH hf=>by
     have hid:IntKind.u64.wrap (IntKind.i64.wrap ((l:Int)+1))=(s.maps.length:Int)+1:=by
      rw[← hll]
      simp only[IntKind.wrap,IntKind.bits,IntKind.signed]
      have:l≤2000000:=by omega
      simp;omega
     have hbn:Blk w' b112 tMap (cMap { m with id:=(s.maps.length:Int)+1 }):=by
      have:=hH.get (i:=1) rfl rfl
      rw[hid]at this
      exact this
     have hfr:w.heap.size≤b112:=hH.fresh' (i:=1) rfl rfl
     have hwm:=hX.wm m (List.mem_of_getElem? hm)
     obtain ⟨s',g1,g2,g3,g4,g5,g6⟩:=h.newM (y':=y126) (c:=c) (p:=p) (i:=z.toNat) (m:=m) (bn:=b112) rfl (Hp.keepL (es:=[_,_,_,_,_,_,_,_,_]) hH hf) hpb hsa hy hlo hfu (hH.get (i:=6) rfl rfl) hO126
      (fun ho=>by have:=hH.get (i:=5) rfl ho;rw[hO126.hT]at this;exact this)
      (fun ho=>Hp.newOr (es:=[_,_,_]) hH.2.2.2.2.2.2.2.2.2.2.2.2.2.2.2 (by simp[Ent.ex,ho])) hbn hfr rfl ⟨_,_,hH.obj (i:=7) rfl rfl,hM'⟩ ⟨_,_,hH.obj (i:=8) rfl rfl,hM2'⟩ hm hwm.2 hno
     exact ⟨s',(s.maps.length:Nat),0,by rw[g3,ptrAt_nat (get_last rfl)];rfl,g1,g2,g5,g6,.inr ⟨hz0,by omega,m,{ m with id:=(s.maps.length:Int)+1 },hm,by rw[g4];exact get_last (by simpa using hlen.symm),by
      show (0:Int)=IntKind.i64.wrap (m.start - m.start)
      rw[Int.sub_self];rfl,rfl⟩⟩
 ·have hno:mget s.jM m.id=none:=by
   cases hc:mget s.jM m.id with
   |none=>rfl
   |some v=>rw[hc]at h28;cases h28
  refine cj_skip (K4 (sQ fun K8=>cj_reg (jM (k:=?_))))
  refine j_callQ (φ:=fun v=>v=encMp (partK m)) call52 rfl rfl (fun w' hH hf=>mapKey_c w' b m (fr_row hf rfl _ _ hbk)) fun v hv=>?_
  subst hv
  refine j_allocA (zs:=[(.int .u64 0),(.int .u64 0),(.string ⟨#[]⟩)]) zv149 rfl fun b7=>jB [_,_,_] (_::_::_::_::_::_::_::_) 0 so149 (k:=K8 (sQ fun K9=>sQ fun K10=>?_))
  refine cj_drawT 11 (lts [0,1,2,3,4,5,6,7,8,9,10]) [0] rfl (fun w=>w.heap[s.mM]? =some (.map e2.toArray k2)) (by kernel_rfl) (by kernel_rfl) ?_
  refine dj_valT rfl rfl (sub_of [0] rfl) (fun w hH hf=>hH.obj (i:=6) rfl rfl) (fun _ _ h=>r_move rfl h) (dj_valT rfl rfl (sub_of [0] rfl) (fun w hH hf=>hH.obj (i:=6) rfl rfl) (fun _ _ h=>r_nil rfl h) (dj_valT rfl rfl (sub_of [0] rfl) (fun w hH hf=>hH.obj (i:=6) rfl rfl) (fun _ _ h=>r_fl (q:=7) (ft:=110) ru115 rfl so110 rfl h) (dj_ldT rfl rfl (sub_of [0] rfl) (fun w hH hf=>hH.obj (i:=6) rfl rfl) (fun a w ha hS=>r_load ag110 rfl (hcp w (hS.2) 7 _ rfl) ha) (dj_ldT rfl rfl (sub_of [0] rfl) (fun w hH hf=>hH.obj (i:=6) rfl rfl) (fun a w ha hS=>r_ldSA (vs:=[_,_,_]) 0 rfl rfl ag149 so149 rfl rfl rfl ha hS) ?_))))
  refine dj_lkT rfl rfl (sub_of [0] rfl) (fun w hH hf=>hH.obj (i:=6) rfl rfl) (fun a w ha hT=>(r_look2W (k:=partK m) ru110 keyMp hM2 zv79 rfl rfl ha hT).trans (by rw[hlk2])) ?_
  refine dj_valT rfl rfl (sub_of [0] rfl) (fun w hH hf=>hH.obj (i:=6) rfl rfl) (fun _ _ h=>r_move rfl h) (dj_valT rfl rfl (sub_of [0] rfl) (fun w hH hf=>hH.obj (i:=6) rfl rfl) (fun _ _ h=>r_extract rfl rfl h) (dj_valT rfl rfl (sub_of [0] rfl) (fun w hH hf=>hH.obj (i:=6) rfl rfl) (fun _ _ h=>r_extract rfl rfl h) (dj_valT rfl rfl (sub_of [0] rfl) (fun w hH hf=>hH.obj (i:=6) rfl rfl) (fun _ _ h=>r_assign rfl h) (dj_valT rfl rfl (sub_of [0] rfl) (fun w hH hf=>hH.obj (i:=6) rfl rfl) (fun _ _ h=>r_assign rfl h) (K10 (CJ.t [(0,_),(1,_),(4,_),(7,_),(8,_),(9,_)] (k:=sQ fun K11=>cj_reg (jM (k:=K11 ?_)))))))))
  refine cj_if rfl (fun h41=>?_) (fun h41=>?_)
  ·obtain ⟨u,hu⟩:=Option.isSome_iff_exists.1 h41
   obtain ⟨j,bj,mj,hbj,hmj,rfl,hkj⟩:=h.sM _ _ hu
   have epk:pk=some ⟨bj,0,none⟩:=by rw[hu]at hlk2;cases hlk2;rfl
   subst epk
   have hbjk:=(h.oM.2 _ _ _ hbj hmj).now
   have hcj:=mc (f:=⟨w,0,[tProf,pMap,1000000]⟩) hbjk rfl
   refine sQ fun K12=>cj_drawI 15 (lts [0,1,2,3,4,5,6,7,8,9,10,11,12]++(13,false)::(14,false)::[]) [0,1,2,3,4,5,6] rfl (by kernel_rfl) (by kernel_rfl) (dM [0,1,2,3,4,5,6] (k:=dM [0,1,2,3,4,5,6] (k:=dN [0,1,2,3,4,5,6] (k:=dF [0,1,2,3,4,5,6] 1 ru81 so76 (k:=dL [0,1,2,3,4,5,6] ag76 hcj 1 (k:=?_))))))
   refine dj_val rfl rfl (sub_of [0,1,2,3,4,5,6] rfl) (fun _ _ h=>r_conv ru76 ru2 rfl h) (dM [0,1,2,3,4,5,6] (k:=dN [0,1,2,3,4,5,6] (k:=dF [0,1,2,3,4,5,6] 1 ru81 so76 (k:=dL [0,1,2,3,4,5,6] ag76 hcs 1 (k:=?_)))))
   refine dj_val rfl rfl (sub_of [0,1,2,3,4,5,6] rfl) (fun _ _ h=>r_conv ru76 ru2 rfl h) (dj_val rfl rfl (sub_of [0,1,2,3,4,5,6] rfl) (fun _ _ h=>r_sub rfl rfl h) (dj_val rfl rfl (sub_of [0,1,2,3,4,5,6] rfl) (fun _ _ h=>r_build (cs:=[_,_]) bt117 rfl rfl h) (dE (h:=fun Kd=>j_allocA (zs:=[(.pointer none),(.int .i64 0)]) zv117 rfl fun b10=>Kd (sb [1,2,3,4,5,6,7]) (dE (h:=fun Kd=>jB [_,_] (_::_::_::_::_::_::_::_::_) 0 so117 (k:=Kd (sb [1,2,3,4,5,6,7]) (K12 (CJ.t [(0,_),(1,_),(4,_),(10,_)] (k:=sQ fun K13=>?_))))))))))
   refine cj_drawI 9 (lts [0,1,2,3,4,5,6,7,8]++(9,false)::[]) [0] rfl (by kernel_rfl) (by kernel_rfl) (dM [0] (k:=dN [0] (k:=dF [0] 3 ru115 so113 (k:=dL [0] ag113 hcp 3 (k:=dM [0] (k:=dN [0] (k:=dF [0] 0 ru81 so76 (k:=dL [0] ag76 hcs 0 (k:=?_)))))))))
   refine dj_ld rfl rfl (sub_of [0] rfl) (fun a w ha hS=>r_ldSA (vs:=[_,_]) 0 rfl rfl ag117 so117 rfl rfl rfl ha hS) (dE (h:=fun Kd=>?_))
   refine j_mapupd (k:=m.id) 6 rfl ru113 keyId hM1 rfl rfl rfl (fun _ _ _=>⟨fun _ _=>trivial,trivial⟩) fun es' ck' hM'=>?_
   refine Kd (.inl rfl) (K13 (sQ fun K14=>cj_reg (j_valw rfl (fun a w ha hH hf=>r_ldA (vs:=[_,_]) 0 rfl rfl ag117 so117 rfl rfl rfl ha hH) (jB [_,_] (_::_::_::_::_::_::_::_::_) 3 so117 (k:=K14 (CJ.t [(4,_)] (k:=cj_ret ?_)))))))
   first
   |exact ej_ret1C results33 ag117 so117 rfl rfl (fun w' hH hf=>⟨_,hH.get (i:=1) rfl rfl⟩) fun w' hH hf=>⟨s,j,po,by rw[ptrAt_nat q3,e1];rfl,h.keep (hA w' hH.2.2.2.2.2.2 hf) (by simp),MStep.after (hA w' hH.2.2.2.2.2.2 hf) MStep.refl,rfl,rfl,.inr ⟨hz0,by omega,m,mj,hm,by simpa using q4,e2,q6⟩⟩
   |exact ej_ret1C results33 ag117 so117 rfl rfl (fun w' hH hf=>⟨_,hH.get (i:=3) rfl rfl⟩) fun w' hH hf=>by
      have hk:=hB w' _ _ hH.2.2.2.2.2.2.2.2.2.2.2.2 hf
      obtain ⟨g1,g2⟩:=h.setM hk ⟨_,_,hH.obj (i:=6) rfl rfl,hM'⟩ ⟨z.toNat,j,bj,m,mj,hm,rfl,hbj,hmj,by rw[wrap_subw];rfl,hkj.symm⟩
      exact ⟨_,j,IntKind.i64.wrap (mj.start - m.start),by rw[ptrAt_nat hbj,wrap_subw];rfl,g1,g2,rfl,rfl,.inr ⟨hz0,by omega,m,mj,hm,by simpa using hmj,rfl,hkj.symm⟩⟩
   |exact ej_ret1C results33 ag117 so117 rfl rfl (fun w' hH hf=>⟨_,hH.get (i:=4) rfl rfl⟩) fun w' hH hf=>by
      have hid:IntKind.u64.wrap (IntKind.i64.wrap ((l:Int)+1))=(s.maps.length:Int)+1:=by
       rw[← hll]
       simp only[IntKind.wrap,IntKind.bits,IntKind.signed]
       have:l≤2000000:=by omega
       simp;omega
      have hbn:Blk w' b112 tMap (cMap { m with id:=(s.maps.length:Int)+1 }):=by
       have:=hH.get (i:=1) rfl rfl
       rw[hid]at this
       exact this
      have hfr:w.heap.size≤b112:=hH.fresh' (i:=1) rfl rfl
      have hwm:=hX.wm m (List.mem_of_getElem? hm)
      obtain ⟨s',g1,g2,g3,g4,g5,g6⟩:=h.newM (y':=y126) (c:=c) (p:=p) (i:=z.toNat) (m:=m) (bn:=b112) rfl (Hp.keepL (es:=[_,_,_,_,_,_,_,_,_]) hH hf) hpb hsa hy hlo hfu (hH.get (i:=6) rfl rfl) hO126
       (fun ho=>by have:=hH.get (i:=5) rfl ho;rw[hO126.hT]at this;exact this)
       (fun ho=>Hp.newOr (es:=[_,_,_]) hH.2.2.2.2.2.2.2.2.2.2.2.2.2.2.2 (by simp[Ent.ex,ho])) hbn hfr rfl ⟨_,_,hH.obj (i:=7) rfl rfl,hM'⟩ ⟨_,_,hH.obj (i:=8) rfl rfl,hM2'⟩ hm hwm.2 hno
      exact ⟨s',(s.maps.length:Nat),0,by rw[g3,ptrAt_nat (get_last rfl)];rfl,g1,g2,g5,g6,.inr ⟨hz0,by omega,m,{ m with id:=(s.maps.length:Int)+1 },hm,by rw[g4];exact get_last (by simpa using hlen.symm),by
       show (0:Int)=IntKind.i64.wrap (m.start - m.start)
       rw[Int.sub_self];rfl,rfl⟩⟩
  ·refine cj_skip (K9 (sQ fun K15=>cj_drawI 49 (lts [0,1,2,3,4,5,6,7,8,9,10,11,12,13,14,15,16,17,18,19,20,21,22,23,24,25,26,27,28,29,30,31,32,33,34,35,36,37,38,39,40,41,42,43,44,45,46]++(47,false)::lts [48]) [4] rfl (by kernel_rfl) (by kernel_rfl) (dM [4] (k:=dN [4] (k:=dF [4] 0 ru115 so42 (k:=dL [4] ag42 hcp 0 (k:=dN [4] (k:=dF [4] 3 ru75 so71 (k:=dH [4] 0 ag71 (k:=?_))))))))))
   refine dj_val rfl rfl (sub_of [4] rfl) (fun _ _ h=>r_len ru71 rfl h) (dj_val rfl rfl (sub_of [4] rfl) (fun _ _ h=>r_add rfl rfl h) (dj_val rfl rfl (sub_of [4] rfl) (fun _ _ h=>r_conv ru3 ru76 rfl h) (dM [4] (k:=dN [4] (k:=dF [4] 1 ru81 so76 (k:=dL [4] ag76 hcs 1 (k:=dM [4] (k:=dN [4] (k:=dF [4] 2 ru81 so76 (k:=dL [4] ag76 hcs 2 (k:=dM [4] (k:=dN [4] (k:=dF [4] 3 ru81 so76 (k:=?_))))))))))))))
   refine dL [4] ag76 hcs 3 (k:=dM [4] (k:=dN [4] (k:=dF [4] 4 ru81 so9 (k:=dL [4] ag9 hcs 4 (k:=dM [4] (k:=dN [4] (k:=dF [4] 5 ru81 so9 (k:=dL [4] ag9 hcs 5 (k:=dM [4] (k:=dN [4] (k:=dF [4] 6 ru81 so4 (k:=dL [4] ag4 hcs 6 (k:=dM [4] (k:=?_))))))))))))))
   refine dN [4] (k:=dF [4] 7 ru81 so4 (k:=dL [4] ag4 hcs 7 (k:=dM [4] (k:=dN [4] (k:=dF [4] 8 ru81 so4 (k:=dL [4] ag4 hcs 8 (k:=dM [4] (k:=dN [4] (k:=dF [4] 9 ru81 so4 (k:=dL [4] ag4 hcs 9 (k:=?_)))))))))))
   refine dj_val rfl rfl (sub_of [4] rfl) (fun _ _ h=>r_build (cs:=[_,_,_,_,_,_,_,_,_,_,(.int .i64 0),(.int .i64 0)]) bt81 rfl rfl h) (dE (h:=fun Kd=>j_boxA (vs:=[_,_,_,_,_,_,_,_,_,_,_,_]) rfl rfl fun b112=>Kd (sb [5]) (dA [5] (k:=K15 (CJ.t [(0,_),(1,_),(4,_),(7,_),(11,_)] (k:=sQ fun K16=>?_))))))
   refine cj_drawI 14 (lts [0,1,2,3,4,5,6,7,8,9,10,11]++(12,false)::(13,false)::(14,false)::(15,false)::(16,false)::[]) [5] rfl (by kernel_rfl) (by kernel_rfl) (dM [5] (k:=dN [5] (k:=dF [5] 0 ru115 so42 (k:=dL [5] ag42 hcp 0 (k:=dM [5] (k:=dN [5] (k:=dF [5] 0 ru115 so42 (k:=dL [5] ag42 hcp 0 (k:=dN [5] (k:=dF [5] 3 ru75 so71 (k:=dH [5] 0 ag71 (k:=dM [5] (k:=dE (h:=fun Kd=>?_))))))))))))))
   refine j_bslice1 ru71 so79 zv79 rfl rfl rfl rfl rfl fun b125=>Kd (sb [6]) (dE (h:=fun Kd=>?_))
   refine j_appO 4 rfl hO ru71 el79 rfl rfl rfl rfl rfl (by omega) rfl fun y126 p126 c126 hO126=>?_
   refine Kd (sb [5]) (dE (h:=fun Kd=>jN (k:=Kd (.inl rfl) (dE (h:=fun Kd=>jF 3 ru75 so71 (k:=Kd (.inl rfl) (dE (h:=fun Kd=>jB [_,_,_,_,_,_,_,_,_,_,_,_,_,_,_,_,_,_] (_::_::_::_::_::_::_::_::_) 5 so71 (k:=Kd (.inl rfl) (K16 (CJ.t [(0,_),(1,_),(4,_),(7,_),(11,_)] (k:=sQ fun K17=>?_))))))))))))
   refine cj_drawI 6 (lts [0,1,2,3,4,5]++(6,false)::[]) [1] rfl (by kernel_rfl) (by kernel_rfl) (dM [1] (k:=dN [1] (k:=dF [1] 7 ru115 so110 (k:=dL [1] ag110 hcp 7 (k:=?_)))))
   refine dj_ld rfl rfl (sub_of [1] rfl) (fun a w ha hS=>r_ldSA (vs:=[_,_,_]) 0 rfl rfl ag149 so149 rfl rfl rfl ha hS) (dM [1] (k:=dE (h:=fun Kd=>?_)))
   refine j_mapupd (k:=partK m) 7 rfl ru110 keyMp hM2 rfl rfl rfl (fun _ _ _=>⟨fun _ _=>trivial,trivial⟩) fun es2' ck2' hM2'=>?_
   refine Kd (.inl rfl) (K17 (sQ fun K18=>cj_reg (jM (k:=?_))))
   refine j_val rfl (fun _ _ h=>r_build (cs:=[_,_]) bt117 rfl rfl h) (j_allocA (zs:=[(.pointer none),(.int .i64 0)]) zv117 rfl fun b12=>jB [_,_] (_::_::_::_::_::_::_::_::_::_) 0 so117 (k:=K18 (CJ.t [(0,_),(1,_),(4,_),(12,_)] (k:=sQ fun K19=>?_))))
   refine cj_drawI 9 (lts [0,1,2,3,4,5,6,7,8]++(9,false)::[]) [0] rfl (by kernel_rfl) (by kernel_rfl) (dM [0] (k:=dN [0] (k:=dF [0] 3 ru115 so113 (k:=dL [0] ag113 hcp 3 (k:=dM [0] (k:=dN [0] (k:=dF [0] 0 ru81 so76 (k:=dL [0] ag76 hcs 0 (k:=?_)))))))))
   refine dj_ld rfl rfl (sub_of [0] rfl) (fun a w ha hS=>r_ldSA (vs:=[_,_]) 0 rfl rfl ag117 so117 rfl rfl rfl ha hS) (dE (h:=fun Kd=>?_))
   refine j_mapupd (k:=m.id) 7 rfl ru113 keyId hM1 rfl rfl rfl (fun _ _ _=>⟨fun _ _=>trivial,trivial⟩) fun es' ck' hM'=>?_
   refine Kd (.inl rfl) (K19 (sQ fun K20=>cj_reg (j_valw rfl (fun a w ha hH hf=>r_ldA (vs:=[_,_]) 0 rfl rfl ag117 so117 rfl rfl rfl ha hH) (jB [_,_] (_::_::_::_::_::_::_::_::_::_) 4 so117 (k:=K20 (CJ.t [(4,_)] (k:=cj_ret ?_)))))))
   first
   |exact ej_ret1C results33 ag117 so117 rfl rfl (fun w' hH hf=>⟨_,hH.get (i:=1) rfl rfl⟩) fun w' hH hf=>⟨s,j,po,by rw[ptrAt_nat q3,e1];rfl,h.keep (hA w' hH.2.2.2.2.2.2 hf) (by simp),MStep.after (hA w' hH.2.2.2.2.2.2 hf) MStep.refl,rfl,rfl,.inr ⟨hz0,by omega,m,mj,hm,by simpa using q4,e2,q6⟩⟩
   |exact ej_ret1C results33 ag117 so117 rfl rfl (fun w' hH hf=>⟨_,hH.get (i:=3) rfl rfl⟩) fun w' hH hf=>by
      have hk:=hB w' _ _ hH.2.2.2.2.2.2.2.2.2.2.2.2 hf
      obtain ⟨g1,g2⟩:=h.setM hk ⟨_,_,hH.obj (i:=6) rfl rfl,hM'⟩ ⟨z.toNat,j,bj,m,mj,hm,rfl,hbj,hmj,by rw[wrap_subw];rfl,hkj.symm⟩
      exact ⟨_,j,IntKind.i64.wrap (mj.start - m.start),by rw[ptrAt_nat hbj,wrap_subw];rfl,g1,g2,rfl,rfl,.inr ⟨hz0,by omega,m,mj,hm,by simpa using hmj,rfl,hkj.symm⟩⟩
   |exact ej_ret1C results33 ag117 so117 rfl rfl (fun w' hH hf=>⟨_,hH.get (i:=4) rfl rfl⟩) fun w' hH hf=>by
      have hid:IntKind.u64.wrap (IntKind.i64.wrap ((l:Int)+1))=(s.maps.length:Int)+1:=by
       rw[← hll]
       simp only[IntKind.wrap,IntKind.bits,IntKind.signed]
       have:l≤2000000:=by omega
       simp;omega
      have hbn:Blk w' b112 tMap (cMap { m with id:=(s.maps.length:Int)+1 }):=by
       have:=hH.get (i:=1) rfl rfl
       rw[hid]at this
       exact this
      have hfr:w.heap.size≤b112:=hH.fresh' (i:=1) rfl rfl
      have hwm:=hX.wm m (List.mem_of_getElem? hm)
      obtain ⟨s',g1,g2,g3,g4,g5,g6⟩:=h.newM (y':=y126) (c:=c) (p:=p) (i:=z.toNat) (m:=m) (bn:=b112) rfl (Hp.keepL (es:=[_,_,_,_,_,_,_,_,_]) hH hf) hpb hsa hy hlo hfu (hH.get (i:=6) rfl rfl) hO126
       (fun ho=>by have:=hH.get (i:=5) rfl ho;rw[hO126.hT]at this;exact this)
       (fun ho=>Hp.newOr (es:=[_,_,_]) hH.2.2.2.2.2.2.2.2.2.2.2.2.2.2.2 (by simp[Ent.ex,ho])) hbn hfr rfl ⟨_,_,hH.obj (i:=7) rfl rfl,hM'⟩ ⟨_,_,hH.obj (i:=8) rfl rfl,hM2'⟩ hm hwm.2 hno
      exact ⟨s',(s.maps.length:Nat),0,by rw[g3,ptrAt_nat (get_last rfl)];rfl,g1,g2,g5,g6,.inr ⟨hz0,by omega,m,{ m with id:=(s.maps.length:Int)+1 },hm,by rw[g4];exact get_last (by simpa using hlen.symm),by
       show (0:Int)=IntKind.i64.wrap (m.start - m.start)
       rw[Int.sub_self];rfl,rfl⟩⟩
def FnR (x z:PProf) (i j:Int):Prop:=(i<0∧j= -1)∨(0≤i∧0≤j∧∃m m',x.funcs[i.toNat]? =some m∧z.funcs[j.toNat]? =some m'∧fnK m'=fnK m)
theorem mapFunction_c (w0 w:World) (x:PProf) (g:G) (n:Nat) (s:MS) (z:Int) (h:MG w0 x n w s) (hX:SrcT w0 x g) (hz:z<x.funcs.length):
  Calls Tryz.prog 84 #[ptr s.pm,ptrAt g.funs z] w (Ret fun v w'=>∃(s':MS) (j:Int),v=ptrAt s'.funs j∧MG w0 x n w' s'∧MStep w s w' s'∧(s'.z.locs,s'.jL)=(s.z.locs,s.jL)∧s'.z.mappings=s.z.mappings∧FnR x s'.z z j):=by
 by_cases hz0:0≤z
 case neg=>
  rw[ptrAt_neg hz0]
  refine startJ (args:=[_,_]) [(0,_),(1,_)] 0 [] [] func84 rfl ntmps84 rfl rfl .nil ?_
  refine sQ fun K1=>cj_reg (jA (k:=K1 ?_))
  refine cj_seqF fun K2 hK2=>sQ fun K3=>cj_reg (jM (k:=?_))
  refine j_val rfl (fun _ _ h=>r_pneql ud84 rfl h) (K3 (cj_if_t rfl (sQ fun K4=>cj_reg (jA (k:=K4 (cj_ret ?_))))))
  exact ej_ret1 results84 rfl fun w' hH hf=>⟨s, -1,rfl,h.keep (KeepX.of hf) (by simp),MStep.after (KeepX.of hf) MStep.refl,rfl,rfl,.inl ⟨by omega,rfl⟩⟩
 have hzl:z.toNat<x.funcs.length:=by omega
 have hgl:z.toNat<g.funs.length:=by rw[hX.of.funs.1];exact hzl
 obtain ⟨m,hm⟩:∃m,x.funcs[z.toNat]? =some m:=⟨_,List.getElem?_eq_getElem hzl⟩
 obtain ⟨b,hb⟩:∃b,g.funs[z.toNat]? =some b:=⟨_,List.getElem?_eq_getElem hgl⟩
 have hpz:ptrAt g.funs z=ptr b:=by unfold ptrAt;rw[if_pos hz0,hb];rfl
 rw[hpz]
 have hbk:Blk w b tFun (cFun m):=h.kp _ _ (hX.of.funs.2 _ _ _ hb hm)
 obtain ⟨sa,ma,lo,fu,hpb,hsa,hma,hlo,⟨y,p,l,c,rfl,hO,hy⟩⟩:=h.prof
 obtain ⟨e1,k1,hm1,hM1⟩:=h.uF
 obtain ⟨e2,k2,hm2,hM2⟩:=h.tF
 have hll:l=s.funs.length:=by have:=hO.sl.1;simp at this;omega
 have hlen:s.z.funcs.length=s.funs.length:=h.oF.1.symm
 have hjm:=h.jf
 have hbm:=h.bF
 have hnx:=hX.nf
 have hcp:=mc (f:=⟨w,0,[tProf,pFun,1000000]⟩) h.bpm rfl
 have hcs:=mc (f:=⟨w,0,[tProf,pFun,1000000]⟩) hbk rfl
 obtain ⟨pv,hlk⟩:∃pv,(mget s.jF m.id).getD (.pointer none)=.pointer pv:=by
  cases hg:mget s.jF m.id with
  |none=>exact ⟨_,rfl⟩
  |some u=>
   obtain ⟨_,_,_,_,_, -, -, -, -,rfl, -⟩:=h.rF _ _ hg
   exact ⟨_,rfl⟩
 obtain ⟨pk,hlk2⟩:∃pk,(mget s.kF (fnK m)).getD (.pointer none)=.pointer pk:=by
  cases hg:mget s.kF (fnK m) with
  |none=>exact ⟨_,rfl⟩
  |some u=>
   obtain ⟨_,_,_, -, -,rfl, -⟩:=h.sF _ _ hg
   exact ⟨_,rfl⟩
 have hne12:s.iF≠s.mF:=by
  have:=h.nd
  simp only[List.nodup_cons,List.mem_cons,List.not_mem_nil,or_false,not_or]at this
  exact fun e=>this.2.2.1.2.2.1 e.symm
 have hHp:Hp ⟨w,0,[tProf,pFun,1000000]⟩ w (y::⟨s.pb,tProf,cProf s.z s.ty sa ma lo (.slice p l c) (.slice none 0 0) s.per,true,true,none⟩::mpE s.iF e1 k1::mpE s.mF e2 k2::restH w ([s.pb,s.iF,s.mF]++rowL y)):=by
  refine Hp.listL (es:=[y,⟨s.pb,tProf,cProf s.z s.ty sa ma lo (.slice p l c) (.slice none 0 0) s.per,true,true,none⟩,mpE s.iF e1 k1,mpE s.mF e2 k2]) ?_ ?_ ?_ ?_
  ·intro q hq
   simp only[List.mem_cons,List.not_mem_nil,or_false]at hq
   rcases hq with rfl|rfl|rfl|rfl
   ·exact has_own hO fun ho=>(hy ho).1
   ·exact has_blk hpb
   ·exact has_map hm1
   ·exact has_map hm2
  ·intro q hq he _
   simp only[List.mem_cons,List.not_mem_nil,or_false]at hq
   rcases hq with rfl|rfl|rfl|rfl
   ·exact ⟨Nat.zero_le _,by rw[hO.tag];decide⟩
   ·exact ⟨Nat.zero_le _,by show tProf∈_;decide⟩
   ·exact ⟨Nat.zero_le _,by show 1000000∈_;decide⟩
   ·exact ⟨Nat.zero_le _,by show 1000000∈_;decide⟩
  ·have hyx:=fun he=>own_ex hO he
   simp only[List.pairwise_cons,List.mem_cons,List.not_mem_nil,or_false,forall_eq_or_imp,forall_eq,false_imp_iff,implies_true,and_true,List.Pairwise.nil]
   refine ⟨⟨fun he _=>((hy (hyx he)).1.ne hpb (by decide)).symm,fun he _=>map_neB hm1 (hy (hyx he)).1,fun he _=>map_neB hm2 (hy (hyx he)).1⟩,⟨fun _ _=>map_neB hm1 hpb,fun _ _=>map_neB hm2 hpb⟩,fun _ _=>hne12.symm⟩
  ·intro q hq he
   simp only[List.mem_cons,List.not_mem_nil,or_false]at hq
   rcases hq with rfl|rfl|rfl|rfl
   ·simp[rowL,own_ex hO he]
   ·simp
   ·simp
   ·simp
 have hB:∀(w':World) (e':List MapEntry) (k':Nat),Hp ⟨w,0,[tProf,pFun,1000000]⟩ w' (y::⟨s.pb,tProf,cProf s.z s.ty sa ma lo (.slice p l c) (.slice none 0 0) s.per,true,true,none⟩::mpE s.iF e' k'::mpE s.mF e2 k2::restH w ([s.pb,s.iF,s.mF]++rowL y))→Fm.ok ⟨w,0,[tProf,pFun,1000000]⟩ w'→KeepX [s.iF] w w':=fun w' e' k' hH hf=>by
  refine KeepX.same (Hp.keepL (es:=[y,⟨s.pb,tProf,cProf s.z s.ty sa ma lo (.slice p l c) (.slice none 0 0) s.per,true,true,none⟩,mpE s.iF e' k',mpE s.mF e2 k2]) hH hf) fun b hb=>?_
  rcases List.mem_append.1 hb with hb|hb
  ·simp only[List.mem_cons,List.not_mem_nil,or_false]at hb
   rcases hb with rfl|rfl|rfl
   ·refine .inr fun o ho=>?_
    rw[show w.heap[s.pb]? =some _ from hpb]at ho
    cases ho
    exact hH.get (i:=1) rfl rfl
   ·exact .inl (by simp)
   ·refine .inr fun o ho=>?_
    rw[hm2]at ho
    cases ho
    exact hH.obj (i:=3) rfl rfl
  ·obtain ⟨hon,rfl⟩:=mem_rowL' hb
   refine .inr fun o ho=>?_
   rw[show w.heap[y.b]? =some _ from (hy hon).1]at ho
   cases ho
   have:=hH.get (i:=0) rfl hon
   rw[hO.hT]at this
   exact this
 have hA:∀(w':World),Hp ⟨w,0,[tProf,pFun,1000000]⟩ w' (y::⟨s.pb,tProf,cProf s.z s.ty sa ma lo (.slice p l c) (.slice none 0 0) s.per,true,true,none⟩::mpE s.iF e1 k1::mpE s.mF e2 k2::restH w ([s.pb,s.iF,s.mF]++rowL y))→Fm.ok ⟨w,0,[tProf,pFun,1000000]⟩ w'→KeepX [] w w':=fun w' hH hf=>KeepX.same (hB w' _ _ hH hf) fun b hb=>by
  rw[List.mem_singleton.1 hb]
  refine .inr fun o ho=>?_
  rw[hm1]at ho
  cases ho
  exact hH.obj (i:=2) rfl rfl
 refine startJ (args:=[_,_]) [(0,_),(1,_)] 0 [tProf,pFun,1000000] _ func84 rfl ntmps84 rfl rfl hHp ?_
 refine sQ fun K1=>cj_reg (jA (k:=K1 ?_))
 refine cj_seqF fun K2 hK2=>sQ fun K3=>cj_reg (jM (k:=?_))
 refine j_val rfl (fun _ _ h=>r_pneql ud84 rfl h) (K3 (cj_if_f rfl (cj_skip (ej_then (hK2 _ _ _ (sQ fun K4=>sQ fun K5=>?_))))))
 refine cj_drawT 14 (lts [0,1,2,3,4,5,6,7,8,9,10,11,12,13]) [] rfl (fun w=>w.heap[s.iF]? =some (.map e1.toArray k1)) (by kernel_rfl) (by kernel_rfl) ?_
 refine dj_valT rfl rfl (sub_of [] rfl) (fun w hH hf=>hH.obj (i:=2) rfl rfl) (fun _ _ h=>r_move rfl h) (dj_valT rfl rfl (sub_of [] rfl) (fun w hH hf=>hH.obj (i:=2) rfl rfl) (fun _ _ h=>r_nil rfl h) (dj_valT rfl rfl (sub_of [] rfl) (fun w hH hf=>hH.obj (i:=2) rfl rfl) (fun _ _ h=>r_fl (q:=2) (ft:=112) ru115 rfl so112 rfl h) (dj_ldT rfl rfl (sub_of [] rfl) (fun w hH hf=>hH.obj (i:=2) rfl rfl) (fun a w ha hS=>r_load ag112 rfl (hcp w (hS.2) 2 _ rfl) ha) (dj_valT rfl rfl (sub_of [] rfl) (fun w hH hf=>hH.obj (i:=2) rfl rfl) (fun _ _ h=>r_move rfl h) (dj_valT rfl rfl (sub_of [] rfl) (fun w hH hf=>hH.obj (i:=2) rfl rfl) (fun _ _ h=>r_nil rfl h) (dj_valT rfl rfl (sub_of [] rfl) (fun w hH hf=>hH.obj (i:=2) rfl rfl) (fun _ _ h=>r_fl (q:=0) (ft:=76) ru86 rfl so76 rfl h) (dj_ldT rfl rfl (sub_of [] rfl) (fun w hH hf=>hH.obj (i:=2) rfl rfl) (fun a w ha hS=>r_load ag76 rfl (hcs w (hS.2) 0 _ rfl) ha) ?_)))))))
 refine dj_lkT rfl rfl (sub_of [] rfl) (fun w hH hf=>hH.obj (i:=2) rfl rfl) (fun a w ha hT=>(r_look2W (k:=m.id) ru112 keyId hM1 zv84 rfl rfl ha hT).trans (by rw[hlk])) ?_
 refine dj_valT rfl rfl (sub_of [] rfl) (fun w hH hf=>hH.obj (i:=2) rfl rfl) (fun _ _ h=>r_move rfl h) (dj_valT rfl rfl (sub_of [] rfl) (fun w hH hf=>hH.obj (i:=2) rfl rfl) (fun _ _ h=>r_extract rfl rfl h) (dj_valT rfl rfl (sub_of [] rfl) (fun w hH hf=>hH.obj (i:=2) rfl rfl) (fun _ _ h=>r_extract rfl rfl h) (dj_valT rfl rfl (sub_of [] rfl) (fun w hH hf=>hH.obj (i:=2) rfl rfl) (fun _ _ h=>r_assign rfl h) (dj_valT rfl rfl (sub_of [] rfl) (fun w hH hf=>hH.obj (i:=2) rfl rfl) (fun _ _ h=>r_assign rfl h) (K5 (CJ.t [(0,_),(1,_),(5,_),(6,_)] (k:=sQ fun K6=>cj_reg (jM (k:=K6 ?_)))))))))
 refine cj_if rfl (fun h28=>?_) (fun h28=>?_)
 ·obtain ⟨u,hu⟩:=Option.isSome_iff_exists.1 h28
  obtain ⟨i,j,bj,mi,mj,q1,q2,q3,q4,q5,q6⟩:=h.rF _ _ hu
  have ei:mi=m:=by
   have h1:=(List.getElem?_eq_some_iff.1 q1).1
   have h2:i=z.toNat:=nodup_ix hX.idf (by simpa using h1) (by simpa using hzl) (by
    rw[List.getElem_map,List.getElem_map,(List.getElem?_eq_some_iff.1 q1).2,(List.getElem?_eq_some_iff.1 hm).2];exact q2)
   rw[h2,hm]at q1
   exact (Option.some.inj q1).symm
  rw[ei]at q6
  rw[hu,q5,Option.getD_some]at hlk
  have e1:pv=some ⟨bj,0,none⟩:=by cases hlk;rfl
  refine sQ fun K7=>cj_reg (jM (k:=jA (k:=K7 (cj_ret ?_))))
  first
  |exact ej_ret1 results84 rfl fun w' hH hf=>⟨s,j,by rw[ptrAt_nat q3,e1],h.keep (hA w' hH hf) (by simp),MStep.after (hA w' hH hf) MStep.refl,rfl,rfl,.inr ⟨hz0,by omega,m,mj,hm,by simpa using q4,q6⟩⟩
  |exact ej_ret1 results84 rfl fun w' hH hf=>by
     have hk:=hB w' _ _ hH.2.2.2 hf
     obtain ⟨g1,g2⟩:=h.setF hk ⟨_,_,hH.obj (i:=3) rfl rfl,hM'⟩ ⟨z.toNat,j,bj,m,mj,hm,rfl,hbj,hmj,rfl,hkj.symm⟩
     exact ⟨_,j,by rw[ptrAt_nat hbj],g1,g2,rfl,rfl,.inr ⟨hz0,by omega,m,mj,hm,by simpa using hmj,hkj.symm⟩⟩
  |exact ej_ret1 results84 rfl fun w' hH hf=>by
     have hid:IntKind.u64.wrap (IntKind.i64.wrap ((l:Int)+1))=(s.funs.length:Int)+1:=by
      rw[← hll]
      simp only[IntKind.wrap,IntKind.bits,IntKind.signed]
      have:l≤2000000:=by omega
      simp;omega
     have hbn:Blk w' b76 tFun (cFun { m with id:=(s.funs.length:Int)+1 }):=by
      have:=hH.get (i:=0) rfl rfl
      rw[hid]at this
      exact this
     have hfr:w.heap.size≤b76:=hH.fresh' (i:=0) rfl rfl
     have hwm:=hX.wf m (List.mem_of_getElem? hm)
     obtain ⟨s',g1,g2,g3,g4,g5,g6⟩:=h.newF (y':=y105) (c:=c) (p:=p) (i:=z.toNat) (m:=m) (bn:=b76) rfl (Hp.keepL (es:=[_,_,_,_,_,_]) hH hf) hpb hsa hy hma hlo (hH.get (i:=3) rfl rfl) hO105
      (fun ho=>by have:=hH.get (i:=2) rfl ho;rw[hO105.hT]at this;exact this)
      (fun ho=>Hp.newOr (es:=[_,_,_]) hH.2.2.2.2.2.2 (by simp[Ent.ex,ho])) hbn hfr rfl ⟨_,_,hH.obj (i:=4) rfl rfl,hM'⟩ ⟨_,_,hH.obj (i:=5) rfl rfl,hM2'⟩ hm hwm hno
     exact ⟨s',(s.funs.length:Nat),by rw[g3,ptrAt_nat (get_last rfl)],g1,g2,g5,g6,.inr ⟨hz0,by omega,m,{ m with id:=(s.funs.length:Int)+1 },hm,by rw[g4];exact get_last (by simpa using hlen.symm),rfl⟩⟩
 ·have hno:mget s.jF m.id=none:=by
   cases hc:mget s.jF m.id with
   |none=>rfl
   |some v=>rw[hc]at h28;cases h28
  refine cj_skip (K4 (sQ fun K8=>cj_reg (jM (k:=?_))))
  refine j_callQ (φ:=fun v=>v=encFc (fnK m)) call114 rfl rfl (fun w' hH hf=>funKey_c w' b m (fr_row hf rfl _ _ hbk)) fun v hv=>?_
  subst hv
  refine j_allocA (zs:=[(.int .i64 0),(.string ⟨#[]⟩),(.string ⟨#[]⟩),(.string ⟨#[]⟩)]) zv224 rfl fun b7=>jB [_,_,_,_] (_::_::_::_::_::_) 0 so224 (k:=K8 (sQ fun K9=>sQ fun K10=>?_))
  refine cj_drawT 11 (lts [0,1,2,3,4,5,6,7,8,9,10]) [0] rfl (fun w=>w.heap[s.mF]? =some (.map e2.toArray k2)) (by kernel_rfl) (by kernel_rfl) ?_
  refine dj_valT rfl rfl (sub_of [0] rfl) (fun w hH hf=>hH.obj (i:=4) rfl rfl) (fun _ _ h=>r_move rfl h) (dj_valT rfl rfl (sub_of [0] rfl) (fun w hH hf=>hH.obj (i:=4) rfl rfl) (fun _ _ h=>r_nil rfl h) (dj_valT rfl rfl (sub_of [0] rfl) (fun w hH hf=>hH.obj (i:=4) rfl rfl) (fun _ _ h=>r_fl (q:=6) (ft:=109) ru115 rfl so109 rfl h) (dj_ldT rfl rfl (sub_of [0] rfl) (fun w hH hf=>hH.obj (i:=4) rfl rfl) (fun a w ha hS=>r_load ag109 rfl (hcp w (hS.2) 6 _ rfl) ha) (dj_ldT rfl rfl (sub_of [0] rfl) (fun w hH hf=>hH.obj (i:=4) rfl rfl) (fun a w ha hS=>r_ldSA (vs:=[_,_,_,_]) 0 rfl rfl ag224 so224 rfl rfl rfl ha hS) ?_))))
  refine dj_lkT rfl rfl (sub_of [0] rfl) (fun w hH hf=>hH.obj (i:=4) rfl rfl) (fun a w ha hT=>(r_look2W (k:=fnK m) ru109 keyFc hM2 zv84 rfl rfl ha hT).trans (by rw[hlk2])) ?_
  refine dj_valT rfl rfl (sub_of [0] rfl) (fun w hH hf=>hH.obj (i:=4) rfl rfl) (fun _ _ h=>r_move rfl h) (dj_valT rfl rfl (sub_of [0] rfl) (fun w hH hf=>hH.obj (i:=4) rfl rfl) (fun _ _ h=>r_extract rfl rfl h) (dj_valT rfl rfl (sub_of [0] rfl) (fun w hH hf=>hH.obj (i:=4) rfl rfl) (fun _ _ h=>r_extract rfl rfl h) (dj_valT rfl rfl (sub_of [0] rfl) (fun w hH hf=>hH.obj (i:=4) rfl rfl) (fun _ _ h=>r_assign rfl h) (dj_valT rfl rfl (sub_of [0] rfl) (fun w hH hf=>hH.obj (i:=4) rfl rfl) (fun _ _ h=>r_assign rfl h) (K10 (CJ.t [(0,_),(1,_),(7,_),(8,_),(9,_)] (k:=sQ fun K11=>cj_reg (jM (k:=K11 ?_)))))))))
  refine cj_if rfl (fun h41=>?_) (fun h41=>?_)
  ·obtain ⟨u,hu⟩:=Option.isSome_iff_exists.1 h41
   obtain ⟨j,bj,mj,hbj,hmj,rfl,hkj⟩:=h.sF _ _ hu
   have epk:pk=some ⟨bj,0,none⟩:=by rw[hu]at hlk2;cases hlk2;rfl
   subst epk
   refine sQ fun K12=>cj_drawI 9 (lts [0,1,2,3,4,5,6,7,8]++(9,false)::[]) [] rfl (by kernel_rfl) (by kernel_rfl) (dM [] (k:=dN [] (k:=dF [] 2 ru115 so112 (k:=dL [] ag112 hcp 2 (k:=dM [] (k:=dN [] (k:=dF [] 0 ru86 so76 (k:=dL [] ag76 hcs 0 (k:=dM [] (k:=dE (h:=fun Kd=>?_)))))))))))
   refine j_mapupd (k:=m.id) 3 rfl ru112 keyId hM1 rfl rfl rfl (fun _ _ _=>⟨fun _ _=>trivial,trivial⟩) fun es' ck' hM'=>?_
   refine Kd (.inl rfl) (K12 (CJ.t [(8,_)] (k:=sQ fun K13=>cj_reg (jM (k:=jA (k:=K13 (cj_ret ?_)))))))
   first
   |exact ej_ret1 results84 rfl fun w' hH hf=>⟨s,j,by rw[ptrAt_nat q3,e1],h.keep (hA w' hH hf) (by simp),MStep.after (hA w' hH hf) MStep.refl,rfl,rfl,.inr ⟨hz0,by omega,m,mj,hm,by simpa using q4,q6⟩⟩
   |exact ej_ret1 results84 rfl fun w' hH hf=>by
      have hk:=hB w' _ _ hH.2.2.2 hf
      obtain ⟨g1,g2⟩:=h.setF hk ⟨_,_,hH.obj (i:=3) rfl rfl,hM'⟩ ⟨z.toNat,j,bj,m,mj,hm,rfl,hbj,hmj,rfl,hkj.symm⟩
      exact ⟨_,j,by rw[ptrAt_nat hbj],g1,g2,rfl,rfl,.inr ⟨hz0,by omega,m,mj,hm,by simpa using hmj,hkj.symm⟩⟩
   |exact ej_ret1 results84 rfl fun w' hH hf=>by
      have hid:IntKind.u64.wrap (IntKind.i64.wrap ((l:Int)+1))=(s.funs.length:Int)+1:=by
       rw[← hll]
       simp only[IntKind.wrap,IntKind.bits,IntKind.signed]
       have:l≤2000000:=by omega
       simp;omega
      have hbn:Blk w' b76 tFun (cFun { m with id:=(s.funs.length:Int)+1 }):=by
       have:=hH.get (i:=0) rfl rfl
       rw[hid]at this
       exact this
      have hfr:w.heap.size≤b76:=hH.fresh' (i:=0) rfl rfl
      have hwm:=hX.wf m (List.mem_of_getElem? hm)
      obtain ⟨s',g1,g2,g3,g4,g5,g6⟩:=h.newF (y':=y105) (c:=c) (p:=p) (i:=z.toNat) (m:=m) (bn:=b76) rfl (Hp.keepL (es:=[_,_,_,_,_,_]) hH hf) hpb hsa hy hma hlo (hH.get (i:=3) rfl rfl) hO105
       (fun ho=>by have:=hH.get (i:=2) rfl ho;rw[hO105.hT]at this;exact this)
       (fun ho=>Hp.newOr (es:=[_,_,_]) hH.2.2.2.2.2.2 (by simp[Ent.ex,ho])) hbn hfr rfl ⟨_,_,hH.obj (i:=4) rfl rfl,hM'⟩ ⟨_,_,hH.obj (i:=5) rfl rfl,hM2'⟩ hm hwm hno
      exact ⟨s',(s.funs.length:Nat),by rw[g3,ptrAt_nat (get_last rfl)],g1,g2,g5,g6,.inr ⟨hz0,by omega,m,{ m with id:=(s.funs.length:Int)+1 },hm,by rw[g4];exact get_last (by simpa using hlen.symm),rfl⟩⟩
  ·refine cj_skip (K9 (sQ fun K14=>cj_drawI 29 (lts [0,1,2,3,4,5,6,7,8,9,10,11,12,13,14,15,16,17,18,19,20,21,22,23,24,25,26]++(27,false)::lts [28]) [2] rfl (by kernel_rfl) (by kernel_rfl) (dM [2] (k:=dN [2] (k:=dF [2] 0 ru115 so42 (k:=dL [2] ag42 hcp 0 (k:=dN [2] (k:=dF [2] 5 ru75 so73 (k:=dH [2] 0 ag73 (k:=?_))))))))))
   refine dj_val rfl rfl (sub_of [2] rfl) (fun _ _ h=>r_len ru73 rfl h) (dj_val rfl rfl (sub_of [2] rfl) (fun _ _ h=>r_add rfl rfl h) (dj_val rfl rfl (sub_of [2] rfl) (fun _ _ h=>r_conv ru3 ru76 rfl h) (dM [2] (k:=dN [2] (k:=dF [2] 1 ru86 so9 (k:=dL [2] ag9 hcs 1 (k:=dM [2] (k:=dN [2] (k:=dF [2] 2 ru86 so9 (k:=dL [2] ag9 hcs 2 (k:=dM [2] (k:=dN [2] (k:=dF [2] 3 ru86 so9 (k:=?_))))))))))))))
   refine dL [2] ag9 hcs 3 (k:=dM [2] (k:=dN [2] (k:=dF [2] 4 ru86 so2 (k:=dL [2] ag2 hcs 4 (k:=?_)))))
   refine dj_val rfl rfl (sub_of [2] rfl) (fun _ _ h=>r_build (cs:=[_,_,_,_,_,(.int .i64 0),(.int .i64 0),(.int .i64 0)]) bt86 rfl rfl h) (dE (h:=fun Kd=>j_boxA (vs:=[_,_,_,_,_,_,_,_]) rfl rfl fun b76=>Kd (sb [3]) (dA [3] (k:=K14 (CJ.t [(0,_),(1,_),(7,_),(10,_)] (k:=sQ fun K15=>?_))))))
   refine cj_drawI 6 (lts [0,1,2,3,4,5]++(6,false)::[]) [1] rfl (by kernel_rfl) (by kernel_rfl) (dM [1] (k:=dN [1] (k:=dF [1] 6 ru115 so109 (k:=dL [1] ag109 hcp 6 (k:=?_)))))
   refine dj_ld rfl rfl (sub_of [1] rfl) (fun a w ha hS=>r_ldSA (vs:=[_,_,_,_]) 0 rfl rfl ag224 so224 rfl rfl rfl ha hS) (dM [1] (k:=dE (h:=fun Kd=>?_)))
   refine j_mapupd (k:=fnK m) 5 rfl ru109 keyFc hM2 rfl rfl rfl (fun _ _ _=>⟨fun _ _=>trivial,trivial⟩) fun es2' ck2' hM2'=>?_
   refine Kd (.inl rfl) (K15 (sQ fun K16=>cj_drawI 9 (lts [0,1,2,3,4,5,6,7,8]++(9,false)::[]) [] rfl (by kernel_rfl) (by kernel_rfl) (dM [] (k:=dN [] (k:=dF [] 2 ru115 so112 (k:=dL [] ag112 hcp 2 (k:=dM [] (k:=dN [] (k:=dF [] 0 ru86 so76 (k:=dL [] ag76 hcs 0 (k:=dM [] (k:=dE (h:=fun Kd=>?_)))))))))))))
   refine j_mapupd (k:=m.id) 4 rfl ru112 keyId hM1 rfl rfl rfl (fun _ _ _=>⟨fun _ _=>trivial,trivial⟩) fun es' ck' hM'=>?_
   refine Kd (.inl rfl) (K16 (CJ.t [(0,_),(10,_)] (k:=sQ fun K17=>?_)))
   refine cj_drawI 14 (lts [0,1,2,3,4,5,6,7,8,9,10,11]++(12,false)::(13,false)::(14,false)::(15,false)::(16,false)::[]) [3] rfl (by kernel_rfl) (by kernel_rfl) (dM [3] (k:=dN [3] (k:=dF [3] 0 ru115 so42 (k:=dL [3] ag42 hcp 0 (k:=dM [3] (k:=dN [3] (k:=dF [3] 0 ru115 so42 (k:=dL [3] ag42 hcp 0 (k:=dN [3] (k:=dF [3] 5 ru75 so73 (k:=dH [3] 0 ag73 (k:=dM [3] (k:=dE (h:=fun Kd=>?_))))))))))))))
   refine j_bslice1 ru73 so84 zv84 rfl rfl rfl rfl rfl fun b104=>Kd (sb [4]) (dE (h:=fun Kd=>?_))
   refine j_appO 2 rfl hO ru73 el84 rfl rfl rfl rfl rfl (by omega) rfl fun y105 p105 c105 hO105=>?_
   refine Kd (sb [3]) (dE (h:=fun Kd=>jN (k:=Kd (.inl rfl) (dE (h:=fun Kd=>jF 5 ru75 so73 (k:=Kd (.inl rfl) (dE (h:=fun Kd=>jB [_,_,_,_,_,_,_,_,_,_,_,_,_,_,_,_,_,_] (_::_::_::_::_::_::_) 3 so73 (k:=Kd (.inl rfl) (K17 (CJ.t [(10,_)] (k:=sQ fun K18=>cj_reg ?_))))))))))))
   refine jM (k:=jA (k:=K18 (cj_ret ?_)))
   first
   |exact ej_ret1 results84 rfl fun w' hH hf=>⟨s,j,by rw[ptrAt_nat q3,e1],h.keep (hA w' hH hf) (by simp),MStep.after (hA w' hH hf) MStep.refl,rfl,rfl,.inr ⟨hz0,by omega,m,mj,hm,by simpa using q4,q6⟩⟩
   |exact ej_ret1 results84 rfl fun w' hH hf=>by
      have hk:=hB w' _ _ hH.2.2.2 hf
      obtain ⟨g1,g2⟩:=h.setF hk ⟨_,_,hH.obj (i:=3) rfl rfl,hM'⟩ ⟨z.toNat,j,bj,m,mj,hm,rfl,hbj,hmj,rfl,hkj.symm⟩
      exact ⟨_,j,by rw[ptrAt_nat hbj],g1,g2,rfl,rfl,.inr ⟨hz0,by omega,m,mj,hm,by simpa using hmj,hkj.symm⟩⟩
   |exact ej_ret1 results84 rfl fun w' hH hf=>by
      have hid:IntKind.u64.wrap (IntKind.i64.wrap ((l:Int)+1))=(s.funs.length:Int)+1:=by
       rw[← hll]
       simp only[IntKind.wrap,IntKind.bits,IntKind.signed]
       have:l≤2000000:=by omega
       simp;omega
      have hbn:Blk w' b76 tFun (cFun { m with id:=(s.funs.length:Int)+1 }):=by
       have:=hH.get (i:=0) rfl rfl
       rw[hid]at this
       exact this
      have hfr:w.heap.size≤b76:=hH.fresh' (i:=0) rfl rfl
      have hwm:=hX.wf m (List.mem_of_getElem? hm)
      obtain ⟨s',g1,g2,g3,g4,g5,g6⟩:=h.newF (y':=y105) (c:=c) (p:=p) (i:=z.toNat) (m:=m) (bn:=b76) rfl (Hp.keepL (es:=[_,_,_,_,_,_]) hH hf) hpb hsa hy hma hlo (hH.get (i:=3) rfl rfl) hO105
       (fun ho=>by have:=hH.get (i:=2) rfl ho;rw[hO105.hT]at this;exact this)
       (fun ho=>Hp.newOr (es:=[_,_,_]) hH.2.2.2.2.2.2 (by simp[Ent.ex,ho])) hbn hfr rfl ⟨_,_,hH.obj (i:=4) rfl rfl,hM'⟩ ⟨_,_,hH.obj (i:=5) rfl rfl,hM2'⟩ hm hwm hno
      exact ⟨s',(s.funs.length:Nat),by rw[g3,ptrAt_nat (get_last rfl)],g1,g2,g5,g6,.inr ⟨hz0,by omega,m,{ m with id:=(s.funs.length:Int)+1 },hm,by rw[g4];exact get_last (by simpa using hlen.symm),rfl⟩⟩
end Go.Proofs.YtffghbkcomlefaaGreatDoor
namespace Go.Fw
open Go
variable {i:Nat} {v:Value}
def Sr (HS:Heap) (w:World):Prop:=∀x∈HS,x.on=true→Blk w x.b x.T x.cs
section
variable {P:Program} {Q:Exit→Act→World→Prop} {n:Nat} {f:Fm} {e:Env} {H:Heap} {ops:Array Oper} {nt al:Nat} {HS:Heap} {r:Sched} {d ty:Nat} {pos:String} {af:Array Edge}
def DG (P:Program) (ops:Array Oper) (Q:Exit→Act→World→Prop) (HS:Heap) (nt n:Nat) (f:Fm) (e:Env) (H:Heap) (s:Sched):Prop:=
 ∀w,Hp f w H→f.ok w→DS P ops Q (Sr HS) nt n e s w
def DGF (P:Program) (ops:Array Oper) (Q:Exit→Act→World→Prop) (HS:Heap) (nt al n:Nat) (f:Fm) (e:Env) (H:Heap) (s:Sched):Prop:=
 ∀w,Hp f w H→f.ok w→DSF P ops Q (Sr HS) nt al n e s w
theorem cj_drawG {id:Nat} {l:List Oper} {HS:Heap} (nt:Nat) (s:Sched) (idx:List Nat) (_:pickH H idx=some HS) (hm:P.follows .mixedOrders=true) (hs:schedB l.toArray nt s=true)
  (h:DG P l.toArray (NoP Q) HS nt n f e H s):CJ P (.region id l.toArray true) Q n f e H:=fun w hH hf=>
 c_draw nt s hm hs fun w1 hD=>⟨_,h w1 (hH.mono fun _ _ _ o hb=>by rw[hD.heap];exact hb) (Fr.dr hf hD)⟩
theorem cj_drawGF {id:Nat} {l:List Oper} {HS:Heap} (nt al:Nat) (s:Sched) (idx:List Nat) (_:pickH H idx=some HS) (hm:P.follows .mixedOrders=true) (hs:schedF l.toArray nt al s=true)
  (h:DGF P l.toArray (NoP Q) HS nt al n f e H s):CJ P (.region id l.toArray true) Q n f e H:=fun w hH hf=>
 c_drawF nt al s hm hs fun w1 hD=>⟨_,h w1 (hH.mono fun _ _ _ o hb=>by rw[hD.heap];exact hb) (Fr.dr hf hD)⟩
theorem dg_end (h:EJ Q .normal n f e H):DG P ops (NoP Q) HS nt n f e H []:=fun w hH hf=>d_nil (h w hH hf)
theorem dg_val {op:Op} (hi:ops[i]? =some ⟨some d,op,ty,pos,af,none⟩) (hd:Nat.blt d n=true) (hS:∀x∈HS,x∈H)
  (hr:∀a w,Sat n e a→(execOp a.eval ⟨some d,op,ty,pos,af,none⟩).run P w=.ok (.value v) w) (k:DG P ops Q HS nt n f ((d,v)::e) H r):DG P ops Q HS nt n f e H ((i,true)::r):=fun w hH hf=>
 d_light hi hd (fun a w ha _=>hr a w ha) (fun x hx ho=>hH.blk (hS x hx) ho) (k w hH hf)
theorem dg_ld {op:Op} (hi:ops[i]? =some ⟨some d,op,ty,pos,af,none⟩) (hd:Nat.blt d n=true) (hS:∀x∈HS,x∈H)
  (hr:∀a w,Sat n e a→Sr HS w→(execOp a.eval ⟨some d,op,ty,pos,af,none⟩).run P w=.ok (.value v) w) (k:DG P ops Q HS nt n f ((d,v)::e) H r):DG P ops Q HS nt n f e H ((i,true)::r):=fun w hH hf=>
 d_light hi hd hr (fun x hx ho=>hH.blk (hS x hx) ho) (k w hH hf)
theorem dg_eff {o:Oper} (hi:ops[i]? =some o)
  (h:∀K:Act→World→Prop,(∀f' e H,(Nat.blt i nt=false∨∀x∈HS,x∈H)→DG P ops Q HS nt n f' e H r→NJ K n f' e H)→J P ops (Exit.then K Q) n f e H [o]):DG P ops Q HS nt n f e H ((i,false)::r):=fun w hH hf=>
 d_eff hi fun K hK=>h K (fun f' e H hs hd w hH hf=>hK e w (fun hlt=>by
  have h3:Nat.blt i nt=true:=by simpa using hlt
  rcases hs with hs|hs
  ·rw[hs]at h3;exact absurd h3 (by simp)
  ·exact fun x hx ho=>hH.blk (x:=x) (hs x hx) ho) (hd w hH hf)) w hH hf
theorem dgf_val {op:Op} (hi:ops[i]? =some ⟨some d,op,ty,pos,af,none⟩) (hd:Nat.blt d n=true) (hS:∀x∈HS,x∈H)
  (hr:∀a w,Sat n e a→(execOp a.eval ⟨some d,op,ty,pos,af,none⟩).run P w=.ok (.value v) w) (k:DGF P ops Q HS nt al n f ((d,v)::e) H r):DGF P ops Q HS nt al n f e H ((i,true)::r):=fun w hH hf a ha=>
 ⟨_,v,hi,.inl ⟨by simp[Region.wanted],fun w _=>hr a w ha⟩,fun x hx ho=>hH.blk (hS x hx) ho,k w hH hf _ (ha.put hd)⟩
theorem dgf_ld {op:Op} (hi:ops[i]? =some ⟨some d,op,ty,pos,af,none⟩) (hd:Nat.blt d n=true) (hS:∀x∈HS,x∈H)
  (hr:∀a w,Sat n e a→Sr HS w→(execOp a.eval ⟨some d,op,ty,pos,af,none⟩).run P w=.ok (.value v) w) (k:DGF P ops Q HS nt al n f ((d,v)::e) H r):DGF P ops Q HS nt al n f e H ((i,true)::r):=fun w hH hf a ha=>
 ⟨_,v,hi,.inl ⟨by simp[Region.wanted],fun w hw=>hr a w ha hw⟩,fun x hx ho=>hH.blk (hS x hx) ho,k w hH hf _ (ha.put hd)⟩
theorem dgf_fork {o oa:Oper} (hi:ops[i]? =some o) (hal:ops[al]? =some oa) (hne:Nat.beq i al=false)
  (h2:∀K:Act→World→Prop,(∀f' e H,(∀x∈HS,x∈H)→DG P ops Q HS nt n f' e H ((i,false)::rmS al r)→NJ K n f' e H)→J P ops (Exit.then K Q) n f e H [oa])
  (h1:∀K:Act→World→Prop,(∀f' e H,(∀x∈HS,x∈H)→DGF P ops Q HS nt al n f' e H r→NJ K n f' e H)→J P ops (Exit.then K Q) n f e H [o]):DGF P ops Q HS nt al n f e H ((i,false)::r):=fun w hH hf a ha=>by
 unfold wpF
 rw[hne]
 exact ⟨op_step hi (h1 _ (fun f' e H hs hd w hH hf a ha=>⟨fun _=>fun x hx ho=>hH.blk (hs x hx) ho,hd w hH hf a ha⟩) w hH hf) ha,op_step hal (h2 _ (fun f' e H hs hd w hH hf a ha=>⟨fun _=>fun x hx ho=>hH.blk (hs x hx) ho,hd w hH hf a ha⟩) w hH hf) ha⟩
theorem dgf_al {oa:Oper} (hal:ops[al]? =some oa)
  (h:∀K:Act→World→Prop,(∀f' e H,(∀x∈HS,x∈H)→DG P ops Q HS nt n f' e H r→NJ K n f' e H)→J P ops (Exit.then K Q) n f e H [oa]):DGF P ops Q HS nt al n f e H ((al,false)::r):=fun w hH hf a ha=>by
 unfold wpF
 rw[Nat.beq_refl,cond_true]
 exact op_step hal (h _ (fun f' e H hs hd w hH hf a ha=>⟨fun _=>fun x hx ho=>hH.blk (hs x hx) ho,hd w hH hf a ha⟩) w hH hf) ha
end
end Go.Fw
namespace Go.Proofs.YtffghbkcomlefaaGreatDoor
open Go Go.Fw Go.Proofs Go.Proofs.Tryz
variable {cs:List Value} {T b l sz:Nat} {z:PProf} {w:World}
theorem MStep.thn {w1 w2:World} {s s1:MS} {l:List Nat} (h:MStep w s w1 s1) (k:KeepX l w1 w2) (hl:∀b∈l,w.heap.size≤b):MStep w s w2 s1:=
 { h with kx:=(h.kx.trans k).drop fun b hb=>(List.mem_append.1 hb).elim .inl fun q=>.inr (hl b q) }
theorem MG.own {w0 w3 w4:World} {x:PProf} {n:Nat} {s s':MS} (h:MG w0 x n w s) (k:MStep w3 s w4 s') (hb:w.heap.size≤b) (hl:b<w3.heap.size):b∉s'.hot∧¬s'.cold b∧b∉s.hot:=by
 have h1:b∉s.hot:=fun hm=>by have:=h.hl b hm;omega
 refine ⟨fun hm=>?_,fun hm=>?_,h1⟩
 ·rcases k.hs b hm with q|q
  ·exact h1 q
  ·omega
 ·rcases k.cs b hm with q|q
  ·have:=(h.cd b q).1;omega
  ·omega
theorem mapLine_c (w0 w:World) (x:PProf) (g:G) (n:Nat) (s:MS) (ln:PLine) (h:MG w0 x n w s) (hX:SrcT w0 x g) (hz:ln.fn<x.funcs.length):
  Calls Tryz.prog 69 #[ptr s.pm,.agg (List.toArray (cLine g.funs ln))] w (Ret fun v w'=>∃(s':MS) (j:Int),v=.agg (List.toArray (cLine s'.funs { ln with fn:=j }))∧MG w0 x n w' s'∧MStep w s w' s'∧(s'.z.locs,s'.jL)=(s.z.locs,s.jL)∧s'.z.mappings=s.z.mappings∧FnR x s'.z ln.fn j):=by
 have fin:∀(w3 w4:World) (b3 b4 b5:Nat) (s':MS) (j:Int),KeepX [] w w3→MG w0 x n w4 s'→MStep w3 s w4 s'→(s'.z.locs,s'.jL)=(s.z.locs,s.jL)→s'.z.mappings=s.z.mappings→FnR x s'.z ln.fn j→(∀b∈[b5,b4,b3],w.heap.size≤b)→(∀b∈[b4,b3],b<w3.heap.size)→(b5<w3.heap.size∨w4.heap.size≤b5)→
   ∀w' L,(∀b∈L,b∈[b5,b4,b3])→KeepX L w4 w'→∃(s'':MS) (j':Int),(.agg (List.toArray [ptrAt s'.funs j,.int .i64 ln.line,.int .u64 0]):Value)=.agg (List.toArray (cLine s''.funs { ln with fn:=j' }))∧MG w0 x n w' s''∧MStep w s w' s''∧(s''.z.locs,s''.jL)=(s.z.locs,s.jL)∧s''.z.mappings=s.z.mappings∧FnR x s''.z ln.fn j':=by
  intro w3 w4 b3 b4 b5 s' j hk g1 g2 g3 g4 g5 hge hlt h5 w' L hL k
  refine ⟨s',j,rfl,g1.keep k fun b hb=>?_,(MStep.after hk g2).thn k fun b hb=>hge b (hL b hb),g3,g4,g5⟩
  have hb':=hL b hb
  by_cases hb4:b∈[b4,b3]
  ·have:=h.own g2 (hge b hb') (hlt b hb4)
   exact ⟨this.1,this.2.1⟩
  ·have e:b=b5:=by
    simp only[List.mem_cons,List.not_mem_nil,or_false]at hb' hb4
    rcases hb' with q|q
    ·exact q
    ·exact absurd q hb4
   subst e
   rcases h5 with q|q
   ·have:=h.own g2 (hge b hb') q
    exact ⟨this.1,this.2.1⟩
   ·exact ⟨fun hm=>by have:=g1.hl b hm;omega,fun hm=>by have:=(g1.cd b hm).1;omega⟩
 refine startJ (args:=[_,_]) [(0,_),(1,_)] 0 [] [] func69 rfl ntmps69 rfl rfl .nil ?_
 refine sQ fun K1=>cj_reg (j_boxA rfl rfl fun b3=>j_allocA (zs:=[(.pointer none),(.int .i64 0),(.int .u64 0)]) zv97 rfl fun b4=>K1 (sQ fun K3=>?_))
 refine cj_drawGF 9 7 (lts [0,1,2,4,5]++(3,false)::(lts [6]++(7,false)::(8,false)::[])) [1] rfl (by kernel_rfl) (by kernel_rfl) ?_
 refine dgf_val rfl rfl (sub_of [1] rfl) (fun _ _ h=>r_move rfl h) ?_
 refine dgf_val rfl rfl (sub_of [1] rfl) (fun _ _ h=>r_fl (q:=0) (ft:=84) ru97 rfl so84 rfl h) ?_
 refine dgf_ld rfl rfl (sub_of [1] rfl) (fun a w ha hS=>r_load ag84 rfl ((hS _ (List.mem_singleton.2 rfl) rfl).cell' rfl) ha) ?_
 refine dgf_val rfl rfl (sub_of [1] rfl) (fun _ _ h=>r_fl (q:=1) (ft:=2) ru97 rfl so2 rfl h) ?_
 refine dgf_ld rfl rfl (sub_of [1] rfl) (fun a w ha hS=>r_load ag2 rfl ((hS _ (List.mem_singleton.2 rfl) rfl).cell' rfl) ha) ?_
 refine dgf_fork rfl rfl rfl (fun K2 hK2=>?_) (fun K2 hK2=>?_)
 ·refine j_allocA (zs:=[(.pointer none),(.int .i64 0),(.int .u64 0)]) zv97 rfl fun b5=>j_nil (ej_then (hK2 _ _ _ (sub_of [2] rfl) ?_));clear hK2 K2
  refine dg_eff rfl fun K2 hK2=>?_
  refine j_callE (R:=fun w3 v w4=>∃(s':MS) (j:Int),v=ptrAt s'.funs j∧MG w0 x n w4 s'∧MStep w3 s w4 s'∧(s'.z.locs,s'.jL)=(s.z.locs,s.jL)∧s'.z.mappings=s.z.mappings∧FnR x s'.z ln.fn j) call84 rfl rfl (fun w3 hH hf=>mapFunction_c w0 w3 x g n s ln.fn (h.keep (KeepX.of hf) (by simp)) hX hz) fun w3 v w4 hH3 hf3 hR=>?_
  obtain ⟨s',j,rfl,g1,g2,g3,g4,g5⟩:=hR
  have q5:=hH3.fresh' (i:=0) rfl rfl
  have q4:=hH3.fresh' (i:=1) rfl rfl
  have q3:=hH3.fresh' (i:=2) rfl rfl
  have z5:=hH3.get (i:=0) rfl rfl
  have z4:=hH3.get (i:=1) rfl rfl
  have z3:=hH3.get (i:=2) rfl rfl
  have n54:b4≠b5:=hH3.2.2.1 rfl _ (List.mem_cons_self ..) rfl
  have n53:b3≠b5:=hH3.2.2.1 rfl _ (List.mem_cons_of_mem _ (List.mem_cons_self ..)) rfl
  have n43:b3≠b4:=hH3.2.2.2.2.2.1 rfl _ (List.mem_cons_self ..) rfl
  have kk:∀{b T:Nat} {cs:List Value},w.heap.size≤b→Blk w3 b T cs→Blk w4 b T cs:=fun hb hk=>g2.kx.blk hk fun hm=>by have:=h.hl _ hm;omega
  refine J.begin ⟨w4,0,[tLine]⟩ (⟨b5,tLine,[.pointer none,.int .i64 0,.int .u64 0],true,true,none⟩::⟨b4,tLine,[.pointer none,.int .i64 0,.int .u64 0],true,true,none⟩::⟨b3,tLine,cLine g.funs ln,true,true,none⟩::restH w4 [b5,b4,b3]) ok_refl ?_ ?_
  ·refine Hp.listL (es:=[⟨b5,tLine,[.pointer none,.int .i64 0,.int .u64 0],true,true,none⟩,⟨b4,tLine,[.pointer none,.int .i64 0,.int .u64 0],true,true,none⟩,⟨b3,tLine,cLine g.funs ln,true,true,none⟩]) ?_ ?_ ?_ ?_
   ·intro q hq
    simp only[List.mem_cons,List.not_mem_nil,or_false]at hq
    rcases hq with rfl|rfl|rfl
    ·exact has_blk (kk q5 z5)
    ·exact has_blk (kk q4 z4)
    ·exact has_blk (kk q3 z3)
   ·intro q hq _ _
    simp only[List.mem_cons,List.not_mem_nil,or_false]at hq
    rcases hq with rfl|rfl|rfl<;>exact ⟨Nat.zero_le _,by show tLine∈_;decide⟩
   ·simp only[List.pairwise_cons,List.mem_cons,List.not_mem_nil,or_false,forall_eq_or_imp,forall_eq,false_imp_iff,implies_true,and_true,List.Pairwise.nil]
    exact ⟨⟨fun _ _=>n54,fun _ _=>n53⟩,fun _ _=>n43⟩
   ·intro q hq _
    simp only[List.mem_cons,List.not_mem_nil,or_false]at hq
    rcases hq with rfl|rfl|rfl<;>simp
  refine j_nil (ej_then (hK2 _ _ _ (sb [2]) ?_));clear hK2 K2
  refine dg_val rfl rfl (sub_of [2] rfl) (fun _ _ h=>r_build (cs:=[_,_,(.int .u64 0)]) bt97 rfl rfl h) ?_
  refine dg_eff rfl fun K2 hK2=>?_
  refine j_storeN (cs':=[_,_,_]) (H':=_) 0 rfl rfl rfl rfl so97 rfl rfl rfl rfl rfl rfl rfl (j_nil (ej_then (hK2 _ _ _ (sb [2]) ?_)));clear hK2 K2
  refine dg_end ?_
  refine K3 (CJ.t [(4,ptr b4),(5,ptr b5)] (k:=?_))
  refine cj_seqF fun K2 hK2=>cj_reg (j_valw rfl (fun a w ha hH hf=>r_ldA (vs:=[_,_,_]) 0 rfl rfl ag97 so97 rfl rfl rfl ha hH) (j_storeN (cs':=[_,_,_]) (H':=_) 1 rfl rfl rfl rfl so97 rfl rfl rfl rfl rfl rfl rfl (j_nil (ej_then (hK2 _ _ _ (CJ.t [(4,ptr b4)] (k:=cj_ret ?_)))))))
  exact ej_ret1C results69 ag97 so97 rfl rfl (fun w' hH hf=>⟨_,hH.get (i:=1) rfl rfl⟩) fun w' hH hf=>fin w3 w4 b3 b4 b5 s' j (KeepX.of hf3) g1 g2 g3 g4 g5 (by simp;exact ⟨q5,q4,q3⟩) (by simp;exact ⟨z4.lt,z3.lt⟩) (.inl z5.lt) w' [b5,b4,b3] (fun b hb=>hb) (Hp.keepL (es:=[_,_,_]) hH hf)
 ·refine j_callE (R:=fun w3 v w4=>∃(s':MS) (j:Int),v=ptrAt s'.funs j∧MG w0 x n w4 s'∧MStep w3 s w4 s'∧(s'.z.locs,s'.jL)=(s.z.locs,s.jL)∧s'.z.mappings=s.z.mappings∧FnR x s'.z ln.fn j) call84 rfl rfl (fun w3 hH hf=>mapFunction_c w0 w3 x g n s ln.fn (h.keep (KeepX.of hf) (by simp)) hX hz) fun w3 v w4 hH3 hf3 hR=>?_
  obtain ⟨s',j,rfl,g1,g2,g3,g4,g5⟩:=hR
  have q4:=hH3.fresh' (i:=0) rfl rfl
  have q3:=hH3.fresh' (i:=1) rfl rfl
  have z4:=hH3.get (i:=0) rfl rfl
  have z3:=hH3.get (i:=1) rfl rfl
  have n43:b3≠b4:=hH3.2.2.1 rfl _ (List.mem_cons_self ..) rfl
  have kk:∀{b T:Nat} {cs:List Value},w.heap.size≤b→Blk w3 b T cs→Blk w4 b T cs:=fun hb hk=>g2.kx.blk hk fun hm=>by have:=h.hl _ hm;omega
  refine J.begin ⟨w4,0,[tLine]⟩ (⟨b4,tLine,[.pointer none,.int .i64 0,.int .u64 0],true,true,none⟩::⟨b3,tLine,cLine g.funs ln,true,true,none⟩::restH w4 [b4,b3]) ok_refl ?_ ?_
  ·refine Hp.listL (es:=[⟨b4,tLine,[.pointer none,.int .i64 0,.int .u64 0],true,true,none⟩,⟨b3,tLine,cLine g.funs ln,true,true,none⟩]) ?_ ?_ ?_ ?_
   ·intro q hq
    simp only[List.mem_cons,List.not_mem_nil,or_false]at hq
    rcases hq with rfl|rfl
    ·exact has_blk (kk q4 z4)
    ·exact has_blk (kk q3 z3)
   ·intro q hq _ _
    simp only[List.mem_cons,List.not_mem_nil,or_false]at hq
    rcases hq with rfl|rfl<;>exact ⟨Nat.zero_le _,by show tLine∈_;decide⟩
   ·simp only[List.pairwise_cons,List.mem_cons,List.not_mem_nil,or_false,forall_eq,false_imp_iff,implies_true,and_true,List.Pairwise.nil]
    exact fun _ _=>n43
   ·intro q hq _
    simp only[List.mem_cons,List.not_mem_nil,or_false]at hq
    rcases hq with rfl|rfl<;>simp
  refine j_nil (ej_then (hK2 _ _ _ (sub_of [1] rfl) ?_));clear hK2 K2
  refine dgf_val rfl rfl (sub_of [1] rfl) (fun _ _ h=>r_build (cs:=[_,_,(.int .u64 0)]) bt97 rfl rfl h) ?_
  refine dgf_al rfl fun K2 hK2=>?_
  refine j_allocA (zs:=[(.pointer none),(.int .i64 0),(.int .u64 0)]) zv97 rfl fun b5=>j_nil (ej_then (hK2 _ _ _ (sub_of [2] rfl) ?_));clear hK2 K2
  refine dg_eff rfl fun K2 hK2=>?_
  refine j_storeN (cs':=[_,_,_]) (H':=_) 0 rfl rfl rfl rfl so97 rfl rfl rfl rfl rfl rfl rfl (j_nil (ej_then (hK2 _ _ _ (sb [2]) ?_)));clear hK2 K2
  refine dg_end ?_
  refine K3 (CJ.t [(4,ptr b4),(5,ptr b5)] (k:=?_))
  refine cj_seqF fun K2 hK2=>cj_reg (j_valw rfl (fun a w ha hH hf=>r_ldA (vs:=[_,_,_]) 0 rfl rfl ag97 so97 rfl rfl rfl ha hH) (j_storeN (cs':=[_,_,_]) (H':=_) 1 rfl rfl rfl rfl so97 rfl rfl rfl rfl rfl rfl rfl (j_nil (ej_then (hK2 _ _ _ (CJ.t [(4,ptr b4)] (k:=cj_ret ?_)))))))
  exact ej_ret1C results69 ag97 so97 rfl rfl (fun w' hH hf=>⟨_,hH.get (i:=1) rfl rfl⟩) fun w' hH hf=>by
   have n5:w4.heap.size≤b5:=by
    rcases Hp.newOr (es:=[_,_]) hH rfl with q|q
    ·simp only[List.mem_cons,List.not_mem_nil,or_false]at q
     rcases q with q|q
     ·exact absurd q.symm (hH.2.2.1 rfl _ (List.mem_cons_self ..) rfl)
     ·exact absurd q.symm (hH.2.2.1 rfl _ (List.mem_cons_of_mem _ (List.mem_cons_self ..)) rfl)
    ·exact q
   have e1:w3.heap.size≤w4.heap.size:=g2.kx.size
   have e2:w.heap.size≤w3.heap.size:=hf3.size
   have e3:w.heap.size≤b5:=Nat.le_trans e2 (Nat.le_trans e1 n5)
   exact fin w3 w4 b3 b4 b5 s' j (KeepX.of hf3) g1 g2 g3 g4 g5 (by simp;exact ⟨e3,q4,q3⟩) (by simp;exact ⟨z4.lt,z3.lt⟩) (.inr n5) w' [b4,b3] (fun b hb=>List.mem_cons_of_mem _ hb) (Hp.keepL (es:=[_,_,_]) hH hf)
def SrcL (x:PProf):Prop:=∀l∈x.locs,(-1≤l.mapping∧l.mapping<x.mappings.length)∧l.lines.length≤60∧(∀n∈l.lines,(-1≤n.fn∧n.fn<x.funcs.length)∧IntKind.i64.wrap n.line=n.line)∧IntKind.u64.wrap l.addr=l.addr
theorem ptrAt_pre {a b:List Nat} {z:Int} (h:a<+:b) (hz:z<a.length):ptrAt b z=ptrAt a z:=by
 obtain ⟨t,rfl⟩:=h
 unfold ptrAt
 split
 ·rw[List.getElem?_append_left (by omega)]
 ·rfl
theorem cLine_pre {a b:List Nat} {n:PLine} (h:a<+:b) (hz:n.fn<a.length):cLine b n=cLine a n:=by
 unfold cLine
 rw[ptrAt_pre h hz]
theorem lines_pre {a b:List Nat} {ms:List PLine} (h:a<+:b) (hz:∀n∈ms,n.fn<a.length):ms.flatMap (cLine b)=ms.flatMap (cLine a):=by
 induction ms with
 |nil=>rfl
 |cons m r ih=>rw[List.flatMap_cons,List.flatMap_cons,cLine_pre h (hz m (List.mem_cons_self ..)),ih fun n hn=>hz n (List.mem_cons_of_mem _ hn)]
theorem lnK_of {x:PProf} {n:PLine} {j:Int} (h:FnR x z n.fn j):lnK z { n with fn:=j }=lnK x n:=by
 unfold lnK atZ
 rcases h with ⟨h1,rfl⟩|⟨h1,h2,m,m',h3,h4,h5⟩
 ·rw[if_neg (show¬(0:Int)≤ -1 by omega),if_neg (by omega)]
 ·rw[if_pos h1,if_pos h2,h3,h4]
  show (some (fnK m'),n.line)=(some (fnK m),n.line)
  rw[h5]
theorem FnR.rng {x:PProf} {i j:Int} (h:FnR x z i j): -1≤j∧j<z.funcs.length:=by
 rcases h with ⟨-,rfl⟩|⟨-,h2,m,m', -,h4, -⟩
 ·omega
 ·have:=(List.getElem?_eq_some_iff.1 h4).1;omega
theorem MpR.rng {x:PProf} {i j o:Int} (h:MpR x z i j o): -1≤j∧j<z.mappings.length:=by
 rcases h with ⟨-,rfl, -⟩|⟨-,h2,m,m', -,h4, -⟩
 ·omega
 ·have:=(List.getElem?_eq_some_iff.1 h4).1;omega
theorem lnK_pre {z':PProf} {n:PLine} (h:z.funcs<+:z'.funcs) (hz:n.fn<z.funcs.length):lnK z' n=lnK z n:=by
 unfold lnK
 rw[atZ_pre h hz]
theorem addr_of {x:PProf} {l:PLoc} {j o A:Int} (h:MpR x z l.mapping j o) (ha:IntKind.u64.wrap l.addr=l.addr) (hA:A=IntKind.u64.wrap (IntKind.i64.wrap (IntKind.i64.wrap l.addr+o))):
  ((atZ z.mappings j).map partK,IntKind.u64.wrap (A - ((atZ z.mappings j).map (·.start)).getD 0))=((atZ x.mappings l.mapping).map partK,IntKind.u64.wrap (l.addr - ((atZ x.mappings l.mapping).map (·.start)).getD 0)):=by
 unfold atZ
 rcases h with ⟨h1,rfl,rfl⟩|⟨h1,h2,m,m',h3,h4,rfl,h6⟩
 ·rw[if_neg (show¬(0:Int)≤ -1 by omega),if_neg (by omega)]
  have:A=l.addr:=by
   rw[hA, ← ha]
   simp only[IntKind.wrap,IntKind.bits,IntKind.signed]
   first|omega|(simp;omega)|simp
  rw[this]
 ·rw[if_pos h1,if_pos h2,h3,h4]
  show (some (partK m'),IntKind.u64.wrap (A - m'.start))=(some (partK m),IntKind.u64.wrap (l.addr - m.start))
  rw[h6,hA]
  congr 1
  simp only[IntKind.wrap,IntKind.bits,IntKind.signed]
  first|omega|(simp;omega)|simp
theorem Own.full (h:cs.length=l*sz):Own T sz ⟨b,T,cs,true,true,none⟩ (some ⟨b,0,none⟩) l l cs:=⟨rfl,rfl,rfl,h,Nat.le_refl _,.inl ⟨rfl,rfl,⟨[],by simp⟩,h⟩⟩
theorem OS.full (hb:Blk w b T cs) (h:cs.length=l*sz):OS T sz w (.slice (some ⟨b,0,none⟩) l l) cs:=⟨_,_,_,_,rfl,Own.full h,fun _=>hb⟩
def rowC (L:List Value) (r:Nat):List Value:=L++(List.replicate r [.pointer none,.int .i64 0,.int .u64 0]).flatten
theorem rowC_len {L:List Value} {r:Nat}:(rowC L r).length=L.length+r*3:=by
 unfold rowC
 rw[List.length_append]
 congr 1
 induction r with
 |zero=>rfl
 |succ r ih=>rw[List.replicate_succ,List.flatten_cons,List.length_append,ih];simp;omega
theorem setL_apps:∀(v u A r:List Value),u.length=v.length→setL (A++(u++r)) A.length v=A++(v++r)
 |[],u,A,r,h=>by rw[List.eq_nil_of_length_eq_zero h];rfl
 |b::v,[],A,r,h=>by simp at h
 |b::v,a::u,A,r,h=>by
    have hs:(A++(a::(u++r))).set A.length b=(A++[b])++(u++r):=by
     rw[List.set_append_right _ _ (Nat.le_refl _)];simp
    have ih:=setL_apps v u (A++[b]) r (by simpa using h)
    rw[setL,List.cons_append,hs,show A.length+1=(A++[b]).length by simp,ih];simp
theorem rowC_step {L:List Value} {r:Nat} {v:List Value} (h:v.length=3):setL (rowC L (r+1)) L.length v=rowC (L++v) r:=by
 unfold rowC
 rw[List.replicate_succ,List.flatten_cons,setL_apps v _ L _ (by rw[h];rfl),List.append_assoc]
theorem make_three {z a b c:Value} (h:z.cells= #[a,b,c]):∀n:Nat,(List.range (n*3)).map (fun i=>z.cells[i%z.cells.size]!)=(List.replicate n [a,b,c]).flatten
 |0=>rfl
 |n+1=>by
    have ih:=make_three h n
    rw[show (n+1)*3=n*3+1+1+1 by omega,List.range_succ,List.range_succ,List.range_succ,List.replicate_succ',List.flatten_append, ← ih,h]
    simp only[List.map_append,List.map_cons,List.map_nil,List.append_assoc]
    rw[show (#[a,b,c]:Array Value).size=3 from rfl,Nat.mul_mod_left,show (n*3+1)%3=1 by omega,show (n*3+1+1)%3=2 by omega]
    rfl
theorem Hp.ro2 {f:Fm} {c U:Nat} {ds:List Value} (hb:Blk w b T cs) (hc:Blk w c U ds) (h:b≠c):Hp f w [⟨b,T,cs,false,true,none⟩,⟨c,U,ds,false,true,none⟩]:=
 ⟨has_blk hb,fun _ h=>(by cases h),fun _ z hz _=>(by rw[List.mem_singleton.1 hz];exact h.symm),has_blk hc,fun _ h=>(by cases h),fun _ z hz=>(by cases hz),trivial⟩
theorem plK_same {z':PProf} {l:PLoc} (h1:z'.mappings=z.mappings) (h2:z'.funcs=z.funcs):plK z' l=plK z l:=by
 unfold plK
 rw[h1,show lnK z'=lnK z from funext fun n=>by unfold lnK;rw[h2]]
theorem MStep.out {w3 w4:World} {s s':MS} (k:MStep w3 s w4 s') (h1:b∉s.hot) (h2:¬s.cold b) (hl:b<w3.heap.size):b∉s'.hot∧¬s'.cold b:=
 ⟨fun hm=>(k.hs b hm).elim h1 fun q=>by omega,fun hm=>(k.cs b hm).elim h2 fun q=>by omega⟩
theorem prefix_same {a b:List Nat} (h:a<+:b) (hl:a.length=b.length):b=a:=by
 obtain ⟨t,rfl⟩:=h
 simp at hl
 simp[hl]
abbrev nLoc (id:Nat) (p:Value) (A:Int) (b n:Nat):List Value:=[.int .u64 ((id:Int)+1),p,.int .u64 A,.slice (some ⟨b,0,none⟩) n n,.bool false,.int .u64 0]
set_option maxHeartbeats 8000000 in
theorem mapLocation_c (w0 w:World) (x:PProf) (g:G) (n:Nat) (s:MS) (z b:Nat) (h:MG w0 x n w s) (hX:SrcT w0 x g) (hXL:SrcL x) (hD:Db w0) (hb:g.locs[z]? =some b):
  Calls Tryz.prog 53 #[ptr s.pm,ptr b] w (Ret fun v w'=>∃(s':MS) (j b':Nat) (l l':PLoc),v=ptr b'∧s'.locs[j]? =some b'∧MG w0 x n w' s'∧MStep w s w' s'∧x.locs[z]? =some l∧s'.z.locs[j]? =some l'∧plK s'.z l'=plK x l):=by
 have hzl:z<x.locs.length:=by have:=(List.getElem?_eq_some_iff.1 hb).1;rw[hX.of.locs.1]at this;exact this
 obtain ⟨l,hl⟩:∃l,x.locs[z]? =some l:=⟨_,List.getElem?_eq_getElem hzl⟩
 obtain ⟨⟨hmr1,hmr2⟩,hl60,hln,hla⟩:=hXL l (List.mem_of_getElem? hl)
 obtain ⟨lsv,hst0,hls0⟩:=(hX.of.locs.2 _ _ _ hb hl).ex
 obtain ⟨pL,lL,cL,rfl,hlL, -, -⟩:=hls0.openF
 obtain rfl:lL=l.lines.length:=by rw[flatMap_len (c:=cLine g.funs) (sz:=3) (fun _=>rfl)]at hlL;omega
 have hcs:=mc (f:=⟨w,0,[1000000]⟩) (h.kp _ _ hst0) rfl
 have hcp:=mc (f:=⟨w,0,[1000000]⟩) h.bpm rfl
 obtain ⟨e1,k1,hmI,hM1⟩:=h.uL
 have hjl:=h.jl
 have hnx:=hX.nl
 have hbl:=h.bL
 have hHp:Hp ⟨w,0,[1000000]⟩ w (mpE s.iL e1 k1::restH w [s.iL]):=by
  refine Hp.listL (es:=[mpE s.iL e1 k1]) ?_ ?_ ?_ ?_
  ·intro q hq;obtain rfl:=List.mem_singleton.1 hq;exact has_map hmI
  ·intro q hq _ _;obtain rfl:=List.mem_singleton.1 hq;exact ⟨Nat.zero_le _,by show 1000000∈_;decide⟩
  ·exact List.pairwise_singleton _ _
  ·intro q hq _;obtain rfl:=List.mem_singleton.1 hq;simp
 have hA:∀w',Hp ⟨w,0,[1000000]⟩ w' (mpE s.iL e1 k1::restH w [s.iL])→Fm.ok ⟨w,0,[1000000]⟩ w'→KeepX [] w w':=fun w' hH hf=>KeepX.same (Hp.keepL (es:=[mpE s.iL e1 k1]) hH hf) fun b hb=>by
  rw[List.mem_singleton.1 hb]
  refine .inr fun o ho=>?_
  rw[hmI]at ho
  cases ho
  exact hH.obj (i:=0) rfl rfl
 obtain ⟨pv,hlk⟩:∃pv,(mget s.jL l.id).getD (.pointer none)=.pointer pv:=by
  cases hg:mget s.jL l.id with
  |none=>exact ⟨_,rfl⟩
  |some u=>
   obtain ⟨_,_,_,_,_, -, -, -, -,rfl, -⟩:=h.rL _ _ hg
   exact ⟨_,rfl⟩
 refine startJ (args:=[_,_]) [(0,_),(1,_)] 0 [1000000] _ func53 rfl ntmps53 rfl rfl hHp ?_
 refine sQ fun K1=>cj_reg (jA (k:=K1 ?_))
 refine cj_seqF fun K2 hK2=>sQ fun K3=>cj_reg (jM (k:=?_))
 refine j_val rfl (fun _ _ h=>r_pneql ud90 rfl h) (K3 (cj_if_f rfl (cj_skip (ej_then (hK2 _ _ _ (sQ fun K4=>sQ fun K5=>?_))))))
 refine cj_drawT 14 (lts [0,1,2,3,4,5,6,7,8,9,10,11,12,13]) [] rfl (fun w=>w.heap[s.iL]? =some (.map e1.toArray k1)) (by kernel_rfl) (by kernel_rfl) ?_
 refine dj_valT rfl rfl (sub_of [] rfl) (fun w hH hf=>hH.obj (i:=0) rfl rfl) (fun _ _ h=>r_move rfl h) (dj_valT rfl rfl (sub_of [] rfl) (fun w hH hf=>hH.obj (i:=0) rfl rfl) (fun _ _ h=>r_nil rfl h) (dj_valT rfl rfl (sub_of [] rfl) (fun w hH hf=>hH.obj (i:=0) rfl rfl) (fun _ _ h=>r_fl (q:=1) (ft:=111) ru115 rfl so111 rfl h) (dj_ldT rfl rfl (sub_of [] rfl) (fun w hH hf=>hH.obj (i:=0) rfl rfl) (fun a w ha hS=>r_load ag111 rfl (hcp w (hS.2) 1 _ rfl) ha) (dj_valT rfl rfl (sub_of [] rfl) (fun w hH hf=>hH.obj (i:=0) rfl rfl) (fun _ _ h=>r_move rfl h) (dj_valT rfl rfl (sub_of [] rfl) (fun w hH hf=>hH.obj (i:=0) rfl rfl) (fun _ _ h=>r_nil rfl h) (dj_valT rfl rfl (sub_of [] rfl) (fun w hH hf=>hH.obj (i:=0) rfl rfl) (fun _ _ h=>r_fl (q:=0) (ft:=76) ru93 rfl so76 rfl h) (dj_ldT rfl rfl (sub_of [] rfl) (fun w hH hf=>hH.obj (i:=0) rfl rfl) (fun a w ha hS=>r_load ag76 rfl (hcs w (hS.2) 0 _ rfl) ha) ?_)))))))
 refine dj_lkT rfl rfl (sub_of [] rfl) (fun w hH hf=>hH.obj (i:=0) rfl rfl) (fun a w ha hT=>(r_look2W (k:=l.id) ru111 keyId hM1 zv90 rfl rfl ha hT).trans (by rw[hlk])) ?_
 refine dj_valT rfl rfl (sub_of [] rfl) (fun w hH hf=>hH.obj (i:=0) rfl rfl) (fun _ _ h=>r_move rfl h) (dj_valT rfl rfl (sub_of [] rfl) (fun w hH hf=>hH.obj (i:=0) rfl rfl) (fun _ _ h=>r_extract rfl rfl h) (dj_valT rfl rfl (sub_of [] rfl) (fun w hH hf=>hH.obj (i:=0) rfl rfl) (fun _ _ h=>r_extract rfl rfl h) (dj_valT rfl rfl (sub_of [] rfl) (fun w hH hf=>hH.obj (i:=0) rfl rfl) (fun _ _ h=>r_assign rfl h) (dj_valT rfl rfl (sub_of [] rfl) (fun w hH hf=>hH.obj (i:=0) rfl rfl) (fun _ _ h=>r_assign rfl h) (K5 (CJ.t [(0,_),(1,_),(5,_),(6,_)] (k:=sQ fun K6=>cj_reg (jM (k:=K6 ?_)))))))))
 refine cj_if rfl (fun h28=>?_) (fun h28=>?_)
 ·obtain ⟨u,hu⟩:=Option.isSome_iff_exists.1 h28
  obtain ⟨i,j,bj,mi,mj,q1,q2,q3,q4,q5,q6⟩:=h.rL _ _ hu
  have ei:mi=l:=by
   have h1:=(List.getElem?_eq_some_iff.1 q1).1
   have h2:i=z:=nodup_ix hX.idl (by simpa using h1) (by simpa using hzl) (by
    rw[List.getElem_map,List.getElem_map,(List.getElem?_eq_some_iff.1 q1).2,(List.getElem?_eq_some_iff.1 hl).2];exact q2)
   rw[h2,hl]at q1
   exact (Option.some.inj q1).symm
  rw[ei]at q6
  rw[hu,q5,Option.getD_some]at hlk
  have epv:pv=some ⟨bj,0,none⟩:=by cases hlk;rfl
  subst epv
  refine sQ fun K7=>cj_drawI 9 (lts [0,1,2,3,4,5,6,7,8]++(9,false)::[]) [] rfl (by kernel_rfl) (by kernel_rfl) (dM [] (k:=dN [] (k:=dF [] 1 ru115 so111 (k:=dL [] ag111 hcp 1 (k:=dM [] (k:=dN [] (k:=dF [] 0 ru93 so76 (k:=dL [] ag76 hcs 0 (k:=dM [] (k:=dE (h:=fun Kd=>?_)))))))))))
  refine j_mapupd (k:=l.id) 0 rfl ru111 keyId hM1 rfl rfl rfl (fun _ _ _=>⟨fun _ _=>trivial,trivial⟩) fun es' ck' hM'=>?_
  refine Kd (.inl rfl) (K7 (CJ.t [(5,_)] (k:=sQ fun K8=>cj_reg (jM (k:=jA (k:=K8 (cj_ret ?_)))))))
  first
  |exact ej_ret1 results53 rfl fun w' hH hf=>by
     have hk:=Hp.keepL (f:=⟨w,0,[1000000]⟩) (w:=w) (L:=[s.iL]) (es:=[mpE s.iL es' ck']) hH hf
     obtain ⟨g1,g2⟩:=h.setL hk ⟨_,_,hH.obj (i:=0) rfl rfl,hM'⟩ ⟨z,j,bj,l,mj,hl,rfl,q3,q4,rfl,q6⟩
     exact ⟨{ s with jL:=mset s.jL l.id (ptr bj) },j,bj,l,mj,rfl,q3,g1,g2,hl,q4,q6⟩
  |exact ej_ret1 results53 rfl fun w' hH hf=>by
     have hk:=hB3 w' _ _ hH.2.2.2 hf
     obtain ⟨r1,r2⟩:=hMv.setL hk ⟨_,_,hH.obj (i:=3) rfl rfl,hM'⟩ ⟨z,j,bj,l,mj,hl,rfl,hbj,hmj,rfl,hpj⟩
     exact ⟨{ s2 with jL:=mset s2.jL l.id (ptr bj) },j,bj,l,mj,rfl,hbj,r1,hSv.trans r2,hl,hmj,hpj⟩
  |exact ej_ret1 results53 rfl fun w' hH hf=>by
     have kL:=Hp.keepL (f:=⟨v,0,[tProf,pLoc,1000000]⟩) (w:=v) (L:=[s2.pb,s2.iL,s2.mL]++rowL y) (es:=[_,_,_,_,_]) hH hf
     have y77:=kL.blk hb77 (pairs_ne hb77 hpb hmI2 hmL2 (fun ho=>(hy ho).1) (by decide) (by decide))
     have y71:=kL.blk hb71 (pairs_ne hb71 hpb hmI2 hmL2 (fun ho=>(hy ho).1) (by decide) (by decide))
     have hNN:∀c,(c=b77∨c=b71)→w.heap.size≤c∧c<w'.heap.size∧c∉rowL y148∧c∉s2.hot:=fun c hc=>by
      have h1:=g2'.kx.size
      rcases hc with rfl|rfl
      ·exact ⟨by omega,y77.lt,fun hm=>by obtain ⟨ho,e⟩:=mem_rowL' hm;have:=hH.get (i:=1) rfl ho;rw[hO148.hT, ← e]at this;exact absurd rfl (y77.ne this (by decide)),ho77.1⟩
      ·exact ⟨by omega,y71.lt,fun hm=>by obtain ⟨ho,e⟩:=mem_rowL' hm;have:=hH.get (i:=1) rfl ho;rw[hO148.hT, ← e]at this;exact absurd rfl (y71.ne this (by decide)),ho71.1⟩
     obtain ⟨s',r1,r2,r3,r4,r5,r6⟩:=hMv.newL (y':=y148) (c:=c) (p:=p) (i:=z) (m:=l) (m2:=l2) (bn:=b77) (N:=fun c=>c=b77∨c=b71) rfl kL hpb hsa hy hma hfu (hH.get (i:=2) rfl rfl) hO148
      (fun ho=>by have:=hH.get (i:=1) rfl ho;rw[hO148.hT]at this;exact this)
      (fun ho=>Hp.newOr (es:=[_,_,_]) hH.2.2.2 (by simp[Ent.ex,ho])) hSv hnotin hNN (fun w'' k=>⟨_,by rw[hl2,hmps];exact k b77 _ (.inl rfl) y77,by rw[hl2];exact OS.full (k b71 _ (.inr rfl) y71) (by rw[hfm])⟩) hz2 rfl hpl ⟨_,_,hH.obj (i:=3) rfl rfl,hM'⟩ ⟨_,_,hH.obj (i:=4) rfl rfl,hM2'⟩ hl hno2
     exact ⟨s',s2.locs.length,b77,l,l2,rfl,by rw[r3];exact get_last rfl,r1,r2,hl,by rw[r4];exact get_last hle2,(plK_same r6 r5).trans hpl⟩
 ·have hno:mget s.jL l.id=none:=by
   cases hc:mget s.jL l.id with
   |none=>rfl
   |some v=>rw[hc]at h28;cases h28
  refine cj_skip (K4 (sQ fun K9=>cj_reg (jM (k:=jM (k:=jN (k:=jF 1 ru93 so79 (k:=jL ag79 hcs 1 (k:=?_))))))))
  refine j_callE (R:=fun w1 v w2=>∃(s1:MS) (j o:Int),v=.agg (List.toArray [ptrAt s1.maps j,.int .i64 o])∧MG w0 x n w2 s1∧MStep w1 s w2 s1∧(s1.z.locs,s1.jL)=(s.z.locs,s.jL)∧s1.z.funcs=s.z.funcs∧MpR x s1.z l.mapping j o) call33 rfl rfl (fun w1 hH hf=>mapMapping_c w0 w1 x g n s l.mapping (h.keep (hA w1 hH hf) (by simp)) hX hmr2) fun w1 v w2 hH1 hf1 hR=>?_
  obtain ⟨s1,jm,o,rfl,g1,g2,g3,g4,g5⟩:=hR
  have g2':MStep w s w2 s1:=MStep.after (hA w1 hH1 hf1) g2
  have hcs:=mc (f:=⟨w2,0,[]⟩) (g1.kp _ _ hst0) rfl
  have hcp:=mc (f:=⟨w2,0,[]⟩) g1.bpm rfl
  rw[g2.pm]at hcp
  obtain ⟨sa,ma,lo,fu,hpb1, -, -,hlo1, -⟩:=g1.prof
  obtain ⟨qo,co,rfl⟩:=hlo1.len
  rw[List.length_map]at hpb1
  have hcb:=mc (f:=⟨w2,0,[]⟩) hpb1 rfl
  have hll:s1.locs.length=s1.z.locs.length:=g1.oL.1
  have hbl1:=g1.bL
  have hjl1:=g1.jl
  obtain ⟨pmm,hpmm⟩:∃p,ptrAt s1.maps jm=.pointer p:=⟨_,rfl⟩
  rw[hpmm]
  have hid:IntKind.u64.wrap (IntKind.i64.wrap ((s1.locs.length:Int)+1))=(s1.locs.length:Int)+1:=by
   simp only[IntKind.wrap,IntKind.bits,IntKind.signed]
   simp;omega
  refine J.begin ⟨w2,0,[]⟩ [] ok_refl .nil ?_
  refine j_allocA (zs:=[(.pointer none),(.int .i64 0)]) zv117 rfl fun b7=>jB [_,_] [_] 0 so117 (k:=K9 (sQ fun K10=>?_))
  refine cj_drawI 34 (lts [0,1,2,3,4,5,6,7,8,9,10,11,12,13,14,15,16,17,18,19,20,21,22,23,24,25,27,28,29,30]++(26,false)::(lts [31]++(32,false)::lts [33])) [0] rfl (by kernel_rfl) (by kernel_rfl) (dM [0] (k:=dN [0] (k:=dF [0] 0 ru115 so42 (k:=dL [0] ag42 hcp 0 (k:=dN [0] (k:=dF [0] 4 ru75 so72 (k:=dL [0] ag72 hcb 4 (k:=?_))))))))
  refine dj_val rfl rfl (sub_of [0] rfl) (fun _ _ h=>r_len ru72 rfl h) (dj_val rfl rfl (sub_of [0] rfl) (fun _ _ h=>r_add rfl rfl h) (dj_val rfl rfl (sub_of [0] rfl) (fun _ _ h=>r_conv ru3 ru76 rfl h) (dF [0] 0 ru117 so79 (k:=dH [0] 0 ag79 (k:=dM [0] (k:=dN [0] (k:=dF [0] 2 ru93 so76 (k:=dL [0] ag76 hcs 2 (k:=?_)))))))))
  refine dj_val rfl rfl (sub_of [0] rfl) (fun _ _ h=>r_conv ru76 ru2 rfl h) (dF [0] 1 ru117 so2 (k:=dH [0] 0 ag2 (k:=?_)))
  refine dj_val rfl rfl (sub_of [0] rfl) (fun _ _ h=>r_add rfl rfl h) (dj_val rfl rfl (sub_of [0] rfl) (fun _ _ h=>r_conv ru2 ru76 rfl h) (dM [0] (k:=dN [0] (k:=dF [0] 3 ru93 so91 (k:=dL [0] ag91 hcs 3 (k:=?_))))))
  refine dj_val rfl rfl (sub_of [0] rfl) (fun _ _ h=>r_len ru91 rfl h) (dM [0] (k:=dN [0] (k:=dF [0] 4 ru93 so4 (k:=dL [0] ag4 hcs 4 (k:=dE (h:=fun Kd=>?_))))))
  refine j_make (l:=l.lines.length) ru91 el97 rfl rfl rfl (Nat.le_refl _) (by omega) rfl fun b71 cs71 _ hcs71=>?_
  replace hcs71:cs71=rowC [] l.lines.length:=(hcs71 _ zv97).trans (make_three rfl _)
  subst hcs71
  refine Kd (sb [1]) (dj_val rfl rfl (sub_of [1] rfl) (fun _ _ h=>r_build (cs:=[_,_,_,_,_,(.int .u64 0)]) bt93 rfl rfl h) (dE (h:=fun Kd=>j_boxA (vs:=[_,_,_,_,_,_]) rfl rfl fun b77=>Kd (sb [2]) (dA [2] (k:=K10 (CJ.t [(0,_),(1,_),(8,_)] (k:=sQ fun K11=>sQ fun K12=>cj_reg (jM (k:=jN (k:=jF 3 ru93 so91 (k:=?_)))))))))))
  refine jL ag91 hcs 3 (k:=jE ru91 (k:=jM (k:=K12 (cj_block ?_))))
  intro v5 hH5 hf5
  obtain ⟨A,hAe⟩:∃A,A=IntKind.u64.wrap (IntKind.i64.wrap (IntKind.i64.wrap l.addr+o)):=⟨_,rfl⟩
  have hb77:=hH5.get (i:=0) rfl rfl
  rw[← hAe, ← hpmm,hid]at hb77
  have hb71:=hH5.get (i:=1) rfl rfl
  have hn77:w2.heap.size≤b77:=hH5.fresh' (i:=0) rfl rfl
  have hn71:w2.heap.size≤b71:=hH5.fresh' (i:=1) rfl rfl
  have hne:b77≠b71:=fun e=>Blk.ne hb77 hb71 (show tLoc≠tLine by decide) e
  have hk5:KeepX [] w2 v5:=KeepX.of hf5
  have hM5:MG w0 x n v5 s1:=g1.keep hk5 (by simp)
  clear hH5
  refine c_loop (σ:=Nat×MS×List PLine) (fun q=>[(0,ptr s.pm),(1,ptr b),(8,ptr b77),(81,.slice pL l.lines.length cL),(82,.int .i64 (l.lines.length:Nat)),(83,.int .i64 (q.1:Nat))])
   (fun q u=>q.1≤l.lines.length∧MG w0 x n u q.2.1∧MStep w2 s1 u q.2.1∧(q.2.1.z.locs,q.2.1.jL)=(s1.z.locs,s1.jL)∧q.2.1.z.mappings=s1.z.mappings∧(∀m∈q.2.2,(-1≤m.fn∧m.fn<q.2.1.z.funcs.length)∧IntKind.i64.wrap m.line=m.line)∧q.2.2.map (lnK q.2.1.z)=(l.lines.take q.1).map (lnK x)∧q.2.2.length=q.1∧Blk u b77 tLoc [.int .u64 ((s1.locs.length:Int)+1),ptrAt s1.maps jm,.int .u64 A,.slice (some ⟨b71,0,none⟩) l.lines.length l.lines.length,.bool false,.int .u64 0]∧
    Blk u b71 tLine (rowC (q.2.2.flatMap (cLine q.2.1.funs)) (l.lines.length - q.1))∧(b77∉q.2.1.hot∧¬q.2.1.cold b77)∧(b71∉q.2.1.hot∧¬q.2.1.cold b71))
   (fun q=>l.lines.length - q.1) (0,s1,[]) ⟨rfl,rfl,rfl,rfl,rfl,rfl,trivial⟩
   ⟨Nat.zero_le _,hM5,MStep.refl.thn hk5 (by simp),rfl,rfl,fun m hm=>(by cases hm),rfl,rfl,hb77,hb71,⟨fun hm=>by have:=g1.hl _ hm;omega,fun hm=>by have:=(g1.cd _ hm).1;omega⟩,⟨fun hm=>by have:=g1.hl _ hm;omega,fun hm=>by have:=(g1.cd _ hm).1;omega⟩⟩ ?_
  clear hb77 hb71 hM5
  rintro ⟨k,s2,ms⟩ u ⟨hk,hMu,hSu,hlo2,hma2,hms,hmk,hml,hb77,hb71,ho77,ho71⟩ KL hKL
  try dsimp only at hk hMu hSu hlo2 hma2 hms hmk hml hb71 hb77 ho77 ho71
  have hpm2:s2.pm=s.pm:=hSu.pm.trans g2.pm
  have hfm:(ms.flatMap (cLine s2.funs)).length=k*3:=by rw[flatMap_len (c:=cLine s2.funs) (sz:=3) (fun _=>rfl),hml]
  refine C.begin ⟨u,0,[]⟩ [⟨b77,tLoc,nLoc s1.locs.length (ptrAt s1.maps jm) A b71 l.lines.length,false,true,none⟩,⟨b71,tLine,_,false,true,none⟩] ok_refl (Hp.ro2 hb77 hb71 hne) ?_
  have hcs:=mc (f:=⟨u,0,[]⟩) (hMu.kp _ _ hst0) rfl
  refine CJ.t [(0,_),(1,_),(8,_),(81,_),(82,_),(83,.int .i64 (k:Nat))] (k:=sQ fun K13=>cj_reg (jS (k:=K13 (sQ fun K14=>?_))))
  refine cj_dec rfl (fun h84=>?_) (fun h84=>?_)
  ·have hk':k<l.lines.length:=by omega
   obtain ⟨⟨hfn1,hfn2⟩,hlw⟩:=hln _ (List.getElem_mem hk')
   obtain ⟨pq,lq,cq,eq, -, -,hLx⟩:=(hls0.mono fun b cs hb=>hMu.kp _ _ hb).openF
   cases eq
   obtain ⟨bl,rfl,hlc⟩:=hLx (by omega)
   obtain ⟨pf,hpf⟩:∃p,ptrAt g.funs l.lines[k].fn=.pointer p:=⟨_,rfl⟩
   have hcr:∀w',Fm.ok ⟨u,0,[]⟩ w'→∀(i:Nat) (v:Value),(cLine g.funs l.lines[k])[i]? =some v→w'.cell? ⟨bl,0+k*3+i,none⟩=some v:=fun w' hf i v hv=>by rw[Nat.zero_add];exact hlc ⟨u,0,[]⟩ rfl rfl w' hf _ _ (flatMap_get (c:=cLine g.funs) (sz:=3) (fun _=>rfl) (List.getElem?_eq_getElem hk') i v hv)
   refine cj_skip (K14 (sQ fun K15=>cj_block (sQ fun K16=>cj_reg (jM (k:=jJ ru91 so97 (k:=?_))))))
   refine j_valw rfl (fun a w ha hH hf=>r_loadA (vs:=cLine g.funs l.lines[k]) ag97 so97 rfl rfl (hcr w hf) ha) (j_allocA (zs:=[(.pointer none),(.int .i64 0),(.int .u64 0)]) zv97 rfl fun b10=>jA (k:=jB [_,_,_] [_,_,_] 0 so97 (k:=K16 ?_)))
   refine cj_drawG 8 (lts [0,1,2,3,4,5,6]++(7,false)::(8,false)::(9,false)::[]) [0,1] rfl (by kernel_rfl) (by kernel_rfl) ?_
   refine dg_val rfl rfl (sub_of [0,1] rfl) (fun _ _ h=>r_move rfl h) ?_
   refine dg_val rfl rfl (sub_of [0,1] rfl) (fun _ _ h=>r_nil rfl h) ?_
   refine dg_val rfl rfl (sub_of [0,1] rfl) (fun _ _ h=>r_fl (q:=3) (ft:=91) ru93 rfl so91 rfl h) ?_
   refine dg_ld rfl rfl (sub_of [0,1] rfl) (fun a w ha hS=>r_load ag91 rfl ((hS _ (List.mem_cons_of_mem _ (List.mem_singleton.2 rfl)) rfl).cell' rfl) ha) ?_
   refine dg_val rfl rfl (sub_of [0,1] rfl) (fun _ _ h=>r_move rfl h) ?_
   refine dg_val rfl rfl (sub_of [0,1] rfl) (fun _ _ h=>r_move rfl h) ?_
   refine dg_ld rfl rfl (sub_of [0,1] rfl) (fun a w ha hS=>r_loadA (vs:=cLine g.funs l.lines[k]) ag97 so97 rfl rfl (hS _ (List.mem_cons_self ..) rfl).cells ha) ?_
   refine dg_eff rfl fun K2 hK2=>?_
   refine j_callE (R:=fun w3 v w4=>∃(s3:MS) (j:Int),v=.agg (List.toArray (cLine s3.funs { l.lines[k]with fn:=j }))∧MG w0 x n w4 s3∧MStep w3 s2 w4 s3∧(s3.z.locs,s3.jL)=(s2.z.locs,s2.jL)∧s3.z.mappings=s2.z.mappings∧FnR x s3.z l.lines[k].fn j) call69 rfl rfl (fun w3 hH hf=>by
    have:=mapLine_c w0 w3 x g n s2 l.lines[k] (hMu.keep (KeepX.of hf) (by simp)) hX hfn2
    rw[hpm2]at this
    exact this) fun w3 v w4 hH3 hf3 hR=>?_
   obtain ⟨s3,j,rfl,q1,q2,q3,q4,q5⟩:=hR
   have z10:=hH3.get (i:=0) rfl rfl
   have f10:u.heap.size≤b10:=hH3.fresh' (i:=0) rfl rfl
   have n77:b77≠b10:=hH3.2.2.1 rfl _ (List.mem_cons_self ..) rfl
   have n71:b71≠b10:=hH3.2.2.1 rfl _ (List.mem_cons_of_mem _ (List.mem_cons_self ..)) rfl
   have l77:b77<w3.heap.size:=Nat.lt_of_lt_of_le hb77.lt hf3.size
   have l71:b71<w3.heap.size:=Nat.lt_of_lt_of_le hb71.lt hf3.size
   have o10:=hMu.own q2 f10 z10.lt
   have p77:=q2.out ho77.1 ho77.2 l77
   have p71:=q2.out ho71.1 ho71.2 l71
   have y10:=q2.kx.blk z10 o10.2.2
   have y77:=q2.kx.blk (KeepX.blk (KeepX.of hf3) hb77 (by simp)) ho77.1
   have y71:=q2.kx.blk (KeepX.blk (KeepX.of hf3) hb71 (by simp)) ho71.1
   have hSx:MStep w2 s1 w4 s3:=hSu.trans (MStep.after (KeepX.of hf3) q2)
   refine J.begin ⟨w4,0,[tLine]⟩ (⟨b10,tLine,cLine g.funs l.lines[k],true,true,none⟩::⟨b77,tLoc,nLoc s1.locs.length (ptrAt s1.maps jm) A b71 l.lines.length,false,true,none⟩::⟨b71,tLine,rowC (ms.flatMap (cLine s2.funs)) (l.lines.length - k),true,true,none⟩::restH w4 [b10,b77,b71]) ok_refl ?_ ?_
   ·refine Hp.listL (es:=[⟨b10,tLine,cLine g.funs l.lines[k],true,true,none⟩,⟨b77,tLoc,nLoc s1.locs.length (ptrAt s1.maps jm) A b71 l.lines.length,false,true,none⟩,⟨b71,tLine,rowC (ms.flatMap (cLine s2.funs)) (l.lines.length - k),true,true,none⟩]) ?_ ?_ ?_ ?_
    ·intro q hq
     simp only[List.mem_cons,List.not_mem_nil,or_false]at hq
     rcases hq with rfl|rfl|rfl
     ·exact has_blk y10
     ·exact has_blk y77
     ·exact has_blk y71
    ·intro q hq _ hw
     simp only[List.mem_cons,List.not_mem_nil,or_false]at hq
     rcases hq with rfl|rfl|rfl
     ·exact ⟨Nat.zero_le _,by show tLine∈_;decide⟩
     ·cases hw
     ·exact ⟨Nat.zero_le _,by show tLine∈_;decide⟩
    ·simp only[List.pairwise_cons,List.mem_cons,List.not_mem_nil,or_false,forall_eq_or_imp,forall_eq,false_imp_iff,implies_true,and_true,List.Pairwise.nil]
     exact ⟨⟨fun _ _=>n77,fun _ _=>n71⟩,fun _ _=>hne.symm⟩
    ·intro q hq _
     simp only[List.mem_cons,List.not_mem_nil,or_false]at hq
     rcases hq with rfl|rfl|rfl<;>simp
   refine j_nil (ej_then (hK2 _ _ _ (sb [0,1]) ?_));clear hK2 K2
   refine dg_eff rfl fun K2 hK2=>?_
   refine jJ ru91 so97 (k:=j_nil (ej_then (hK2 _ _ _ (.inl rfl) ?_)));clear hK2 K2
   refine dg_eff rfl fun K2 hK2=>?_
   refine j_storeN (cs':=rowC (ms.flatMap (cLine s2.funs)++cLine s3.funs { l.lines[k]with fn:=j }) (l.lines.length - (k+1))) (H':=_) (o:=0+k*3) 2 rfl rfl rfl rfl so97 rfl rfl rfl rfl (Nat.ble_eq_true_of_le (by show 0+k*3+3≤(rowC (ms.flatMap (cLine s2.funs)) (l.lines.length - k)).length;rw[rowC_len,hfm];omega)) (by
    show setL (rowC (ms.flatMap (cLine s2.funs)) (l.lines.length - k)) (0+k*3) (cLine s3.funs { l.lines[k]with fn:=j })=_
    rw[Nat.zero_add, ← hfm,show l.lines.length - k=(l.lines.length - (k+1))+1 by omega]
    exact rowC_step rfl) rfl ?_
   refine j_nil (ej_then (hK2 _ _ _ (.inl rfl) ?_));clear hK2 K2
   refine dg_end ?_
   refine K15 (CJ.t [(0,_),(1,_),(8,_),(81,_),(82,_),(83,_)] (k:=cj_reg (jI (k:=jM (k:=j_nil (ej_then ?_))))))
   exact fun w' hH hf=>by
    have kx:KeepX [b10,b77,b71] w4 w':=Hp.keepL (es:=[_,_,_]) hH hf
    have hfl:s2.z.funcs.length≤s3.z.funcs.length:=q2.gz.f.length_le
    have hfs:s2.funs.length=s2.z.funcs.length:=hMu.oF.1
    refine hKL (k+1,s3,ms++[{ l.lines[k]with fn:=j }]) _ w' ⟨hk',q1.keep kx (fun c hc=>?_),hSx.thn kx (fun c hc=>?_),q3.trans hlo2,q4.trans hma2,fun m hm=>?_,?_,by simp[hml],hH.get (i:=1) rfl rfl,?_,p77,p71⟩ (by simp only;omega) sR
    ·simp only[List.mem_cons,List.not_mem_nil,or_false]at hc
     rcases hc with rfl|rfl|rfl
     ·exact ⟨o10.1,o10.2.1⟩
     ·exact p77
     ·exact p71
    ·simp only[List.mem_cons,List.not_mem_nil,or_false]at hc
     rcases hc with rfl|rfl|rfl
     ·exact Nat.le_trans hSu.kx.size f10
     ·exact hn77
     ·exact hn71
    ·rcases List.mem_append.1 hm with hm|hm
     ·have:=hms m hm
      exact ⟨⟨this.1.1,by show m.fn<(s3.z.funcs.length:Int);omega⟩,this.2⟩
     ·obtain rfl:=List.mem_singleton.1 hm
      exact ⟨q5.rng,hlw⟩
    ·show (ms++[{ l.lines[k]with fn:=j }]).map (lnK s3.z)=(l.lines.take (k+1)).map (lnK x)
     rw[List.map_append, ← List.take_append_getElem hk',List.map_append, ← hmk,List.map_congr_left fun m hm=>lnK_pre q2.gz.f (hms m hm).1.2]
     exact congrArg _ (congrArg (fun y=>[y]) (lnK_of q5))
    ·have e:=hH.get (i:=2) rfl rfl
     show Blk w' b71 tLine (rowC ((ms++[{ l.lines[k]with fn:=j }]).flatMap (cLine s3.funs)) (l.lines.length - (k+1)))
     rw[List.flatMap_append,lines_pre q2.gf fun m hm=>by rw[hfs];exact (hms m hm).1.2,List.flatMap_cons,List.flatMap_nil,List.append_nil]
     exact e
  ·have hke:k=l.lines.length:=by omega
   subst hke
   rw[List.take_length]at hmk
   intro v hHv hfv
   clear hk h84 hHv
   have hno2:mget s2.jL l.id=none:=by
    have e1:s2.jL=s1.jL:=congrArg Prod.snd hlo2
    have e2:s1.jL=s.jL:=congrArg Prod.snd g3
    rw[e1,e2];exact hno
   replace hlo2:s2.z.locs=s1.z.locs:=congrArg Prod.fst hlo2
   have hkv:KeepX [] u v:=KeepX.of hfv
   have hMv:MG w0 x n v s2:=hMu.keep hkv (by simp)
   have hSv:MStep w s v s2:=g2'.trans (hSu.thn hkv (by simp))
   replace hb77:=hkv.blk hb77 (by simp)
   replace hb71:=hkv.blk hb71 (by simp)
   rw[Nat.sub_self,rowC,List.replicate_zero,List.flatten_nil,List.append_nil]at hb71
   have hlcs:s2.locs=s1.locs:=prefix_same hSu.gl (by have:=hMv.oL.1;rw[hlo2]at this;omega)
   have hmps:s2.maps=s1.maps:=prefix_same hSu.gm (by have h1:=hMv.oM.1;have h2:=g1.oM.1;rw[hma2]at h1;omega)
   obtain ⟨l2,hl2⟩:∃l2:PLoc,l2=⟨(s1.locs.length:Int)+1,jm,A,ms⟩:=⟨_,rfl⟩
   have hLP:LocP v s2.maps s2.funs b77 l2:=⟨_,by rw[hl2,hmps];exact hb77,by rw[hl2];exact OS.full hb71 (by rw[hfm])⟩
   have hjr:=g5.rng
   have hz2:l2.id=(s2.locs.length:Int)+1∧(-1≤l2.mapping∧l2.mapping<s2.z.mappings.length)∧l2.lines.length≤60∧(∀ln∈l2.lines,(-1≤ln.fn∧ln.fn<s2.z.funcs.length)∧IntKind.i64.wrap ln.line=ln.line)∧IntKind.u64.wrap l2.addr=l2.addr:=by
    rw[hl2,hlcs,hma2]
    exact ⟨rfl,hjr,by show ms.length≤60;rw[hml];exact hl60,hms,by show IntKind.u64.wrap A=A;rw[hAe];simp only[IntKind.wrap,IntKind.bits,IntKind.signed];simp⟩
   have hpl:plK s2.z l2=plK x l:=by
    have e1:=addr_of g5 hla hAe
    rw[← hma2,Prod.mk.injEq]at e1
    rw[hl2]
    unfold plK
    rw[e1.1,e1.2]
    exact congrArg _ (congrArg _ hmk)
   have hnotin:b77∉s2.locs:=fun hm=>by
    rw[hlcs]at hm
    obtain ⟨i,hi⟩:=List.mem_iff_getElem?.1 hm
    have hil:=(List.getElem?_eq_some_iff.1 hi).1
    obtain ⟨_,hq, -⟩:=((g1.oL.2 i _ _ hi (List.getElem?_eq_getElem (by omega))).now).ex
    have:=hq.lt
    omega
   obtain ⟨sa2,ma2,lo2,fu2,hpb,hsa,hma,⟨y,p,lq,c,rfl,hO,hy⟩,hfu⟩:=hMv.prof
   obtain ⟨e3,k3,hmI2,hM3⟩:=hMv.uL
   obtain ⟨e4,k4,hmL2,hM4⟩:=hMv.tL
   have hlq:lq=s2.locs.length:=by have:=hO.sl.1;simp at this;omega
   have hbl2:=hMv.bL
   have hjl2:=hMv.jl
   have hle2:s2.locs.length=s2.z.locs.length:=hMv.oL.1
   obtain ⟨pk,hlk2⟩:∃pk,(mget s2.kL (keyL s2.z l2)).getD (.pointer none)=.pointer pk:=by
    cases hg:mget s2.kL (keyL s2.z l2) with
    |none=>exact ⟨_,rfl⟩
    |some u=>
     obtain ⟨_,_,_, -, -,rfl, -⟩:=hMv.sL _ _ hg
     exact ⟨_,rfl⟩
   have hne12:s2.iL≠s2.mL:=by
    have:=hMv.nd
    simp only[List.nodup_cons,List.mem_cons,List.not_mem_nil,or_false,not_or]at this
    exact fun e=>this.2.1.2.2.1 e.symm
   have hcs:=mc (f:=⟨v,0,[tProf,pLoc,1000000]⟩) (hMv.kp _ _ hst0) rfl
   have hcp:=mc (f:=⟨v,0,[tProf,pLoc,1000000]⟩) hMv.bpm rfl
   rw[hSv.pm]at hcp
   have hHp3:Hp ⟨v,0,[tProf,pLoc,1000000]⟩ v (y::⟨s2.pb,tProf,cProf s2.z s2.ty sa2 ma2 (.slice p lq c) fu2 (.slice none 0 0) s2.per,true,true,none⟩::mpE s2.iL e3 k3::mpE s2.mL e4 k4::restH v ([s2.pb,s2.iL,s2.mL]++rowL y)):=by
    refine Hp.listL (es:=[y,⟨s2.pb,tProf,cProf s2.z s2.ty sa2 ma2 (.slice p lq c) fu2 (.slice none 0 0) s2.per,true,true,none⟩,mpE s2.iL e3 k3,mpE s2.mL e4 k4]) ?_ ?_ ?_ ?_
    ·intro q hq
     simp only[List.mem_cons,List.not_mem_nil,or_false]at hq
     rcases hq with rfl|rfl|rfl|rfl
     ·exact has_own hO fun ho=>(hy ho).1
     ·exact has_blk hpb
     ·exact has_map hmI2
     ·exact has_map hmL2
    ·intro q hq he _
     simp only[List.mem_cons,List.not_mem_nil,or_false]at hq
     rcases hq with rfl|rfl|rfl|rfl
     ·exact ⟨Nat.zero_le _,by rw[hO.tag];decide⟩
     ·exact ⟨Nat.zero_le _,by show tProf∈_;decide⟩
     ·exact ⟨Nat.zero_le _,by show 1000000∈_;decide⟩
     ·exact ⟨Nat.zero_le _,by show 1000000∈_;decide⟩
    ·have hyx:=fun he=>own_ex hO he
     simp only[List.pairwise_cons,List.mem_cons,List.not_mem_nil,or_false,forall_eq_or_imp,forall_eq,false_imp_iff,implies_true,and_true,List.Pairwise.nil]
     refine ⟨⟨fun he _=>((hy (hyx he)).1.ne hpb (by decide)).symm,fun he _=>map_neB hmI2 (hy (hyx he)).1,fun he _=>map_neB hmL2 (hy (hyx he)).1⟩,⟨fun _ _=>map_neB hmI2 hpb,fun _ _=>map_neB hmL2 hpb⟩,fun _ _=>hne12.symm⟩
    ·intro q hq he
     simp only[List.mem_cons,List.not_mem_nil,or_false]at hq
     rcases hq with rfl|rfl|rfl|rfl
     ·simp[rowL,own_ex hO he]
     ·simp
     ·simp
     ·simp
   have hB3:∀(w':World) (e':List MapEntry) (k':Nat),Hp ⟨v,0,[tProf,pLoc,1000000]⟩ w' (y::⟨s2.pb,tProf,cProf s2.z s2.ty sa2 ma2 (.slice p lq c) fu2 (.slice none 0 0) s2.per,true,true,none⟩::mpE s2.iL e' k'::mpE s2.mL e4 k4::restH v ([s2.pb,s2.iL,s2.mL]++rowL y))→Fm.ok ⟨v,0,[tProf,pLoc,1000000]⟩ w'→KeepX [s2.iL] v w':=fun w' e' k' hH hf=>by
    refine KeepX.same (Hp.keepL (es:=[y,⟨s2.pb,tProf,cProf s2.z s2.ty sa2 ma2 (.slice p lq c) fu2 (.slice none 0 0) s2.per,true,true,none⟩,mpE s2.iL e' k',mpE s2.mL e4 k4]) hH hf) fun b hb=>?_
    rcases List.mem_append.1 hb with hb|hb
    ·simp only[List.mem_cons,List.not_mem_nil,or_false]at hb
     rcases hb with rfl|rfl|rfl
     ·refine .inr fun o ho=>?_
      rw[show v.heap[s2.pb]? =some _ from hpb]at ho
      cases ho
      exact hH.get (i:=1) rfl rfl
     ·exact .inl (by simp)
     ·refine .inr fun o ho=>?_
      rw[hmL2]at ho
      cases ho
      exact hH.obj (i:=3) rfl rfl
    ·obtain ⟨hon,rfl⟩:=mem_rowL' hb
     refine .inr fun o ho=>?_
     rw[show v.heap[y.b]? =some _ from (hy hon).1]at ho
     cases ho
     have:=hH.get (i:=0) rfl hon
     rw[hO.hT]at this
     exact this
   have hA3:∀(w':World),Hp ⟨v,0,[tProf,pLoc,1000000]⟩ w' (y::⟨s2.pb,tProf,cProf s2.z s2.ty sa2 ma2 (.slice p lq c) fu2 (.slice none 0 0) s2.per,true,true,none⟩::mpE s2.iL e3 k3::mpE s2.mL e4 k4::restH v ([s2.pb,s2.iL,s2.mL]++rowL y))→Fm.ok ⟨v,0,[tProf,pLoc,1000000]⟩ w'→KeepX [] v w':=fun w' hH hf=>KeepX.same (hB3 w' _ _ hH hf) fun b hb=>by
    rw[List.mem_singleton.1 hb]
    refine .inr fun o ho=>?_
    rw[hmI2]at ho
    cases ho
    exact hH.obj (i:=2) rfl rfl
   refine C.begin ⟨v,0,[tProf,pLoc,1000000]⟩ _ ok_refl hHp3 ?_
   refine cj_exit (K11 (sQ fun K17=>cj_reg (jM (k:=?_))))
   refine j_callQ (φ:=fun v=>v=.agg (List.toArray [.int .u64 (keyL s2.z l2).1,.int .u64 (keyL s2.z l2).2.1,.string (keyL s2.z l2).2.2.1,.bool (keyL s2.z l2).2.2.2])) call70 rfl rfl (fun w' hH hf=>locKey_c w' s2.z s2.maps s2.funs b77 l2 (hLP.mono (fr_row hf rfl) (fr_row hf rfl)) (hMv.oM.mono fun b m q=>fr_row hf rfl _ _ q.now) (hMv.oF.mono fun b m q=>fr_row hf rfl _ _ q.now) (fun i m hm=>(hMv.wz.mp i m hm).1) (fun i m hm=>(hMv.wz.fn i m hm).1) hz2.2.1.2 (fun n hn=>⟨(hz2.2.2.2.1 n hn).1.2,(hz2.2.2.2.1 n hn).2⟩) hz2.2.2.1 hz2.2.2.2.2 (by have h1:=hMv.bF;have h2:=hMv.jf;have h3:=hX.nf;omega) (hD.keep ((hMv.keep (hA3 w' hH hf) (by simp)).kp))) fun v hv=>?_
   subst hv
   refine j_allocA (zs:=[(.int .u64 0),(.int .u64 0),(.string ⟨#[]⟩),(.bool false)]) zv174 rfl fun b11=>jB [_,_,_,_] (_::_::_::_::_::_) 0 so174 (k:=K17 (sQ fun K18=>sQ fun K19=>?_))
   refine cj_drawT 11 (lts [0,1,2,3,4,5,6,7,8,9,10]) [0] rfl (fun w=>w.heap[s2.mL]? =some (.map e4.toArray k4)) (by kernel_rfl) (by kernel_rfl) ?_
   refine dj_valT rfl rfl (sub_of [0] rfl) (fun w hH hf=>hH.obj (i:=4) rfl rfl) (fun _ _ h=>r_move rfl h) (dj_valT rfl rfl (sub_of [0] rfl) (fun w hH hf=>hH.obj (i:=4) rfl rfl) (fun _ _ h=>r_nil rfl h) (dj_valT rfl rfl (sub_of [0] rfl) (fun w hH hf=>hH.obj (i:=4) rfl rfl) (fun _ _ h=>r_fl (q:=5) (ft:=108) ru115 rfl so108 rfl h) (dj_ldT rfl rfl (sub_of [0] rfl) (fun w hH hf=>hH.obj (i:=4) rfl rfl) (fun a w ha hS=>r_load ag108 rfl (hcp w (hS.2) 5 _ rfl) ha) (dj_ldT rfl rfl (sub_of [0] rfl) (fun w hH hf=>hH.obj (i:=4) rfl rfl) (fun a w ha hS=>r_ldSA (vs:=[_,_,_,_]) 0 rfl rfl ag174 so174 rfl rfl rfl ha hS) ?_))))
   refine dj_lkT rfl rfl (sub_of [0] rfl) (fun w hH hf=>hH.obj (i:=4) rfl rfl) (fun a w ha hT=>(r_look2W (k:=keyL s2.z l2) ru108 keyLc hM4 zv90 rfl rfl ha hT).trans (by rw[hlk2])) ?_
   refine dj_valT rfl rfl (sub_of [0] rfl) (fun w hH hf=>hH.obj (i:=4) rfl rfl) (fun _ _ h=>r_move rfl h) (dj_valT rfl rfl (sub_of [0] rfl) (fun w hH hf=>hH.obj (i:=4) rfl rfl) (fun _ _ h=>r_extract rfl rfl h) (dj_valT rfl rfl (sub_of [0] rfl) (fun w hH hf=>hH.obj (i:=4) rfl rfl) (fun _ _ h=>r_extract rfl rfl h) (dj_valT rfl rfl (sub_of [0] rfl) (fun w hH hf=>hH.obj (i:=4) rfl rfl) (fun _ _ h=>r_assign rfl h) (dj_valT rfl rfl (sub_of [0] rfl) (fun w hH hf=>hH.obj (i:=4) rfl rfl) (fun _ _ h=>r_assign rfl h) (K19 (CJ.t [(0,_),(1,_),(8,_),(11,_),(12,_),(13,_)] (k:=sQ fun K20=>cj_reg (jM (k:=K20 ?_)))))))))
   refine cj_if rfl (fun h109=>?_) (fun h109=>?_)
   ·obtain ⟨u5,hu5⟩:=Option.isSome_iff_exists.1 h109
    obtain ⟨j,bj,mj,hbj,hmj,rfl,hkj⟩:=hMv.sL _ _ hu5
    have epk:pk=some ⟨bj,0,none⟩:=by rw[hu5]at hlk2;cases hlk2;rfl
    subst epk
    have hpj:plK s2.z mj=plK x l:=by
     obtain ⟨-,hr1, -,hr2, -⟩:=hMv.wz.lc j mj hmj
     rw[← hpl]
     exact (keyL_inj hz2.2.1.1 hr1.1 (fun n hn=>(hz2.2.2.2.1 n hn).1.1) (fun n hn=>(hr2 n hn).1.1) hkj).symm
    refine sQ fun K21=>cj_drawI 9 (lts [0,1,2,3,4,5,6,7,8]++(9,false)::[]) [] rfl (by kernel_rfl) (by kernel_rfl) (dM [] (k:=dN [] (k:=dF [] 1 ru115 so111 (k:=dL [] ag111 hcp 1 (k:=dM [] (k:=dN [] (k:=dF [] 0 ru93 so76 (k:=dL [] ag76 hcs 0 (k:=dM [] (k:=dE (h:=fun Kd=>?_)))))))))))
    refine j_mapupd (k:=l.id) 3 rfl ru111 keyId hM3 rfl rfl rfl (fun _ _ _=>⟨fun _ _=>trivial,trivial⟩) fun es' ck' hM'=>?_
    refine Kd (.inl rfl) (K21 (CJ.t [(12,_)] (k:=sQ fun K22=>cj_reg (jM (k:=jA (k:=K22 (cj_ret ?_)))))))
    first
    |exact ej_ret1 results53 rfl fun w' hH hf=>by
       have hk:=Hp.keepL (f:=⟨w,0,[1000000]⟩) (w:=w) (L:=[s.iL]) (es:=[mpE s.iL es' ck']) hH hf
       obtain ⟨g1,g2⟩:=h.setL hk ⟨_,_,hH.obj (i:=0) rfl rfl,hM'⟩ ⟨z,j,bj,l,mj,hl,rfl,q3,q4,rfl,q6⟩
       exact ⟨{ s with jL:=mset s.jL l.id (ptr bj) },j,bj,l,mj,rfl,q3,g1,g2,hl,q4,q6⟩
    |exact ej_ret1 results53 rfl fun w' hH hf=>by
       have hk:=hB3 w' _ _ hH.2.2.2 hf
       obtain ⟨r1,r2⟩:=hMv.setL hk ⟨_,_,hH.obj (i:=3) rfl rfl,hM'⟩ ⟨z,j,bj,l,mj,hl,rfl,hbj,hmj,rfl,hpj⟩
       exact ⟨{ s2 with jL:=mset s2.jL l.id (ptr bj) },j,bj,l,mj,rfl,hbj,r1,hSv.trans r2,hl,hmj,hpj⟩
    |exact ej_ret1 results53 rfl fun w' hH hf=>by
       have kL:=Hp.keepL (f:=⟨v,0,[tProf,pLoc,1000000]⟩) (w:=v) (L:=[s2.pb,s2.iL,s2.mL]++rowL y) (es:=[_,_,_,_,_]) hH hf
       have y77:=kL.blk hb77 (pairs_ne hb77 hpb hmI2 hmL2 (fun ho=>(hy ho).1) (by decide) (by decide))
       have y71:=kL.blk hb71 (pairs_ne hb71 hpb hmI2 hmL2 (fun ho=>(hy ho).1) (by decide) (by decide))
       have hNN:∀c,(c=b77∨c=b71)→w.heap.size≤c∧c<w'.heap.size∧c∉rowL y148∧c∉s2.hot:=fun c hc=>by
        have h1:=g2'.kx.size
        rcases hc with rfl|rfl
        ·exact ⟨by omega,y77.lt,fun hm=>by obtain ⟨ho,e⟩:=mem_rowL' hm;have:=hH.get (i:=1) rfl ho;rw[hO148.hT, ← e]at this;exact absurd rfl (y77.ne this (by decide)),ho77.1⟩
        ·exact ⟨by omega,y71.lt,fun hm=>by obtain ⟨ho,e⟩:=mem_rowL' hm;have:=hH.get (i:=1) rfl ho;rw[hO148.hT, ← e]at this;exact absurd rfl (y71.ne this (by decide)),ho71.1⟩
       obtain ⟨s',r1,r2,r3,r4,r5,r6⟩:=hMv.newL (y':=y148) (c:=c) (p:=p) (i:=z) (m:=l) (m2:=l2) (bn:=b77) (N:=fun c=>c=b77∨c=b71) rfl kL hpb hsa hy hma hfu (hH.get (i:=2) rfl rfl) hO148
        (fun ho=>by have:=hH.get (i:=1) rfl ho;rw[hO148.hT]at this;exact this)
        (fun ho=>Hp.newOr (es:=[_,_,_]) hH.2.2.2 (by simp[Ent.ex,ho])) hSv hnotin hNN (fun w'' k=>⟨_,by rw[hl2,hmps];exact k b77 _ (.inl rfl) y77,by rw[hl2];exact OS.full (k b71 _ (.inr rfl) y71) (by rw[hfm])⟩) hz2 rfl hpl ⟨_,_,hH.obj (i:=3) rfl rfl,hM'⟩ ⟨_,_,hH.obj (i:=4) rfl rfl,hM2'⟩ hl hno2
       exact ⟨s',s2.locs.length,b77,l,l2,rfl,by rw[r3];exact get_last rfl,r1,r2,hl,by rw[r4];exact get_last hle2,(plK_same r6 r5).trans hpl⟩
   ·refine cj_skip (K18 (sQ fun K23=>cj_drawI 9 (lts [0,1,2,3,4,5,6,7,8]++(9,false)::[]) [] rfl (by kernel_rfl) (by kernel_rfl) (dM [] (k:=dN [] (k:=dF [] 1 ru115 so111 (k:=dL [] ag111 hcp 1 (k:=dM [] (k:=dN [] (k:=dF [] 0 ru93 so76 (k:=dL [] ag76 hcs 0 (k:=dM [] (k:=dE (h:=fun Kd=>?_)))))))))))))
    refine j_mapupd (k:=l.id) 3 rfl ru111 keyId hM3 rfl rfl rfl (fun _ _ _=>⟨fun _ _=>trivial,trivial⟩) fun es' ck' hM'=>?_
    refine Kd (.inl rfl) (K23 (CJ.t [(0,_),(8,_),(11,_)] (k:=sQ fun K24=>?_)))
    refine cj_drawI 6 (lts [0,1,2,3,4,5]++(6,false)::[]) [0] rfl (by kernel_rfl) (by kernel_rfl) (dM [0] (k:=dN [0] (k:=dF [0] 5 ru115 so108 (k:=dL [0] ag108 hcp 5 (k:=?_)))))
    refine dj_ld rfl rfl (sub_of [0] rfl) (fun a w ha hS=>r_ldSA (vs:=[_,_,_,_]) 0 rfl rfl ag174 so174 rfl rfl rfl ha hS) (dM [0] (k:=dE (h:=fun Kd=>?_)))
    refine j_mapupd (k:=keyL s2.z l2) 4 rfl ru108 keyLc hM4 rfl rfl rfl (fun _ _ _=>⟨fun _ _=>trivial,trivial⟩) fun es2' ck2' hM2'=>?_
    refine Kd (.inl rfl) (K24 (sQ fun K25=>cj_drawI 14 (lts [0,1,2,3,4,5,6,7,8,9,10,11]++(12,false)::(13,false)::(14,false)::(15,false)::(16,false)::[]) [2] rfl (by kernel_rfl) (by kernel_rfl) (dM [2] (k:=dN [2] (k:=dF [2] 0 ru115 so42 (k:=dL [2] ag42 hcp 0 (k:=dM [2] (k:=dN [2] (k:=dF [2] 0 ru115 so42 (k:=dL [2] ag42 hcp 0 (k:=dN [2] (k:=dF [2] 4 ru75 so72 (k:=?_)))))))))))))
    refine dH [2] 0 ag72 (k:=dM [2] (k:=dE (h:=fun Kd=>?_)))
    refine j_bslice1 ru72 so90 zv90 rfl rfl rfl rfl rfl fun b147=>Kd (sb [3]) (dE (h:=fun Kd=>?_))
    refine j_appO 1 rfl hO ru72 el90 rfl rfl rfl rfl rfl (by omega) rfl fun y148 p148 c148 hO148=>?_
    refine Kd (sb [2]) (dE (h:=fun Kd=>jN (k:=Kd (.inl rfl) (dE (h:=fun Kd=>jF 4 ru75 so72 (k:=Kd (.inl rfl) (dE (h:=fun Kd=>jB [_,_,_,_,_,_,_,_,_,_,_,_,_,_,_,_,_,_] (_::_::_::_::_::_) 2 so72 (k:=Kd (.inl rfl) (K25 (CJ.t [(8,_)] (k:=sQ fun K26=>cj_reg ?_))))))))))))
    refine jM (k:=jA (k:=K26 (cj_ret ?_)))
    first
    |exact ej_ret1 results53 rfl fun w' hH hf=>by
       have hk:=Hp.keepL (f:=⟨w,0,[1000000]⟩) (w:=w) (L:=[s.iL]) (es:=[mpE s.iL es' ck']) hH hf
       obtain ⟨g1,g2⟩:=h.setL hk ⟨_,_,hH.obj (i:=0) rfl rfl,hM'⟩ ⟨z,j,bj,l,mj,hl,rfl,q3,q4,rfl,q6⟩
       exact ⟨{ s with jL:=mset s.jL l.id (ptr bj) },j,bj,l,mj,rfl,q3,g1,g2,hl,q4,q6⟩
    |exact ej_ret1 results53 rfl fun w' hH hf=>by
       have hk:=hB3 w' _ _ hH.2.2.2 hf
       obtain ⟨r1,r2⟩:=hMv.setL hk ⟨_,_,hH.obj (i:=3) rfl rfl,hM'⟩ ⟨z,j,bj,l,mj,hl,rfl,hbj,hmj,rfl,hpj⟩
       exact ⟨{ s2 with jL:=mset s2.jL l.id (ptr bj) },j,bj,l,mj,rfl,hbj,r1,hSv.trans r2,hl,hmj,hpj⟩
    |exact ej_ret1 results53 rfl fun w' hH hf=>by
       have kL:=Hp.keepL (f:=⟨v,0,[tProf,pLoc,1000000]⟩) (w:=v) (L:=[s2.pb,s2.iL,s2.mL]++rowL y) (es:=[_,_,_,_,_]) hH hf
       have y77:=kL.blk hb77 (pairs_ne hb77 hpb hmI2 hmL2 (fun ho=>(hy ho).1) (by decide) (by decide))
       have y71:=kL.blk hb71 (pairs_ne hb71 hpb hmI2 hmL2 (fun ho=>(hy ho).1) (by decide) (by decide))
       have hNN:∀c,(c=b77∨c=b71)→w.heap.size≤c∧c<w'.heap.size∧c∉rowL y148∧c∉s2.hot:=fun c hc=>by
        have h1:=g2'.kx.size
        rcases hc with rfl|rfl
        ·exact ⟨by omega,y77.lt,fun hm=>by obtain ⟨ho,e⟩:=mem_rowL' hm;have:=hH.get (i:=1) rfl ho;rw[hO148.hT, ← e]at this;exact absurd rfl (y77.ne this (by decide)),ho77.1⟩
        ·exact ⟨by omega,y71.lt,fun hm=>by obtain ⟨ho,e⟩:=mem_rowL' hm;have:=hH.get (i:=1) rfl ho;rw[hO148.hT, ← e]at this;exact absurd rfl (y71.ne this (by decide)),ho71.1⟩
       obtain ⟨s',r1,r2,r3,r4,r5,r6⟩:=hMv.newL (y':=y148) (c:=c) (p:=p) (i:=z) (m:=l) (m2:=l2) (bn:=b77) (N:=fun c=>c=b77∨c=b71) rfl kL hpb hsa hy hma hfu (hH.get (i:=2) rfl rfl) hO148
        (fun ho=>by have:=hH.get (i:=1) rfl ho;rw[hO148.hT]at this;exact this)
        (fun ho=>Hp.newOr (es:=[_,_,_]) hH.2.2.2 (by simp[Ent.ex,ho])) hSv hnotin hNN (fun w'' k=>⟨_,by rw[hl2,hmps];exact k b77 _ (.inl rfl) y77,by rw[hl2];exact OS.full (k b71 _ (.inr rfl) y71) (by rw[hfm])⟩) hz2 rfl hpl ⟨_,_,hH.obj (i:=3) rfl rfl,hM'⟩ ⟨_,_,hH.obj (i:=4) rfl rfl,hM2'⟩ hl hno2
       exact ⟨s',s2.locs.length,b77,l,l2,rfl,by rw[r3];exact get_last rfl,r1,r2,hl,by rw[r4];exact get_last hle2,(plK_same r6 r5).trans hpl⟩
end Go.Proofs.YtffghbkcomlefaaGreatDoor
namespace Go.Fw
open Go
variable {i n:Nat} {z:PProf}
def txL (F:SmK→ByteArray) (x:PProf):List (ByteArray×List Int):=x.samples.map fun s=>(F (smK x s),s.values)
def txA (F:SmK→ByteArray) (xs:List PProf):List (ByteArray×List Int):=xs.flatMap (txL F)
structure SamN (n:Nat) (x:PProf):Prop where
 tab:TabK x
 sm:∀s∈x.samples,s.values.length=n∧Fit s.values∧∀k∈s.stack,k<x.locs.length
theorem txL_len {F:SmK→ByteArray} {x:PProf} (h:SamN n x):∀p∈txL F x,p.2.length=n:=fun p hp=>by
 obtain ⟨s,hs,rfl⟩:=List.mem_map.1 hp
 exact (h.sm s hs).1
theorem txA_len {F:SmK→ByteArray} {xs:List PProf} (h:∀x∈xs,SamN n x):∀p∈txA F xs,p.2.length=n:=fun p hp=>by
 obtain ⟨x,hx,hp⟩:=List.mem_flatMap.1 hp
 exact txL_len (h x hx) p hp
theorem txL_up {F:SmK→ByteArray} {z':PProf} (h:SamN n z) (hG:Grows z z'):∀s∈z.samples,smK z' s=smK z s:=fun s hs=>smK_grows hG h.tab (h.sm s hs).2.2
theorem txL_grow {F:SmK→ByteArray} {z':PProf} (h:SamN n z) (hG:Grows z z') (hs:z'.samples=z.samples):txL F z'=txL F z:=by
 unfold txL
 rw[hs]
 exact List.map_congr_left fun s hs=>by rw[txL_up (F:=F) h hG s hs]
theorem txL_snoc {F:SmK→ByteArray} {z':PProf} {t:PSample} (h:SamN n z) (hG:Grows z z') (hs:z'.samples=z.samples++[t]):txL F z'=txL F z++[(F (smK z' t),t.values)]:=by
 unfold txL
 rw[hs,List.map_append]
 congr 1
 exact List.map_congr_left fun s hs=>by rw[txL_up (F:=F) h hG s hs]
theorem txL_set {F:SmK→ByteArray} {z':PProf} {t:PSample} {v:List Int} (h:SamN n z) (hG:Grows z z') (ht:z.samples[i]? =some t) (hs:z'.samples=z.samples.set i { t with values:=v }):txL F z'=(txL F z).set i (F (smK z t),v):=by
 unfold txL
 rw[hs, ← List.map_congr_left fun s hs=>show (F (smK z' s),s.values)=(F (smK z s),s.values) by rw[txL_up (F:=F) h hG s hs],List.map_set]
 congr 2
 exact congrArg F (txL_up (F:=F) h hG t (List.mem_of_getElem? ht))
theorem sum_snoc {F:SmK→ByteArray} {z':PProf} {t:PSample} {v:List Int} (h:SamN n z) (hG:Grows z z') (hs:z'.samples=z.samples++[{ t with values:=v }]) (hl:v.length=n) (hf:Fit v) (q:ByteArray):
  sumV n q (txL F z')=if F (smK z' t)=q then addV (sumV n q (txL F z)) v else sumV n q (txL F z):=by
 rw[txL_snoc h hG hs,sumV_snoc (txL_len h) hl hf];rfl
theorem sum_set {F:SmK→ByteArray} {z':PProf} {t:PSample} {v:List Int} (h:SamN n z) (hG:Grows z z') (ht:z.samples[i]? =some t) (hl:v.length=n) (hs:z'.samples=z.samples.set i { t with values:=addV t.values v }) (q:ByteArray):
  sumV n q (txL F z')=if F (smK z t)=q then addV (sumV n q (txL F z)) v else sumV n q (txL F z):=by
 rw[txL_set h hG ht hs]
 exact sumV_set (by unfold txL;rw[List.getElem?_map,ht];rfl) (txL_len h) hl
theorem sum_one {L M:List (ByteArray×List Int)} {k:ByteArray} {v:List Int} {q:ByteArray} (hL:∀p∈L,p.2.length=n) (hv:v.length=n) (hf:Fit v) (hM:sumV n q M=sumV n q L):
  (if k=q then addV (sumV n q M) v else sumV n q M)=sumV n q (L++[(k,v)]):=by
 rw[sumV_snoc hL hv hf,hM]
theorem sum_zero {L:List (ByteArray×List Int)} {k:ByteArray} {v:List Int} {q:ByteArray} (hL:∀p∈L,p.2.length=n) (hv:v=zeV n):sumV n q (L++[(k,v)])=sumV n q L:=by
 subst hv
 rw[sumV_snoc hL (zeV_len n) (zeV_fit n)]
 split
 ·rw[addV_zero (sumV_len hL) (sumV_fit n q L)]
 ·rfl
end Go.Fw
