/-
  Part 3 of the proof. Conditions: as each lemma states them.
-/
import Derived.Test.YtifdadlhmlhfiaaGreatDoorX2
namespace Go.Fw
open Go
variable {y:Ent} {xs:List Value} {T c l:Nat} {p:Option Addr}
section
variable {P:Program} {Q:Exit→Act→World→Prop} {n:Nat} {f:Fm} {e:Env} {H:Heap} {ops:Array Oper} {rest:List Oper} {d ty:Nat} {pos:String} {af:Array Edge}
theorem j_callX {g:FuncId} {args:Array Operand} {vs:List Value} {tys:Array TypeId} {φ:Value→List Value→Prop} (i:Nat) (hy:H[i]? =some y) (ho:y.on=true) (hob:y.ob=none) (hwr:y.wr=true) (hg:∀(az:Array Value) (w:World),(callFunc g az).run P w=.ok (.enter g az) w)
  (hargs:evL e args.toList=some vs) (hd:Nat.blt d n=true) (hc:∀w,Hp f w H→f.ok w→Calls P g vs.toArray w (Ret fun v w'=>∃cs',φ v cs'∧Blk w' y.b y.T cs'∧KeepX [y.b] w w'))
  (k:∀v cs',φ v cs'→J P ops Q n f ((d,v)::e) (putH H i ⟨y.b,y.T,cs',true,true,none⟩) rest):J P ops Q n f e H (⟨some d,.call ⟨.value (.func g),args,tys⟩,ty,pos,af,none⟩::rest):=
 j_callE hg hargs hd hc fun w v w' hH hf hR=>by
  obtain ⟨cs',h1,h2,h3⟩:=hR
  have hm:=hH.may (List.mem_of_getElem? hy) ho hwr
  have hex:y.ex=true:=by simp[Ent.ex,ho]
  refine k v cs' h1 w' (hH.putX hy hex rfl (fun _ _=>hm) h3 ⟨fun _=>h2,fun o h=>by cases h⟩) (okK hf h3 hm fun o ho2=>?_)
  have h4:w.heap[y.b]? =some (.cells y.cs.toArray y.T (0,0)):=hH.get hy ho
  rw[ho2]at h4;cases h4;rfl
end
theorem Own.full (h:Own T 1 y p l c xs):(y.on=true∧p=some ⟨y.b,0,none⟩∧y.cs.length=c)∨(y.on=false∧p=none∧c=0):=by
 obtain ⟨-, -,h3⟩:=h.sl
 rcases h3 with ⟨a,b, -,d⟩|⟨a,b,d⟩
 ·exact .inl ⟨a,b,by omega⟩
 ·exact .inr ⟨a,b,d⟩
theorem Own.pre (h:Own T 1 y p l c xs) {j:Nat} {u:Value} (hj:xs[j]? =some u):y.on=true∧y.cs[j]? =some u:=by
 have hl:=(List.getElem?_eq_some_iff.1 hj).1
 obtain ⟨h1, -,h3⟩:=h.sl
 rcases h3 with ⟨a,b,⟨ex,d⟩, -⟩|⟨a,b,d⟩
 ·exact ⟨a,by rw[d,List.getElem?_append_left hl];exact hj⟩
 ·have:=h.sl.2.1;omega
theorem KeepX.more {l m:List Nat} {a b c:World} (h:KeepX m a b) (k:KeepX l b c) (hl:∀q∈l,q∈m∨a.heap.size≤q):KeepX m a c:=(h.trans k).drop fun q hq=>by
 rcases List.mem_append.1 hq with hq|hq
 ·exact .inl hq
 ·exact hl q hq
theorem row_more {pb n:Nat} {y':Ent} (h:y'.on=true→(y.on=true∧y'.b=y.b)∨n≤y'.b):∀q∈[pb]++rowL y',q∈[pb]++rowL y∨n≤q:=fun q hq=>by
 rcases List.mem_append.1 hq with hq|hq
 ·exact .inl (List.mem_append.2 (.inl hq))
 ·unfold rowL at hq
  split at hq
  ·next ho=>
   simp at hq
   subst hq
   rcases h ho with ⟨h1,h2⟩|h1
   ·left;rw[h2];simp[rowL,h1]
   ·exact .inr h1
  ·cases hq
end Go.Fw
namespace Go.Proofs.YtifdadlhmlhfiaaGreatDoor
open Go Go.Fw Go.Proofs Go.Proofs.Tryz
variable {y:Ent} {g:G} {z:Int} {fs:List Fld} {ids:List Int} {es:List MapEntry} {bs:List Nat} {cs xs:List Value} {B T b c ck l mb n n1 n3 n4 n5 sz:Nat} {φ:Nat→Prop} {s:PSample} {v:Value} {u w w' w0:World}
theorem wrap64_in (h1: -9223372036854775808≤z) (h2:z<9223372036854775808):IntKind.i64.wrap z=z:=by
 simp[IntKind.wrap,IntKind.bits,IntKind.signed];omega
theorem pre_get (h:∀(j:Nat) u,xs[j]? =some u→cs[j]? =some u):∃ex,cs=xs++ex:=by
 refine ⟨cs.drop xs.length,?_⟩
 have:cs.take xs.length=xs:=by
  apply List.ext_getElem?
  intro j
  rw[List.getElem?_take]
  by_cases hj:j<xs.length
  ·rw[if_pos hj,List.getElem?_eq_getElem hj]
   exact h j _ (List.getElem?_eq_getElem hj)
  ·rw[if_neg hj,List.getElem?_eq_none (by omega)]
 conv=>rhs;rw[← this]
 rw[this]
 conv=>lhs;rw[← List.take_append_drop xs.length cs,this]
structure NumRow (T2:Nat) (val:Nat→Value) (w w':World) (pb T off:Nat) (cs:List Value) (y:Ent) (l:Nat) (xs:List Value) (ns:List Nat):Prop where
 ex:∃y' p' c',Own T2 1 y' p' (l+ns.length) c' (xs++ns.map val)∧c'<9223372036854775808∧(y'.on=true→Blk w' y'.b T2 y'.cs)∧(y'.on=true→(y.on=true∧y'.b=y.b)∨w.heap.size≤y'.b)∧Blk w' pb T (setL cs off [.slice p' (l+ns.length) c'])
 kx:KeepX ([pb]++rowL y) w w'
theorem NumRow.fr {T2:Nat} {val:Nat→Value} {w3:World} {pb off:Nat} {ns:List Nat} (h:NumRow T2 val w w' pb T off cs y l xs ns) (k0:Fr 0 [] w0 w) (k1:Fr 0 [] w' w3):NumRow T2 val w0 w3 pb T off cs y l xs ns:=by
 obtain ⟨⟨y',p',c',h1,h2,h3,h4,h5⟩,h6⟩:=h
 exact ⟨⟨y',p',c',h1,h2,fun ho=>k1.blk (h3 ho) (.inr (by simp)),fun ho=>(h4 ho).imp_right fun h=>Nat.le_trans k0.size h,k1.blk h5 (.inr (by simp))⟩,(h6.afterF k0).thenF k1⟩
theorem peek_c (w:World) (b o c:Nat) (ns B:List Nat) (hV:Vs ns B) (h:Bys w b o c B) (hc:B.length≤1000000000000):
  Calls Tryz.prog 218 #[.slice (some ⟨b,o,none⟩) B.length c] w (Ret fun v w'=>v=.int .i64 (ns.length:Nat)∧Fr 0 [] w w'):=by
 have hns:=Vs.len hV
 refine startJ (args:=[_]) [(0,_)] 0 [] [] Tryz.func218 rfl Tryz.ntmps218 rfl rfl .nil ?_
 refine sQ fun K1=>cj_reg (jA (k:=K1 (sQ fun K2=>cj_block ?_)))
 intro w1 hH1 hf1
 refine c_loop (σ:=List Nat×List Nat×Nat×Nat×Nat) (fun s=>[(0,.slice (some ⟨b,s.2.2.1,none⟩) s.2.1.length s.2.2.2.1),(2,.int .i64 (s.2.2.2.2:Nat))]) (fun s w'=>Vs s.1 s.2.1∧Bys w' b s.2.2.1 s.2.2.2.1 s.2.1∧s.2.1.length≤1000000000000∧s.2.2.2.2+s.1.length=ns.length∧Fr 0 [] w w') (fun s=>s.1.length) (ns,B,o,c,0) ⟨rfl,rfl,trivial⟩ ⟨hV,h.keep hf1,hc,Nat.zero_add _,hf1⟩ ?_
 rintro ⟨ms,D,o1,c1,k⟩ w2 ⟨hV2,hB2,hl2,hk2,hf2⟩ KL hKL
 try dsimp only at hV2 hB2 hl2 hk2
 refine C.begin ⟨w2,0,[]⟩ [] ok_refl .nil ?_
 try dsimp only
 refine sQ fun K3=>sQ fun K4=>cj_reg (jM (k:=jE ru36 (k:=jG (k:=K4 ?_))))
 refine cj_dec rfl (fun h6=>?_) (fun h6=>?_)
 ·obtain ⟨n,ms,rfl⟩:∃n r,ms=n::r:=by
   cases ms with
   |nil=>have:D=[]:=hV2;subst this;simp at h6
   |cons n r=>exact ⟨n,r,rfl⟩
  obtain ⟨bs,R,rfl,hv,hn,hr⟩:=hV2
  have hvp:=hv.pos
  have hB3:Bys w2 b (cut o1 c1 bs.length 1) (c1 - bs.length) R:=by
   have:=hB2.drop (i:=bs.length) (by simp)
   rwa [List.drop_left]at this
  simp only[List.length_cons]at hk2
  refine cj_skip (K3 (sQ fun K5=>cj_block (sQ fun K6=>cj_reg (jA (k:=K6 (sQ fun K7=>cj_reg (jM (k:=?_))))))))
  refine j_callQ (φ:=fun v=>v=.tuple #[.int .u64 (n:Nat),.slice (some ⟨b,cut o1 c1 bs.length 1,none⟩) R.length (c1 - bs.length),.nilIface]) Tryz.call143 rfl rfl (fun w3 hH hf=>dvarint_c w3 b o1 c1 n bs R hv hn (hB2.keep hf) hl2) fun v hv=>?_
  subst hv
  refine jM (k:=jX (k:=jX (k:=jX (k:=jA (k:=jA (k:=K7 (CJ.t [(0,_),(2,_),(3,_)] (k:=sQ fun K8=>cj_reg (jM (k:=?_))))))))))
  refine j_val rfl (fun _ _ h=>r_inil ud61 rfl h) (K8 (cj_if_f rfl (cj_skip (K5 (cj_reg (jM (k:=jI (k:=jA (k:=j_nil (ej_then ?_))))))))))
  exact fun w' hH hf=>hKL (ms,R,cut o1 c1 bs.length 1,c1 - bs.length,k+1) _ w' ⟨hr,hB3.keep hf,by simp only[List.length_append]at hl2;show R.length≤_;omega,by show k+1+ms.length=_;omega,frQ hf2 hf⟩ (by simp) ⟨rfl,rfl,trivial⟩
 ·refine cj_exit (K2 (sQ fun K9=>cj_reg (jM (k:=jA (k:=K9 (cj_ret ?_))))))
  exact ej_ret1 Tryz.results218 rfl fun w' hH hf=>⟨by
   have h0:D.length=0:=by omega
   have:=Vs.len hV2
   rw[show k=ns.length by omega],frQ hf2 hf⟩
theorem growI_c (w:World) (y:Ent) (p:Option Addr) (l c n:Nat) (xs:List Value) (hO:Own tI64 1 y p l c xs) (hy:y.on=true→Blk w y.b tI64 y.cs) (hc:c<9223372036854775808) (hn:l+n≤100000000000):
  Calls Tryz.prog 219 #[.slice p l c,.int .i64 (n:Nat)] w (Ret fun v w'=>(∃y' p' c',v=.slice p' l c'∧Own tI64 1 y' p' l c' xs∧c'<9223372036854775808∧(y'.on=true→Blk w' y'.b tI64 y'.cs)∧(y'=y∨w.heap.size≤y'.b))∧Fr 0 [] w w'):=by
 have hlc:=hO.sl.2.1
 refine startJ (args:=[_,_]) [(0,_),(1,_)] 0 [] [] Tryz.func219 rfl Tryz.ntmps219 rfl rfl .nil ?_
 refine sQ fun K1=>cj_reg (jA (k:=K1 (sQ fun K2=>sQ fun K3=>cj_reg (jM (k:=jS (k:=?_))))))
 refine j_eqv (u:=.bool false) (congrArg Value.bool (decide_eq_false (by omega))) ?_
 refine K3 (cj_if_f rfl (cj_skip (K2 (sQ fun K4=>sQ fun K5=>cj_reg (jM (k:=jM (k:=?_)))))))
 refine j_val rfl (fun _ _ h=>r_cap ru53 rfl h) (jM (k:=jE ru53 (k:=?_)))
 refine j_val rfl (fun _ _ h=>r_sub rfl rfl h) ?_
 refine j_eqv (u:=.int .i64 ((c:Int) - (l:Int))) (congrArg (Value.int .i64) (wrap64_in (by omega) (by omega))) ?_
 refine j_val rfl (fun _ _ h=>r_sub rfl rfl h) ?_
 refine j_eqv (u:=.int .i64 ((n:Int) - ((c:Int) - (l:Int)))) (congrArg (Value.int .i64) (wrap64_in (by omega) (by omega))) ?_
 refine jA (k:=K5 (CJ.t [(0,_),(1,_)] (k:=sQ fun K6=>cj_reg (jM (k:=jG (k:=K6 ?_))))))
 refine cj_dec rfl (fun h16=>?_) (fun h16=>?_)
 ·refine cj_reg (jM (k:=jM (k:=?_)))
  refine j_val rfl (fun _ _ h=>r_cap ru53 rfl h) (j_val rfl (fun _ _ h=>r_slhi ru53 so2 rfl rfl (by omega) h) (jM (k:=?_)))
  refine j_eqv (u:=.int .i64 ((n+l - c:Nat):Int)) (congrArg (Value.int .i64) (by omega)) ?_
  refine j_appZ (y:=y) (m:=n+l - c) ru53 ru3 el2 rfl rfl rfl (fun w1 hH hf ho=>hf.blk (hy ho) (.inr (by simp))) hO.full (by omega) (by omega) rfl fun b5 cs5 c5 h5l h5c h59 h5p=>?_
  refine jM (k:=jE ru53 (k:=?_))
  refine j_val rfl (fun _ _ h=>r_slhi (i:=l) ru53 so2 rfl rfl (by omega) h) (jA (k:=K4 (CJ.t [(0,_)] (k:=sQ fun K7=>cj_reg (jM (k:=jA (k:=K7 (cj_ret ?_))))))))
  first
  |exact ej_ret1 Tryz.results219 rfl fun w' hH hf=>⟨⟨⟨b5,tI64,cs5,true,true,none⟩,_,c5,rfl,⟨rfl,rfl,rfl,hO.sl.1,by omega,.inl ⟨rfl,rfl,pre_get fun j u hj=>h5p j u (hO.pre hj).1 (hO.pre hj).2,by simpa using h5l⟩⟩,h59,fun _=>hH.get (i:=0) rfl rfl,.inr (hH.fresh (i:=0) rfl rfl rfl)⟩,hf⟩
  |exact ej_ret1 Tryz.results219 rfl fun w' hH hf=>⟨⟨y,p,c,rfl,hO,hc,fun ho=>hf.blk (hy ho) (.inr (by simp)),.inl rfl⟩,hf⟩
 ·refine cj_skip (K4 (sQ fun K8=>cj_reg (jM (k:=jA (k:=K8 (cj_ret ?_))))))
  first
  |exact ej_ret1 Tryz.results219 rfl fun w' hH hf=>⟨⟨⟨b5,tI64,cs5,true,true,none⟩,_,c5,rfl,⟨rfl,rfl,rfl,hO.sl.1,by omega,.inl ⟨rfl,rfl,pre_get fun j u hj=>h5p j u (hO.pre hj).1 (hO.pre hj).2,by simpa using h5l⟩⟩,h59,fun _=>hH.get (i:=0) rfl rfl,.inr (hH.fresh (i:=0) rfl rfl rfl)⟩,hf⟩
  |exact ej_ret1 Tryz.results219 rfl fun w' hH hf=>⟨⟨y,p,c,rfl,hO,hc,fun ho=>hf.blk (hy ho) (.inr (by simp)),.inl rfl⟩,hf⟩
theorem dIN_c (w:World) (bb pb T off k n:Nat) (cs tmp:List Value) (y:Ent) (p:Option Addr) (l c:Nat) (xs:List Value) (hb:Blk w bb tBuf (cBuf (k:Nat) 0 n (.slice none 0 0) tmp)) (hp:Blk w pb T cs) (hcs:cs[off]? =some (.slice p l c)) (hO:Own tI64 1 y p l c xs)
  (hy:y.on=true→Blk w y.b tI64 y.cs) (hc:c<9223372036854775808) (hTB:Nat.beq T tBuf=false) (hTR:T≠tI64) (hn:l+1≤100000000000):
  Calls Tryz.prog 212 #[ptr bb,.pointer (some ⟨pb,off,none⟩)] w (Ret fun v w'=>v=.nilIface∧NumRow tI64 vI w w' pb T off cs y l xs [n]):=by
 have hW:[T,tI64].all (fun t=> !Nat.beq t tBuf)=true:=by simp only[List.all_cons,hTB,Bool.not_false,List.all_nil,Bool.and_true,Bool.true_and];rfl
 have hc0:=mc (f:=⟨w,0,[T,tI64]⟩) hb hW
 have hoff:=(List.getElem?_eq_some_iff.1 hcs).1
 refine startJ (args:=[_,_]) [(0,_),(1,_)] 0 [T,tI64] _ Tryz.func212 rfl Tryz.ntmps212 rfl rfl (Hp.two hp hO (fun ho=>⟨hy ho,Nat.zero_le _⟩) (Nat.zero_le _) (by simp) (by simp) hTR) ?_
 refine sQ fun K1=>cj_reg (jA (k:=K1 ?_))
 refine cj_seqF fun K2 hK2=>sQ fun K3=>cj_reg (jM (k:=jN (k:=jF 1 ru198 so3 (k:=jL ag3 hc0 1 (k:=jQ (k:=?_))))))
 refine j_eqv (u:=.bool false) rfl ?_
 refine K3 (cj_if_f rfl (cj_skip (ej_then (hK2 _ _ _ (sQ fun K4=>cj_reg (j_alloc1 zv2 rfl rfl fun b9=>K4 (sQ fun K5=>sQ fun K6=>cj_reg (jM (k:=?_)))))))))
 refine j_callX (y:=⟨b9,tI64,_,true,true,none⟩) (φ:=fun v cs'=>v=.nilIface∧cs'=[vI n]) 0 rfl rfl rfl rfl Tryz.call205 rfl rfl (fun w1 hH hf=>Calls.mono (dInt64_c w1 bb b9 tI64 0 _ _ _ _ _ (fr_row hf hW _ _ hb) (hH.get (i:=0) rfl rfl) rfl (by simp)) (Ret.mono fun v w' h=>⟨_,⟨h.1,rfl⟩,h.2.1,h.2.2⟩)) fun v cs9 hv=>?_
 obtain ⟨rfl,rfl⟩:=hv
 refine jA (k:=K6 (CJ.t [(1,_),(9,_),(10,_)] (k:=sQ fun K7=>cj_reg (jM (k:=?_)))))
 refine j_val rfl (fun _ _ h=>r_inil ud61 rfl h) (K7 (cj_if_f rfl (cj_skip (K5 (sQ fun K8=>cj_drawI 8 (lts [0,1,2,3,4]++(5,false)::((6,false)::(lts [7]++(8,false)::[]))) [0,1] rfl (by kernel_rfl) (by kernel_rfl) (dM [0,1] (k:=dM [0,1] (k:=dN [0,1] (k:=?_)))))))))
 refine dj_ld rfl rfl (sub_of [0,1] rfl) (fun a w ha hS=>r_ldS 1 rfl rfl ag53 rfl hcs ha hS) (dH [0,1] 0 ag2 (k:=dE (h:=fun Kd=>?_)))
 refine j_bslice1 ru53 so2 zv2 rfl rfl rfl rfl rfl fun b63=>Kd (sb [1,2]) (dE (h:=fun Kd=>?_))
 refine j_appOC 2 rfl hO ru53 el2 rfl rfl rfl rfl hn rfl fun y8 p8 c8 hO8 hc8 hr8=>?_
 refine Kd (sb [0,1]) (dN [0,1] (k:=dE (h:=fun Kd=>?_)))
 refine j_store (y:=⟨pb,T,cs,true,true,none⟩) (o:=off) 1 rfl rfl rfl rfl so53 rfl rfl rfl rfl (Nat.ble_eq_true_of_le (show off+1≤cs.length by omega)) ?_
 refine Kd (.inl rfl) (K8 (CJ.t [] (k:=sQ fun K9=>cj_reg (jA (k:=K9 (cj_ret ?_))))))
 exact ej_ret1 Tryz.results212 rfl fun w' hH hf=>⟨rfl,⟨⟨y8,p8,c8,hO8,by omega,fun ho=>by have:=hH.get (i:=2) rfl ho;rwa [hO8.hT]at this,fun _=>hr8,hH.get (i:=1) rfl rfl⟩,Hp.keepX (f:=⟨w,0,[T,tI64]⟩) (((hH.drop 0).drop 0).drop 0) hf⟩⟩
set_option maxHeartbeats 1000000 in
theorem dIB_c (w:World) (bb pb T off k b o cD:Nat) (cs tmp:List Value) (D ns:List Nat) (y:Ent) (p:Option Addr) (l c:Nat) (xs:List Value) (hb:Blk w bb tBuf (cBuf (k:Nat) 2 0 (.slice (some ⟨b,o,none⟩) D.length cD) tmp)) (hB:Bys w b o cD D) (hD:D.length≤1000000000000) (hV:Vs ns D) (hp:Blk w pb T cs) (hcs:cs[off]? =some (.slice p l c)) (hO:Own tI64 1 y p l c xs)
  (hy:y.on=true→Blk w y.b tI64 y.cs) (hc:c<9223372036854775808) (hTB:Nat.beq T tBuf=false) (hT8:Nat.beq T tU8=false) (hTR:T≠tI64) (hn:l+ns.length≤100000000000):
  Calls Tryz.prog 212 #[ptr bb,.pointer (some ⟨pb,off,none⟩)] w (Ret fun v w'=>v=.nilIface∧NumRow tI64 vI w w' pb T off cs y l xs ns):=by
 have hW:[T,tI64].all (fun t=> !Nat.beq t tBuf)=true:=by simp only[List.all_cons,hTB,Bool.not_false,List.all_nil,Bool.and_true,Bool.true_and];rfl
 have hW8:[T,tI64].all (fun t=> !Nat.beq t tU8)=true:=by simp only[List.all_cons,hT8,Bool.not_false,List.all_nil,Bool.and_true,Bool.true_and];rfl
 have hc0:=mc (f:=⟨w,0,[T,tI64]⟩) hb hW
 have hoff:=(List.getElem?_eq_some_iff.1 hcs).1
 refine startJ (args:=[_,_]) [(0,_),(1,_)] 0 [T,tI64] _ Tryz.func212 rfl Tryz.ntmps212 rfl rfl (Hp.two hp hO (fun ho=>⟨hy ho,Nat.zero_le _⟩) (Nat.zero_le _) (by simp) (by simp) hTR) ?_
 refine sQ fun K1=>cj_reg (jA (k:=K1 (sQ fun K2=>sQ fun K3=>cj_reg (jM (k:=jN (k:=jF 1 ru198 so3 (k:=jL ag3 hc0 1 (k:=jQ (k:=?_)))))))))
 refine j_eqv (u:=.bool true) rfl ?_
 refine K3 (cj_if_t rfl (sQ fun K4=>cj_reg (jM (k:=jN (k:=jF 3 ru198 so36 (k:=jL ag36 hc0 3 (k:=?_)))))))
 refine j_callQ (φ:=fun v=>v=.int .i64 (ns.length:Nat)) Tryz.call218 rfl rfl (fun w2 hH hf=>peek_c w2 b o cD ns D hV (hB.mono (fr_row hf hW8)) hD) fun v hv=>?_
 subst hv
 refine jA (k:=K4 (CJ.t [(0,_),(1,_),(5,_)] (k:=sQ fun K5=>cj_reg (jM (k:=jM (k:=jN (k:=?_)))))))
 refine j_valw rfl (fun a w ha hH hf=>r_ldH 0 rfl rfl ag53 rfl hcs ha hH) (jM (k:=?_))
 refine j_callE (R:=fun w1 v w'=>(∃y' p' c',v=.slice p' l c'∧Own tI64 1 y' p' l c' xs∧c'<9223372036854775808∧(y'.on=true→Blk w' y'.b tI64 y'.cs)∧(y'=y∨w1.heap.size≤y'.b))∧Fr 0 [] w1 w') Tryz.call219 rfl rfl (fun w1 hH hf=>growI_c w1 y p l c ns.length xs hO (fun ho=>by have:=hH.get (i:=1) rfl ho;rwa [hO.hT]at this) hc hn) fun w1 v w2 hH1 hf1 hR=>?_
 obtain ⟨⟨y1,p1,c1,rfl,hO1,hc1,hy1,hyy⟩,hf2⟩:=hR
 have hp2:Blk w2 pb T cs:=hf2.blk (hH1.get (i:=0) rfl rfl) (.inr (by simp))
 have hk2:KeepX ([pb]++rowL y) w w2:=(Hp.keepX (f:=⟨w,0,[T,tI64]⟩) ((hH1.drop 0).drop 0) hf1).thenF hf2
 have hb2:=hf2.blk (fr_row hf1 hW _ _ hb) (.inr (by simp))
 have hB2:Bys w2 b o cD D:=(hB.mono (fr_row hf1 hW8)).keep hf2
 have hc0:=mc (f:=⟨w2,0,[T,tI64]⟩) hb2 hW
 have hr1:y1.on=true→(y.on=true∧y1.b=y.b)∨w.heap.size≤y1.b:=fun ho=>by
  rcases hyy with e|e
  ·left;rw[e]at ho⊢;exact ⟨ho,rfl⟩
  ·right;have:=hf1.size;exact Nat.le_trans this e
 refine J.begin ⟨w2,0,[T,tI64]⟩ _ ok_refl (Hp.two hp2 hO1 (fun ho=>⟨hy1 ho,Nat.zero_le _⟩) (Nat.zero_le _) (by simp) (by simp) hTR) ?_
 refine jN (k:=?_)
 refine j_store (y:=⟨pb,T,cs,true,true,none⟩) (o:=off) 0 rfl rfl rfl rfl so53 rfl rfl rfl rfl (Nat.ble_eq_true_of_le (show off+1≤cs.length by omega)) ?_
 refine K5 (sQ fun K6=>cj_reg (jM (k:=jN (k:=jF 3 ru198 so36 (k:=jL ag36 hc0 3 (k:=jA (k:=K6 (CJ.t [(1,_),(6,_)] (k:=sQ fun K7=>cj_block ?_)))))))))
 intro w3 hH3 hf3
 refine c_loop (σ:=List Nat×List Nat×Nat×Nat×List Nat×Ent×Option Addr×Nat) (fun s=>[(1,.pointer (some ⟨pb,off,none⟩)),(6,.slice (some ⟨b,s.2.2.1,none⟩) s.2.1.length s.2.2.2.1)])
  (fun s w'=>Vs s.1 s.2.1∧Bys w' b s.2.2.1 s.2.2.2.1 s.2.1∧s.2.1.length≤1000000000000∧ns=s.2.2.2.2.1++s.1∧Own tI64 1 s.2.2.2.2.2.1 s.2.2.2.2.2.2.1 (l+s.2.2.2.2.1.length) s.2.2.2.2.2.2.2 (xs++s.2.2.2.2.1.map vI)∧s.2.2.2.2.2.2.2<9223372036854775808∧(s.2.2.2.2.2.1.on=true→Blk w' s.2.2.2.2.2.1.b tI64 s.2.2.2.2.2.1.cs)∧(s.2.2.2.2.2.1.on=true→(y.on=true∧s.2.2.2.2.2.1.b=y.b)∨w.heap.size≤s.2.2.2.2.2.1.b)∧Blk w' pb T (setL cs off [.slice s.2.2.2.2.2.2.1 (l+s.2.2.2.2.1.length) s.2.2.2.2.2.2.2])∧KeepX ([pb]++rowL y) w w')
  (fun s=>s.1.length) (ns,D,o,cD,[],y1,p1,c1) ⟨rfl,rfl,trivial⟩ ⟨hV,hB2.mono (fr_row hf3 hW8),hD,rfl,by simpa using hO1,hc1,fun ho=>by have:=hH3.get (i:=1) rfl ho;rwa [hO1.hT]at this,hr1,hH3.get (i:=0) rfl rfl,hk2.more (Hp.keepX (f:=⟨w2,0,[T,tI64]⟩) ((hH3.drop 0).drop 0) hf3) (row_more hr1)⟩ ?_
 rintro ⟨ms,D',o',c',dn,y',p',cc⟩ w4 ⟨hV4,hB4,hD4,hns4,hO4,hc4,hy4,hr4,hp4,hk4⟩ KL hKL
 try dsimp only at hV4 hB4 hD4 hns4 hO4 hc4 hy4 hr4 hp4
 have hcs4:(setL cs off [.slice p' (l+dn.length) cc])[off]? =some (.slice p' (l+dn.length) cc):=by simp only[setL];exact List.getElem?_set_self hoff
 have hl4:(setL cs off [.slice p' (l+dn.length) cc]).length=cs.length:=setL_length _ _ _
 refine C.begin ⟨w4,0,[T,tI64]⟩ _ ok_refl (Hp.two hp4 hO4 (fun ho=>⟨hy4 ho,Nat.zero_le _⟩) (Nat.zero_le _) (by simp) (by simp) hTR) ?_
 try dsimp only
 refine sQ fun K8=>sQ fun K9=>cj_reg (jM (k:=jE ru36 (k:=jG (k:=K9 ?_))))
 refine cj_dec rfl (fun h34=>?_) (fun h34=>?_)
 ·obtain ⟨n,ms,rfl⟩:∃n r,ms=n::r:=by
   cases ms with
   |nil=>have:D'=[]:=hV4;subst this;simp at h34
   |cons n r=>exact ⟨n,r,rfl⟩
  obtain ⟨bs,R,rfl,hv,hn5,hr⟩:=hV4
  have hvp:=hv.pos
  have hB5:Bys w4 b (cut o' c' bs.length 1) (c' - bs.length) R:=by
   have:=hB4.drop (i:=bs.length) (by simp)
   rwa [List.drop_left]at this
  have hnl:ns.length=dn.length+(ms.length+1):=by rw[hns4];simp
  refine cj_skip (K8 (cj_block (sQ fun K10=>cj_reg (jA (k:=K10 (sQ fun K11=>cj_reg (jA (k:=K11 (sQ fun K12=>sQ fun K13=>cj_reg (jM (k:=?_)))))))))))
  refine j_callQ (φ:=fun v=>v=.tuple #[.int .u64 (n:Nat),.slice (some ⟨b,cut o' c' bs.length 1,none⟩) R.length (c' - bs.length),.nilIface]) Tryz.call143 rfl rfl (fun w5 hH hf=>dvarint_c w5 b o' c' n bs R hv hn5 (hB4.mono (fr_row hf hW8)) hD4) fun v hv=>?_
  subst hv
  refine jM (k:=jX (k:=jX (k:=jX (k:=jA (k:=jA (k:=jA (k:=K13 (CJ.t [(1,_),(6,_),(7,_),(8,_)] (k:=sQ fun K14=>cj_reg (jM (k:=?_)))))))))))
  refine j_val rfl (fun _ _ h=>r_inil ud61 rfl h) (K14 (cj_if_f rfl (cj_skip (K12 (cj_reg (jM (k:=jM (k:=jN (k:=?_)))))))))
  refine j_valw rfl (fun a w ha hH hf=>r_ldH 0 rfl rfl ag53 rfl hcs4 ha hH) (jM (k:=?_))
  refine j_val rfl (fun _ _ h=>r_conv ru71 ru2 rfl h) (j_bslice1 ru53 so2 zv2 rfl rfl rfl rfl rfl fun b50=>?_)
  refine j_appOC 1 rfl hO4 ru53 el2 rfl rfl rfl rfl (show l+dn.length+1≤100000000000 by omega) rfl fun y8 p8 c8 hO8 hc8 hr8=>?_
  refine jN (k:=?_)
  refine j_store (y:=⟨pb,T,setL cs off [.slice p' (l+dn.length) cc],true,true,none⟩) (o:=off) 0 rfl rfl rfl rfl so53 rfl rfl rfl rfl (Nat.ble_eq_true_of_le (show off+1≤(setL cs off [.slice p' (l+dn.length) cc]).length by omega)) ?_
  refine j_nil (ej_blk (ej_then ?_))
  exact fun w' hH hf=>hKL (ms,R,cut o' c' bs.length 1,c' - bs.length,dn++[n],y8,p8,c8) _ w' ⟨hr,hB5.mono (fr_row hf hW8),by simp only[List.length_append]at hD4;show R.length≤_;omega,by rw[hns4];simp,by
    have h8:=hO8
    rw[List.append_assoc]at h8
    simp only[List.length_append,List.length_singleton,List.map_append,List.map_cons,List.map_nil]
    exact h8,by show c8<_;omega,fun ho=>by have:=hH.get (i:=1) rfl ho;rwa [hO8.hT]at this,fun ho=>by
    rcases hr8 with ⟨e1,e2⟩|e
    ·rcases hr4 e1 with ⟨e3,e4⟩|e3
     ·exact .inl ⟨e3,e2.trans e4⟩
     ·right;show w.heap.size≤y8.b;rw[e2];exact e3
    ·right;exact Nat.le_trans hk4.size e,by
    have h9:=hH.get (i:=0) rfl rfl
    have e9:∀v u:Value,scal u=true→setL (setL cs off [v]) off u.cells.toList=setL cs off [u]:=fun v u hu=>by rw[scal_cells hu];simp only[setL,List.set_set]
    rw[e9 _ _ rfl]at h9
    simp only[List.length_append,List.length_singleton]
    exact h9,hk4.more (Hp.keepX (f:=⟨w4,0,[T,tI64]⟩) ((hH.drop 0).drop 0) hf) (row_more hr4)⟩ (by simp) ⟨rfl,rfl,trivial⟩
 ·refine cj_exit (K7 (CJ.t [] (k:=sQ fun K15=>cj_reg (jA (k:=K15 (cj_ret ?_))))))
  exact ej_ret1 Tryz.results212 rfl fun w' hH hf=>⟨rfl,by
   have hms:ms=[]:=by
    have h0:D'.length=0:=by omega
    have:=Vs.len hV4
    exact List.eq_nil_of_length_eq_zero (by omega)
   subst hms
   rw[List.append_nil]at hns4
   subst hns4
   exact ⟨⟨y',p',cc,hO4,hc4,fun ho=>by have:=hH.get (i:=1) rfl ho;rwa [hO4.hT]at this,hr4,hH.get (i:=0) rfl rfl⟩,hk4.more (Hp.keepX (f:=⟨w4,0,[T,tI64]⟩) ((hH.drop 0).drop 0) hf) (row_more hr4)⟩⟩
theorem growU_c (w:World) (y:Ent) (p:Option Addr) (l c n:Nat) (xs:List Value) (hO:Own tU64 1 y p l c xs) (hy:y.on=true→Blk w y.b tU64 y.cs) (hc:c<9223372036854775808) (hn:l+n≤100000000000):
  Calls Tryz.prog 268 #[.slice p l c,.int .i64 (n:Nat)] w (Ret fun v w'=>(∃y' p' c',v=.slice p' l c'∧Own tU64 1 y' p' l c' xs∧c'<9223372036854775808∧(y'.on=true→Blk w' y'.b tU64 y'.cs)∧(y'=y∨w.heap.size≤y'.b))∧Fr 0 [] w w'):=by
 have hlc:=hO.sl.2.1
 refine startJ (args:=[_,_]) [(0,_),(1,_)] 0 [] [] Tryz.func268 rfl Tryz.ntmps268 rfl rfl .nil ?_
 refine sQ fun K1=>cj_reg (jA (k:=K1 (sQ fun K2=>sQ fun K3=>cj_reg (jM (k:=jS (k:=?_))))))
 refine j_eqv (u:=.bool false) (congrArg Value.bool (decide_eq_false (by omega))) ?_
 refine K3 (cj_if_f rfl (cj_skip (K2 (sQ fun K4=>sQ fun K5=>cj_reg (jM (k:=jM (k:=?_)))))))
 refine j_val rfl (fun _ _ h=>r_cap ru84 rfl h) (jM (k:=jE ru84 (k:=?_)))
 refine j_val rfl (fun _ _ h=>r_sub rfl rfl h) ?_
 refine j_eqv (u:=.int .i64 ((c:Int) - (l:Int))) (congrArg (Value.int .i64) (wrap64_in (by omega) (by omega))) ?_
 refine j_val rfl (fun _ _ h=>r_sub rfl rfl h) ?_
 refine j_eqv (u:=.int .i64 ((n:Int) - ((c:Int) - (l:Int)))) (congrArg (Value.int .i64) (wrap64_in (by omega) (by omega))) ?_
 refine jA (k:=K5 (CJ.t [(0,_),(1,_)] (k:=sQ fun K6=>cj_reg (jM (k:=jG (k:=K6 ?_))))))
 refine cj_dec rfl (fun h16=>?_) (fun h16=>?_)
 ·refine cj_reg (jM (k:=jM (k:=?_)))
  refine j_val rfl (fun _ _ h=>r_cap ru84 rfl h) (j_val rfl (fun _ _ h=>r_slhi ru84 so71 rfl rfl (by omega) h) (jM (k:=?_)))
  refine j_eqv (u:=.int .i64 ((n+l - c:Nat):Int)) (congrArg (Value.int .i64) (by omega)) ?_
  refine j_appZ (y:=y) (m:=n+l - c) ru84 ru3 el71 rfl rfl rfl (fun w1 hH hf ho=>hf.blk (hy ho) (.inr (by simp))) hO.full (by omega) (by omega) rfl fun b5 cs5 c5 h5l h5c h59 h5p=>?_
  refine jM (k:=jE ru84 (k:=?_))
  refine j_val rfl (fun _ _ h=>r_slhi (i:=l) ru84 so71 rfl rfl (by omega) h) (jA (k:=K4 (CJ.t [(0,_)] (k:=sQ fun K7=>cj_reg (jM (k:=jA (k:=K7 (cj_ret ?_))))))))
  first
  |exact ej_ret1 Tryz.results268 rfl fun w' hH hf=>⟨⟨⟨b5,tU64,cs5,true,true,none⟩,_,c5,rfl,⟨rfl,rfl,rfl,hO.sl.1,by omega,.inl ⟨rfl,rfl,pre_get fun j u hj=>h5p j u (hO.pre hj).1 (hO.pre hj).2,by simpa using h5l⟩⟩,h59,fun _=>hH.get (i:=0) rfl rfl,.inr (hH.fresh (i:=0) rfl rfl rfl)⟩,hf⟩
  |exact ej_ret1 Tryz.results268 rfl fun w' hH hf=>⟨⟨y,p,c,rfl,hO,hc,fun ho=>hf.blk (hy ho) (.inr (by simp)),.inl rfl⟩,hf⟩
 ·refine cj_skip (K4 (sQ fun K8=>cj_reg (jM (k:=jA (k:=K8 (cj_ret ?_))))))
  first
  |exact ej_ret1 Tryz.results268 rfl fun w' hH hf=>⟨⟨⟨b5,tU64,cs5,true,true,none⟩,_,c5,rfl,⟨rfl,rfl,rfl,hO.sl.1,by omega,.inl ⟨rfl,rfl,pre_get fun j u hj=>h5p j u (hO.pre hj).1 (hO.pre hj).2,by simpa using h5l⟩⟩,h59,fun _=>hH.get (i:=0) rfl rfl,.inr (hH.fresh (i:=0) rfl rfl rfl)⟩,hf⟩
  |exact ej_ret1 Tryz.results268 rfl fun w' hH hf=>⟨⟨y,p,c,rfl,hO,hc,fun ho=>hf.blk (hy ho) (.inr (by simp)),.inl rfl⟩,hf⟩
theorem dUN_c (w:World) (bb pb T off k n:Nat) (cs tmp:List Value) (y:Ent) (p:Option Addr) (l c:Nat) (xs:List Value) (hb:Blk w bb tBuf (cBuf (k:Nat) 0 n (.slice none 0 0) tmp)) (hp:Blk w pb T cs) (hcs:cs[off]? =some (.slice p l c)) (hO:Own tU64 1 y p l c xs)
  (hy:y.on=true→Blk w y.b tU64 y.cs) (hc:c<9223372036854775808) (hTB:Nat.beq T tBuf=false) (hTR:T≠tU64) (hn:l+1≤100000000000):
  Calls Tryz.prog 265 #[ptr bb,.pointer (some ⟨pb,off,none⟩)] w (Ret fun v w'=>v=.nilIface∧NumRow tU64 vU w w' pb T off cs y l xs [n]):=by
 have hW:[T,tU64].all (fun t=> !Nat.beq t tBuf)=true:=by simp only[List.all_cons,hTB,Bool.not_false,List.all_nil,Bool.and_true,Bool.true_and];rfl
 have hc0:=mc (f:=⟨w,0,[T,tU64]⟩) hb hW
 have hoff:=(List.getElem?_eq_some_iff.1 hcs).1
 refine startJ (args:=[_,_]) [(0,_),(1,_)] 0 [T,tU64] _ Tryz.func265 rfl Tryz.ntmps265 rfl rfl (Hp.two hp hO (fun ho=>⟨hy ho,Nat.zero_le _⟩) (Nat.zero_le _) (by simp) (by simp) hTR) ?_
 refine sQ fun K1=>cj_reg (jA (k:=K1 ?_))
 refine cj_seqF fun K2 hK2=>sQ fun K3=>cj_reg (jM (k:=jN (k:=jF 1 ru198 so3 (k:=jL ag3 hc0 1 (k:=jQ (k:=?_))))))
 refine j_eqv (u:=.bool false) rfl ?_
 refine K3 (cj_if_f rfl (cj_skip (ej_then (hK2 _ _ _ (sQ fun K4=>cj_reg (j_alloc1 zv71 rfl rfl fun b9=>K4 (sQ fun K5=>sQ fun K6=>cj_reg (jM (k:=?_)))))))))
 refine j_callX (y:=⟨b9,tU64,_,true,true,none⟩) (φ:=fun v cs'=>v=.nilIface∧cs'=[vU n]) 0 rfl rfl rfl rfl Tryz.call233 rfl rfl (fun w1 hH hf=>Calls.mono (dUint64_c w1 bb b9 tU64 0 _ _ _ _ _ (fr_row hf hW _ _ hb) (hH.get (i:=0) rfl rfl) rfl (by simp)) (Ret.mono fun v w' h=>⟨_,⟨h.1,rfl⟩,h.2.1,h.2.2⟩)) fun v cs9 hv=>?_
 obtain ⟨rfl,rfl⟩:=hv
 refine jA (k:=K6 (CJ.t [(1,_),(9,_),(10,_)] (k:=sQ fun K7=>cj_reg (jM (k:=?_)))))
 refine j_val rfl (fun _ _ h=>r_inil ud61 rfl h) (K7 (cj_if_f rfl (cj_skip (K5 (sQ fun K8=>cj_drawI 8 (lts [0,1,2,3,4]++(5,false)::((6,false)::(lts [7]++(8,false)::[]))) [0,1] rfl (by kernel_rfl) (by kernel_rfl) (dM [0,1] (k:=dM [0,1] (k:=dN [0,1] (k:=?_)))))))))
 refine dj_ld rfl rfl (sub_of [0,1] rfl) (fun a w ha hS=>r_ldS 1 rfl rfl ag84 rfl hcs ha hS) (dH [0,1] 0 ag71 (k:=dE (h:=fun Kd=>?_)))
 refine j_bslice1 ru84 so71 zv71 rfl rfl rfl rfl rfl fun b62=>Kd (sb [1,2]) (dE (h:=fun Kd=>?_))
 refine j_appOC 2 rfl hO ru84 el71 rfl rfl rfl rfl hn rfl fun y8 p8 c8 hO8 hc8 hr8=>?_
 refine Kd (sb [0,1]) (dN [0,1] (k:=dE (h:=fun Kd=>?_)))
 refine j_store (y:=⟨pb,T,cs,true,true,none⟩) (o:=off) 1 rfl rfl rfl rfl so84 rfl rfl rfl rfl (Nat.ble_eq_true_of_le (show off+1≤cs.length by omega)) ?_
 refine Kd (.inl rfl) (K8 (CJ.t [] (k:=sQ fun K9=>cj_reg (jA (k:=K9 (cj_ret ?_))))))
 exact ej_ret1 Tryz.results265 rfl fun w' hH hf=>⟨rfl,⟨⟨y8,p8,c8,hO8,by omega,fun ho=>by have:=hH.get (i:=2) rfl ho;rwa [hO8.hT]at this,fun _=>hr8,hH.get (i:=1) rfl rfl⟩,Hp.keepX (f:=⟨w,0,[T,tU64]⟩) (((hH.drop 0).drop 0).drop 0) hf⟩⟩
set_option maxHeartbeats 1000000 in
theorem dUB_c (w:World) (bb pb T off k b o cD:Nat) (cs tmp:List Value) (D ns:List Nat) (y:Ent) (p:Option Addr) (l c:Nat) (xs:List Value) (hb:Blk w bb tBuf (cBuf (k:Nat) 2 0 (.slice (some ⟨b,o,none⟩) D.length cD) tmp)) (hB:Bys w b o cD D) (hD:D.length≤1000000000000) (hV:Vs ns D) (hp:Blk w pb T cs) (hcs:cs[off]? =some (.slice p l c)) (hO:Own tU64 1 y p l c xs)
  (hy:y.on=true→Blk w y.b tU64 y.cs) (hc:c<9223372036854775808) (hTB:Nat.beq T tBuf=false) (hT8:Nat.beq T tU8=false) (hTR:T≠tU64) (hn:l+ns.length≤100000000000):
  Calls Tryz.prog 265 #[ptr bb,.pointer (some ⟨pb,off,none⟩)] w (Ret fun v w'=>v=.nilIface∧NumRow tU64 vU w w' pb T off cs y l xs ns):=by
 have hW:[T,tU64].all (fun t=> !Nat.beq t tBuf)=true:=by simp only[List.all_cons,hTB,Bool.not_false,List.all_nil,Bool.and_true,Bool.true_and];rfl
 have hW8:[T,tU64].all (fun t=> !Nat.beq t tU8)=true:=by simp only[List.all_cons,hT8,Bool.not_false,List.all_nil,Bool.and_true,Bool.true_and];rfl
 have hc0:=mc (f:=⟨w,0,[T,tU64]⟩) hb hW
 have hoff:=(List.getElem?_eq_some_iff.1 hcs).1
 refine startJ (args:=[_,_]) [(0,_),(1,_)] 0 [T,tU64] _ Tryz.func265 rfl Tryz.ntmps265 rfl rfl (Hp.two hp hO (fun ho=>⟨hy ho,Nat.zero_le _⟩) (Nat.zero_le _) (by simp) (by simp) hTR) ?_
 refine sQ fun K1=>cj_reg (jA (k:=K1 (sQ fun K2=>sQ fun K3=>cj_reg (jM (k:=jN (k:=jF 1 ru198 so3 (k:=jL ag3 hc0 1 (k:=jQ (k:=?_)))))))))
 refine j_eqv (u:=.bool true) rfl ?_
 refine K3 (cj_if_t rfl (sQ fun K4=>cj_reg (jM (k:=jN (k:=jF 3 ru198 so36 (k:=jL ag36 hc0 3 (k:=?_)))))))
 refine j_callQ (φ:=fun v=>v=.int .i64 (ns.length:Nat)) Tryz.call218 rfl rfl (fun w2 hH hf=>peek_c w2 b o cD ns D hV (hB.mono (fr_row hf hW8)) hD) fun v hv=>?_
 subst hv
 refine jA (k:=K4 (CJ.t [(0,_),(1,_),(5,_)] (k:=sQ fun K5=>cj_reg (jM (k:=jM (k:=jN (k:=?_)))))))
 refine j_valw rfl (fun a w ha hH hf=>r_ldH 0 rfl rfl ag84 rfl hcs ha hH) (jM (k:=?_))
 refine j_callE (R:=fun w1 v w'=>(∃y' p' c',v=.slice p' l c'∧Own tU64 1 y' p' l c' xs∧c'<9223372036854775808∧(y'.on=true→Blk w' y'.b tU64 y'.cs)∧(y'=y∨w1.heap.size≤y'.b))∧Fr 0 [] w1 w') Tryz.call268 rfl rfl (fun w1 hH hf=>growU_c w1 y p l c ns.length xs hO (fun ho=>by have:=hH.get (i:=1) rfl ho;rwa [hO.hT]at this) hc hn) fun w1 v w2 hH1 hf1 hR=>?_
 obtain ⟨⟨y1,p1,c1,rfl,hO1,hc1,hy1,hyy⟩,hf2⟩:=hR
 have hp2:Blk w2 pb T cs:=hf2.blk (hH1.get (i:=0) rfl rfl) (.inr (by simp))
 have hk2:KeepX ([pb]++rowL y) w w2:=(Hp.keepX (f:=⟨w,0,[T,tU64]⟩) ((hH1.drop 0).drop 0) hf1).thenF hf2
 have hb2:=hf2.blk (fr_row hf1 hW _ _ hb) (.inr (by simp))
 have hB2:Bys w2 b o cD D:=(hB.mono (fr_row hf1 hW8)).keep hf2
 have hc0:=mc (f:=⟨w2,0,[T,tU64]⟩) hb2 hW
 have hr1:y1.on=true→(y.on=true∧y1.b=y.b)∨w.heap.size≤y1.b:=fun ho=>by
  rcases hyy with e|e
  ·left;rw[e]at ho⊢;exact ⟨ho,rfl⟩
  ·right;have:=hf1.size;exact Nat.le_trans this e
 refine J.begin ⟨w2,0,[T,tU64]⟩ _ ok_refl (Hp.two hp2 hO1 (fun ho=>⟨hy1 ho,Nat.zero_le _⟩) (Nat.zero_le _) (by simp) (by simp) hTR) ?_
 refine jN (k:=?_)
 refine j_store (y:=⟨pb,T,cs,true,true,none⟩) (o:=off) 0 rfl rfl rfl rfl so84 rfl rfl rfl rfl (Nat.ble_eq_true_of_le (show off+1≤cs.length by omega)) ?_
 refine K5 (sQ fun K6=>cj_reg (jM (k:=jN (k:=jF 3 ru198 so36 (k:=jL ag36 hc0 3 (k:=jA (k:=K6 (CJ.t [(1,_),(6,_)] (k:=sQ fun K7=>cj_block ?_)))))))))
 intro w3 hH3 hf3
 refine c_loop (σ:=List Nat×List Nat×Nat×Nat×List Nat×Ent×Option Addr×Nat) (fun s=>[(1,.pointer (some ⟨pb,off,none⟩)),(6,.slice (some ⟨b,s.2.2.1,none⟩) s.2.1.length s.2.2.2.1)])
  (fun s w'=>Vs s.1 s.2.1∧Bys w' b s.2.2.1 s.2.2.2.1 s.2.1∧s.2.1.length≤1000000000000∧ns=s.2.2.2.2.1++s.1∧Own tU64 1 s.2.2.2.2.2.1 s.2.2.2.2.2.2.1 (l+s.2.2.2.2.1.length) s.2.2.2.2.2.2.2 (xs++s.2.2.2.2.1.map vU)∧s.2.2.2.2.2.2.2<9223372036854775808∧(s.2.2.2.2.2.1.on=true→Blk w' s.2.2.2.2.2.1.b tU64 s.2.2.2.2.2.1.cs)∧(s.2.2.2.2.2.1.on=true→(y.on=true∧s.2.2.2.2.2.1.b=y.b)∨w.heap.size≤s.2.2.2.2.2.1.b)∧Blk w' pb T (setL cs off [.slice s.2.2.2.2.2.2.1 (l+s.2.2.2.2.1.length) s.2.2.2.2.2.2.2])∧KeepX ([pb]++rowL y) w w')
  (fun s=>s.1.length) (ns,D,o,cD,[],y1,p1,c1) ⟨rfl,rfl,trivial⟩ ⟨hV,hB2.mono (fr_row hf3 hW8),hD,rfl,by simpa using hO1,hc1,fun ho=>by have:=hH3.get (i:=1) rfl ho;rwa [hO1.hT]at this,hr1,hH3.get (i:=0) rfl rfl,hk2.more (Hp.keepX (f:=⟨w2,0,[T,tU64]⟩) ((hH3.drop 0).drop 0) hf3) (row_more hr1)⟩ ?_
 rintro ⟨ms,D',o',c',dn,y',p',cc⟩ w4 ⟨hV4,hB4,hD4,hns4,hO4,hc4,hy4,hr4,hp4,hk4⟩ KL hKL
 try dsimp only at hV4 hB4 hD4 hns4 hO4 hc4 hy4 hr4 hp4
 have hcs4:(setL cs off [.slice p' (l+dn.length) cc])[off]? =some (.slice p' (l+dn.length) cc):=by simp only[setL];exact List.getElem?_set_self hoff
 have hl4:(setL cs off [.slice p' (l+dn.length) cc]).length=cs.length:=setL_length _ _ _
 refine C.begin ⟨w4,0,[T,tU64]⟩ _ ok_refl (Hp.two hp4 hO4 (fun ho=>⟨hy4 ho,Nat.zero_le _⟩) (Nat.zero_le _) (by simp) (by simp) hTR) ?_
 try dsimp only
 refine sQ fun K8=>sQ fun K9=>cj_reg (jM (k:=jE ru36 (k:=jG (k:=K9 ?_))))
 refine cj_dec rfl (fun h34=>?_) (fun h34=>?_)
 ·obtain ⟨n,ms,rfl⟩:∃n r,ms=n::r:=by
   cases ms with
   |nil=>have:D'=[]:=hV4;subst this;simp at h34
   |cons n r=>exact ⟨n,r,rfl⟩
  obtain ⟨bs,R,rfl,hv,hn5,hr⟩:=hV4
  have hvp:=hv.pos
  have hB5:Bys w4 b (cut o' c' bs.length 1) (c' - bs.length) R:=by
   have:=hB4.drop (i:=bs.length) (by simp)
   rwa [List.drop_left]at this
  have hnl:ns.length=dn.length+(ms.length+1):=by rw[hns4];simp
  refine cj_skip (K8 (cj_block (sQ fun K10=>cj_reg (jA (k:=K10 (sQ fun K11=>cj_reg (jA (k:=K11 (sQ fun K12=>sQ fun K13=>cj_reg (jM (k:=?_)))))))))))
  refine j_callQ (φ:=fun v=>v=.tuple #[.int .u64 (n:Nat),.slice (some ⟨b,cut o' c' bs.length 1,none⟩) R.length (c' - bs.length),.nilIface]) Tryz.call143 rfl rfl (fun w5 hH hf=>dvarint_c w5 b o' c' n bs R hv hn5 (hB4.mono (fr_row hf hW8)) hD4) fun v hv=>?_
  subst hv
  refine jM (k:=jX (k:=jX (k:=jX (k:=jA (k:=jA (k:=jA (k:=K13 (CJ.t [(1,_),(6,_),(7,_),(8,_)] (k:=sQ fun K14=>cj_reg (jM (k:=?_)))))))))))
  refine j_val rfl (fun _ _ h=>r_inil ud61 rfl h) (K14 (cj_if_f rfl (cj_skip (K12 (cj_reg (jM (k:=jM (k:=jN (k:=?_)))))))))
  refine j_valw rfl (fun a w ha hH hf=>r_ldH 0 rfl rfl ag84 rfl hcs4 ha hH) (jM (k:=?_))
  refine j_bslice1 ru84 so71 zv71 rfl rfl rfl rfl rfl fun b49=>?_
  refine j_appOC 1 rfl hO4 ru84 el71 rfl rfl rfl rfl (show l+dn.length+1≤100000000000 by omega) rfl fun y8 p8 c8 hO8 hc8 hr8=>?_
  refine jN (k:=?_)
  refine j_store (y:=⟨pb,T,setL cs off [.slice p' (l+dn.length) cc],true,true,none⟩) (o:=off) 0 rfl rfl rfl rfl so84 rfl rfl rfl rfl (Nat.ble_eq_true_of_le (show off+1≤(setL cs off [.slice p' (l+dn.length) cc]).length by omega)) ?_
  refine j_nil (ej_blk (ej_then ?_))
  exact fun w' hH hf=>hKL (ms,R,cut o' c' bs.length 1,c' - bs.length,dn++[n],y8,p8,c8) _ w' ⟨hr,hB5.mono (fr_row hf hW8),by simp only[List.length_append]at hD4;show R.length≤_;omega,by rw[hns4];simp,by
    have h8:=hO8
    rw[List.append_assoc]at h8
    simp only[List.length_append,List.length_singleton,List.map_append,List.map_cons,List.map_nil]
    exact h8,by show c8<_;omega,fun ho=>by have:=hH.get (i:=1) rfl ho;rwa [hO8.hT]at this,fun ho=>by
    rcases hr8 with ⟨e1,e2⟩|e
    ·rcases hr4 e1 with ⟨e3,e4⟩|e3
     ·exact .inl ⟨e3,e2.trans e4⟩
     ·right;show w.heap.size≤y8.b;rw[e2];exact e3
    ·right;exact Nat.le_trans hk4.size e,by
    have h9:=hH.get (i:=0) rfl rfl
    have e9:∀v u:Value,scal u=true→setL (setL cs off [v]) off u.cells.toList=setL cs off [u]:=fun v u hu=>by rw[scal_cells hu];simp only[setL,List.set_set]
    rw[e9 _ _ rfl]at h9
    simp only[List.length_append,List.length_singleton]
    exact h9,hk4.more (Hp.keepX (f:=⟨w4,0,[T,tU64]⟩) ((hH.drop 0).drop 0) hf) (row_more hr4)⟩ (by simp) ⟨rfl,rfl,trivial⟩
 ·refine cj_exit (K7 (sQ fun K15=>cj_reg (jA (k:=K15 (CJ.t [(4,_)] (k:=cj_ret ?_))))))
  exact ej_ret1 Tryz.results265 rfl fun w' hH hf=>⟨rfl,by
   have hms:ms=[]:=by
    have h0:D'.length=0:=by omega
    have:=Vs.len hV4
    exact List.eq_nil_of_length_eq_zero (by omega)
   subst hms
   rw[List.append_nil]at hns4
   subst hns4
   exact ⟨⟨y',p',cc,hO4,hc4,fun ho=>by have:=hH.get (i:=1) rfl ho;rwa [hO4.hT]at this,hr4,hH.get (i:=0) rfl rfl⟩,hk4.more (Hp.keepX (f:=⟨w4,0,[T,tU64]⟩) ((hH.drop 0).drop 0) hf) (row_more hr4)⟩⟩
theorem dscal_c (T iT:Nat) (sch:Sch) (ds:List Value) (tb:Nat→Nat) (hTB:T≠tBuf) (hT8:T≠tU8) (hTD:T≠tDecF) (hs:SchOK T iT sch) (hds:DsOK tb ds) (h1:∀(k:Nat) (g:FuncId),ds[k]? =some (Value.func (.func g) #[] #[])→∃off val,sch[k]? =some (some (g,off,val))) (h0:∀k,tb k=0→∀e,sch[k]? ≠some (some e)) (htb:∀k,tb k≤1)
    (w:World) (bb pb o k0:Nat) (m:Msg) (cs:List Value) (hm:MOK tb m) (hbuf:BufF w bb (.bys k0 (mB m))) (hp:Blk w pb T cs) (hoff:∀(k:Nat) g off val,sch[k]? =some (some (g,off,val))→o+off<cs.length)
    (hdec:∀w',Blk w' pb T cs→Tells iT (.pointer (some ⟨pb,o,none⟩)) ds w'):
    Calls Tryz.prog 105 #[ptr bb,.iface iT (.pointer (some ⟨pb,o,none⟩))] w (Ret fun v w'=>v=.nilIface∧Blk w' pb T ((flds m).foldl (apS sch o) cs)∧KeepX [bb,pb] w w'∧BufAt w' bb):=by
  have hne:∀w' cs',BufAt w' bb→Blk w' pb T cs'→pb≠bb:=fun w' cs' hb hq=>by
    obtain ⟨f,t,u,dv,tmp,hb⟩:=hb
    exact hq.ne hb hTB
  refine Calls.mono (dmsg_c w bb pb iT T _ ds tb m k0 cs hm (fun k=>by have:=htb k;omega) hds hbuf hp hT8 hTD (fun w' hf=>hdec w' (hf.blk hp (.inr (by simp))))
    (fun w1 pre w'=>KeepX [bb,pb] w1 w'∧BufAt w' bb∧Blk w' pb T (pre.foldl (apS sch o) cs)) fun w1 hf1=>?_) (Ret.mono fun v w' h=>?_)
  · have hb1:BufAt w1 bb:=(BufF.keep hbuf hf1).at_
    refine ⟨⟨.refl,hb1,hf1.blk hp (.inr (by simp))⟩,fun pre w' h=>h.1,fun pre w' h=>h.2.1,fun pre w2 w3 h k hb=>⟨h.1.trans' (k.mono (by simp)),hb,k.blk h.2.2 (by simpa using hne _ _ h.2.1 h.2.2)⟩,fun pre f w2 hpf h ht=>?_,fun pre f w2 g hpf h hbf hw hg=>?_⟩
    · refine ⟨h.1,h.2.1,?_⟩
      rw[List.foldl_append]
      have:apS sch o (pre.foldl (apS sch o) cs) f=pre.foldl (apS sch o) cs:=by
        unfold apS
        split
        · next g off val he=>exact absurd he (h0 _ ht _)
        · rfl
      simpa[this]using h.2.2
    · obtain ⟨off,val,he⟩:=h1 _ _ hg
      cases f with
      |bys k D=>have:=htb k;simp only at hw;omega
      |num k n=>
       obtain ⟨hn,tmp,hbk⟩:=hbf
       refine Calls.mono (hs k g off val he w2 bb pb o k n _ tmp hn hbk h.2.2 (by rw[fold_len];exact hoff k g off val he)) (Ret.mono fun v w3 hR=>?_)
       obtain ⟨rfl,h4,h5⟩:=hR
       refine ⟨rfl,h.1.trans' (h5.mono (by simp)),h.2.1.keep fun cs' hk=>h5.blk hk (by simpa using (hne _ _ h.2.1 h.2.2).symm),?_⟩
       rw[List.foldl_append]
       have:∀X,apS sch o X (.num k n)=setL X (o+off) [val n]:=fun X=>by
          unfold apS
          rw[he];rfl
       simpa[this]using h4
  · obtain ⟨rfl,w1,hf1,h2,h3,h4⟩:=h
    exact ⟨rfl,h4,h2.afterF hf1,h3⟩
theorem oneF_cons (k s:Nat) (f:Fld) (r:List Fld):oneF k s (f::r)=oneF k (if fkey f=k then fnum f else s) r:=rfl
abbrev vtSch:Sch:=[none,some (225,2,vI),some (226,3,vI)]
theorem vtSch_ok:SchOK tVT ivt vtSch:=fun k g off val h=>by
  rcases (by omega:k=0∨k=1∨k=2∨3≤k) with rfl|rfl|rfl|hk
  · cases h
  · cases h;exact vt1_s
  · cases h;exact vt2_s
  · rw[List.getElem?_eq_none (by simpa using hk)]at h;cases h
theorem vtDs_ok:DsOK tb2 vtDs:=⟨fun k h=>by
  rcases (by omega:k=0∨k=1∨k=2∨3≤k) with rfl|rfl|rfl|hk
  · exact absurd rfl h
  · exact ⟨_,rfl,call225⟩
  · exact ⟨_,rfl,call226⟩
  · exact absurd (by unfold tb2;rw[if_neg (by omega)]) h,fun k h=>by
  rcases (by omega:k=0∨k=1∨k=2∨3≤k) with rfl|rfl|rfl|hk
  · exact .inr rfl
  · cases h
  · cases h
  · exact .inl (List.getElem?_eq_none (by simpa using hk)),by decide⟩
theorem vtSch_ds:∀(k:Nat) (g:FuncId),(vtDs)[k]? =some (Value.func (.func g) #[] #[])→∃off val,(vtSch)[k]? =some (some (g,off,val)):=fun k g h=>by
  rcases (by omega:k=0∨k=1∨k=2∨3≤k) with rfl|rfl|rfl|hk
  · cases h
  · cases h;exact ⟨_,_,rfl⟩
  · cases h;exact ⟨_,_,rfl⟩
  · rw[List.getElem?_eq_none (by simpa using hk)]at h;cases h
theorem vtSch_no:∀k,tb2 k=0→∀e,(vtSch)[k]? ≠some (some e):=fun k h e he=>by
  rcases (by omega:k=0∨k=1∨k=2∨3≤k) with rfl|rfl|rfl|hk
  · cases he
  · cases h
  · cases h
  · rw[List.getElem?_eq_none (by simpa using hk)]at he;cases he
theorem vtSch_tb:∀k,tb2 k≤1:=fun k=>by unfold tb2;split<;>omega
theorem vtSch_off:∀(k:Nat) g off val,(vtSch)[k]? =some (some (g,off,val))→off<4:=fun k g off val h=>by
  rcases (by omega:k=0∨k=1∨k=2∨3≤k) with rfl|rfl|rfl|hk
  · cases h
  · cases h;omega
  · cases h;omega
  · rw[List.getElem?_eq_none (by simpa using hk)]at h;cases h
theorem vt_fold:∀(fs:List Fld) (z0 z1:Value) (n1 n2:Nat),fs.foldl (apS vtSch 0) [z0,z1,vI (n1),vI (n2)]=[z0,z1,vI (oneF 1 n1 fs),vI (oneF 2 n2 fs)]
  |[],_,_,_,_=>rfl
  |f::r,z0,z1,n1,n2=>by
    have key:=fun n1 n2=>vt_fold r z0 z1 n1 n2
    rw[List.foldl_cons]
    rcases (by omega:fkey f=0∨fkey f=1∨fkey f=2∨3≤fkey f) with hk|hk|hk|hk
    all_goals
      simp only[oneF_cons,hk,apS,vtSch,List.getElem?_cons_zero,List.getElem?_cons_succ,setL,List.set_cons_zero,List.set_cons_succ,Nat.zero_add,Nat.reduceEqDiff,if_true,if_false,Nat.reduceAdd]
      try first
        |exact key _ _
        |(have hne:∀j<3,¬fkey f=j:=fun j hj=>by omega
          have hn:([none,some (225,2,vI),some (226,3,vI)]:Sch)[fkey f]? =none:=List.getElem?_eq_none (by simpa using hk)
          rw[hn]
          simp only[if_neg (hne 1 (by omega)),if_neg (hne 2 (by omega))]
          exact key _ _)
abbrev lbSch:Sch:=[none,some (273,0,vI),some (274,1,vI),some (275,2,vI)]
theorem lbSch_ok:SchOK tLabel ilb lbSch:=fun k g off val h=>by
  rcases (by omega:k=0∨k=1∨k=2∨k=3∨4≤k) with rfl|rfl|rfl|rfl|hk
  · cases h
  · cases h;exact lb1_s
  · cases h;exact lb2_s
  · cases h;exact lb3_s
  · rw[List.getElem?_eq_none (by simpa using hk)]at h;cases h
theorem lbDs_ok:DsOK tb3 lbDs:=⟨fun k h=>by
  rcases (by omega:k=0∨k=1∨k=2∨k=3∨4≤k) with rfl|rfl|rfl|rfl|hk
  · exact absurd rfl h
  · exact ⟨_,rfl,call273⟩
  · exact ⟨_,rfl,call274⟩
  · exact ⟨_,rfl,call275⟩
  · exact absurd (by unfold tb3;rw[if_neg (by omega)]) h,fun k h=>by
  rcases (by omega:k=0∨k=1∨k=2∨k=3∨4≤k) with rfl|rfl|rfl|rfl|hk
  · exact .inr rfl
  · cases h
  · cases h
  · cases h
  · exact .inl (List.getElem?_eq_none (by simpa using hk)),by decide⟩
theorem lbSch_ds:∀(k:Nat) (g:FuncId),(lbDs)[k]? =some (Value.func (.func g) #[] #[])→∃off val,(lbSch)[k]? =some (some (g,off,val)):=fun k g h=>by
  rcases (by omega:k=0∨k=1∨k=2∨k=3∨4≤k) with rfl|rfl|rfl|rfl|hk
  · cases h
  · cases h;exact ⟨_,_,rfl⟩
  · cases h;exact ⟨_,_,rfl⟩
  · cases h;exact ⟨_,_,rfl⟩
  · rw[List.getElem?_eq_none (by simpa using hk)]at h;cases h
theorem lbSch_no:∀k,tb3 k=0→∀e,(lbSch)[k]? ≠some (some e):=fun k h e he=>by
  rcases (by omega:k=0∨k=1∨k=2∨k=3∨4≤k) with rfl|rfl|rfl|rfl|hk
  · cases he
  · cases h
  · cases h
  · cases h
  · rw[List.getElem?_eq_none (by simpa using hk)]at he;cases he
theorem lbSch_tb:∀k,tb3 k≤1:=fun k=>by unfold tb3;split<;>omega
theorem lbSch_off:∀(k:Nat) g off val,(lbSch)[k]? =some (some (g,off,val))→off<3:=fun k g off val h=>by
  rcases (by omega:k=0∨k=1∨k=2∨k=3∨4≤k) with rfl|rfl|rfl|rfl|hk
  · cases h
  · cases h;omega
  · cases h;omega
  · cases h;omega
  · rw[List.getElem?_eq_none (by simpa using hk)]at h;cases h
theorem lb_fold:∀(fs:List Fld) (n1 n2 n3:Nat),fs.foldl (apS lbSch 0) [vI (n1),vI (n2),vI (n3)]=[vI (oneF 1 n1 fs),vI (oneF 2 n2 fs),vI (oneF 3 n3 fs)]
  |[],_,_,_=>rfl
  |f::r,n1,n2,n3=>by
    have key:=fun n1 n2 n3=>lb_fold r n1 n2 n3
    rw[List.foldl_cons]
    rcases (by omega:fkey f=0∨fkey f=1∨fkey f=2∨fkey f=3∨4≤fkey f) with hk|hk|hk|hk|hk
    all_goals
      simp only[oneF_cons,hk,apS,lbSch,List.getElem?_cons_zero,List.getElem?_cons_succ,setL,List.set_cons_zero,List.set_cons_succ,Nat.zero_add,Nat.reduceEqDiff,if_true,if_false,Nat.reduceAdd]
      try first
        |exact key _ _ _
        |(have hne:∀j<4,¬fkey f=j:=fun j hj=>by omega
          have hn:([none,some (273,0,vI),some (274,1,vI),some (275,2,vI)]:Sch)[fkey f]? =none:=List.getElem?_eq_none (by simpa using hk)
          rw[hn]
          simp only[if_neg (hne 1 (by omega)),if_neg (hne 2 (by omega)),if_neg (hne 3 (by omega))]
          exact key _ _ _)
abbrev mpSch:Sch:=[none,some (232,0,vU),some (234,1,vU),some (235,2,vU),some (236,3,vU),some (237,10,vI),some (238,11,vI),some (239,6,vB),some (241,7,vB),some (242,8,vB),some (243,9,vB)]
theorem mpSch_ok:SchOK tMap imp mpSch:=fun k g off val h=>by
  rcases (by omega:k=0∨k=1∨k=2∨k=3∨k=4∨k=5∨k=6∨k=7∨k=8∨k=9∨k=10∨11≤k) with rfl|rfl|rfl|rfl|rfl|rfl|rfl|rfl|rfl|rfl|rfl|hk
  · cases h
  · cases h;exact mp1_s
  · cases h;exact mp2_s
  · cases h;exact mp3_s
  · cases h;exact mp4_s
  · cases h;exact mp5_s
  · cases h;exact mp6_s
  · cases h;exact mp7_s
  · cases h;exact mp8_s
  · cases h;exact mp9_s
  · cases h;exact mp10_s
  · rw[List.getElem?_eq_none (by simpa using hk)]at h;cases h
theorem mpDs_ok:DsOK tb10 mpDs:=⟨fun k h=>by
  rcases (by omega:k=0∨k=1∨k=2∨k=3∨k=4∨k=5∨k=6∨k=7∨k=8∨k=9∨k=10∨11≤k) with rfl|rfl|rfl|rfl|rfl|rfl|rfl|rfl|rfl|rfl|rfl|hk
  · exact absurd rfl h
  · exact ⟨_,rfl,call232⟩
  · exact ⟨_,rfl,call234⟩
  · exact ⟨_,rfl,call235⟩
  · exact ⟨_,rfl,call236⟩
  · exact ⟨_,rfl,call237⟩
  · exact ⟨_,rfl,call238⟩
  · exact ⟨_,rfl,call239⟩
  · exact ⟨_,rfl,call241⟩
  · exact ⟨_,rfl,call242⟩
  · exact ⟨_,rfl,call243⟩
  · exact absurd (by unfold tb10;rw[if_neg (by omega)]) h,fun k h=>by
  rcases (by omega:k=0∨k=1∨k=2∨k=3∨k=4∨k=5∨k=6∨k=7∨k=8∨k=9∨k=10∨11≤k) with rfl|rfl|rfl|rfl|rfl|rfl|rfl|rfl|rfl|rfl|rfl|hk
  · exact .inr rfl
  · cases h
  · cases h
  · cases h
  · cases h
  · cases h
  · cases h
  · cases h
  · cases h
  · cases h
  · cases h
  · exact .inl (List.getElem?_eq_none (by simpa using hk)),by decide⟩
theorem mpSch_ds:∀(k:Nat) (g:FuncId),(mpDs)[k]? =some (Value.func (.func g) #[] #[])→∃off val,(mpSch)[k]? =some (some (g,off,val)):=fun k g h=>by
  rcases (by omega:k=0∨k=1∨k=2∨k=3∨k=4∨k=5∨k=6∨k=7∨k=8∨k=9∨k=10∨11≤k) with rfl|rfl|rfl|rfl|rfl|rfl|rfl|rfl|rfl|rfl|rfl|hk
  · cases h
  · cases h;exact ⟨_,_,rfl⟩
  · cases h;exact ⟨_,_,rfl⟩
  · cases h;exact ⟨_,_,rfl⟩
  · cases h;exact ⟨_,_,rfl⟩
  · cases h;exact ⟨_,_,rfl⟩
  · cases h;exact ⟨_,_,rfl⟩
  · cases h;exact ⟨_,_,rfl⟩
  · cases h;exact ⟨_,_,rfl⟩
  · cases h;exact ⟨_,_,rfl⟩
  · cases h;exact ⟨_,_,rfl⟩
  · rw[List.getElem?_eq_none (by simpa using hk)]at h;cases h
theorem mpSch_no:∀k,tb10 k=0→∀e,(mpSch)[k]? ≠some (some e):=fun k h e he=>by
  rcases (by omega:k=0∨k=1∨k=2∨k=3∨k=4∨k=5∨k=6∨k=7∨k=8∨k=9∨k=10∨11≤k) with rfl|rfl|rfl|rfl|rfl|rfl|rfl|rfl|rfl|rfl|rfl|hk
  · cases he
  · cases h
  · cases h
  · cases h
  · cases h
  · cases h
  · cases h
  · cases h
  · cases h
  · cases h
  · cases h
  · rw[List.getElem?_eq_none (by simpa using hk)]at he;cases he
theorem mpSch_tb:∀k,tb10 k≤1:=fun k=>by unfold tb10;split<;>omega
theorem mpSch_off:∀(k:Nat) g off val,(mpSch)[k]? =some (some (g,off,val))→off<12:=fun k g off val h=>by
  rcases (by omega:k=0∨k=1∨k=2∨k=3∨k=4∨k=5∨k=6∨k=7∨k=8∨k=9∨k=10∨11≤k) with rfl|rfl|rfl|rfl|rfl|rfl|rfl|rfl|rfl|rfl|rfl|hk
  · cases h
  · cases h;omega
  · cases h;omega
  · cases h;omega
  · cases h;omega
  · cases h;omega
  · cases h;omega
  · cases h;omega
  · cases h;omega
  · cases h;omega
  · cases h;omega
  · rw[List.getElem?_eq_none (by simpa using hk)]at h;cases h
theorem mp_fold:∀(fs:List Fld) (z4 z5:Value) (n1 n2 n3 n4 n5 n6 n7 n8 n9 n10:Nat),fs.foldl (apS mpSch 0) [vU (n1),vU (n2),vU (n3),vU (n4),z4,z5,vB (n7),vB (n8),vB (n9),vB (n10),vI (n5),vI (n6)]=[vU (oneF 1 n1 fs),vU (oneF 2 n2 fs),vU (oneF 3 n3 fs),vU (oneF 4 n4 fs),z4,z5,vB (oneF 7 n7 fs),vB (oneF 8 n8 fs),vB (oneF 9 n9 fs),vB (oneF 10 n10 fs),vI (oneF 5 n5 fs),vI (oneF 6 n6 fs)]
  |[],_,_,_,_,_,_,_,_,_,_,_,_=>rfl
  |f::r,z4,z5,n1,n2,n3,n4,n5,n6,n7,n8,n9,n10=>by
    have key:=fun n1 n2 n3 n4 n5 n6 n7 n8 n9 n10=>mp_fold r z4 z5 n1 n2 n3 n4 n5 n6 n7 n8 n9 n10
    rw[List.foldl_cons]
    rcases (by omega:fkey f=0∨fkey f=1∨fkey f=2∨fkey f=3∨fkey f=4∨fkey f=5∨fkey f=6∨fkey f=7∨fkey f=8∨fkey f=9∨fkey f=10∨11≤fkey f) with hk|hk|hk|hk|hk|hk|hk|hk|hk|hk|hk|hk
    all_goals
      simp only[oneF_cons,hk,apS,mpSch,List.getElem?_cons_zero,List.getElem?_cons_succ,setL,List.set_cons_zero,List.set_cons_succ,Nat.zero_add,Nat.reduceEqDiff,if_true,if_false,Nat.reduceAdd]
      try first
        |exact key _ _ _ _ _ _ _ _ _ _
        |(have hne:∀j<11,¬fkey f=j:=fun j hj=>by omega
          have hn:([none,some (232,0,vU),some (234,1,vU),some (235,2,vU),some (236,3,vU),some (237,10,vI),some (238,11,vI),some (239,6,vB),some (241,7,vB),some (242,8,vB),some (243,9,vB)]:Sch)[fkey f]? =none:=List.getElem?_eq_none (by simpa using hk)
          rw[hn]
          simp only[if_neg (hne 1 (by omega)),if_neg (hne 2 (by omega)),if_neg (hne 3 (by omega)),if_neg (hne 4 (by omega)),if_neg (hne 5 (by omega)),if_neg (hne 6 (by omega)),if_neg (hne 7 (by omega)),if_neg (hne 8 (by omega)),if_neg (hne 9 (by omega)),if_neg (hne 10 (by omega))]
          exact key _ _ _ _ _ _ _ _ _ _)
abbrev lnSch:Sch:=[none,some (281,2,vU),some (282,1,vI)]
theorem lnSch_ok:SchOK tLine iln lnSch:=fun k g off val h=>by
  rcases (by omega:k=0∨k=1∨k=2∨3≤k) with rfl|rfl|rfl|hk
  · cases h
  · cases h;exact ln1_s
  · cases h;exact ln2_s
  · rw[List.getElem?_eq_none (by simpa using hk)]at h;cases h
theorem lnDs_ok:DsOK tb2 lnDs:=⟨fun k h=>by
  rcases (by omega:k=0∨k=1∨k=2∨3≤k) with rfl|rfl|rfl|hk
  · exact absurd rfl h
  · exact ⟨_,rfl,call281⟩
  · exact ⟨_,rfl,call282⟩
  · exact absurd (by unfold tb2;rw[if_neg (by omega)]) h,fun k h=>by
  rcases (by omega:k=0∨k=1∨k=2∨3≤k) with rfl|rfl|rfl|hk
  · exact .inr rfl
  · cases h
  · cases h
  · exact .inl (List.getElem?_eq_none (by simpa using hk)),by decide⟩
theorem lnSch_ds:∀(k:Nat) (g:FuncId),(lnDs)[k]? =some (Value.func (.func g) #[] #[])→∃off val,(lnSch)[k]? =some (some (g,off,val)):=fun k g h=>by
  rcases (by omega:k=0∨k=1∨k=2∨3≤k) with rfl|rfl|rfl|hk
  · cases h
  · cases h;exact ⟨_,_,rfl⟩
  · cases h;exact ⟨_,_,rfl⟩
  · rw[List.getElem?_eq_none (by simpa using hk)]at h;cases h
theorem lnSch_no:∀k,tb2 k=0→∀e,(lnSch)[k]? ≠some (some e):=fun k h e he=>by
  rcases (by omega:k=0∨k=1∨k=2∨3≤k) with rfl|rfl|rfl|hk
  · cases he
  · cases h
  · cases h
  · rw[List.getElem?_eq_none (by simpa using hk)]at he;cases he
theorem lnSch_tb:∀k,tb2 k≤1:=fun k=>by unfold tb2;split<;>omega
theorem lnSch_off:∀(k:Nat) g off val,(lnSch)[k]? =some (some (g,off,val))→off<3:=fun k g off val h=>by
  rcases (by omega:k=0∨k=1∨k=2∨3≤k) with rfl|rfl|rfl|hk
  · cases h
  · cases h;omega
  · cases h;omega
  · rw[List.getElem?_eq_none (by simpa using hk)]at h;cases h
theorem ln_fold:∀(fs:List Fld) (z0:Value) (n1 n2:Nat),fs.foldl (apS lnSch 0) [z0,vI (n2),vU (n1)]=[z0,vI (oneF 2 n2 fs),vU (oneF 1 n1 fs)]
  |[],_,_,_=>rfl
  |f::r,z0,n1,n2=>by
    have key:=fun n1 n2=>ln_fold r z0 n1 n2
    rw[List.foldl_cons]
    rcases (by omega:fkey f=0∨fkey f=1∨fkey f=2∨3≤fkey f) with hk|hk|hk|hk
    all_goals
      simp only[oneF_cons,hk,apS,lnSch,List.getElem?_cons_zero,List.getElem?_cons_succ,setL,List.set_cons_zero,List.set_cons_succ,Nat.zero_add,Nat.reduceEqDiff,if_true,if_false,Nat.reduceAdd]
      try first
        |exact key _ _
        |(have hne:∀j<3,¬fkey f=j:=fun j hj=>by omega
          have hn:([none,some (281,2,vU),some (282,1,vI)]:Sch)[fkey f]? =none:=List.getElem?_eq_none (by simpa using hk)
          rw[hn]
          simp only[if_neg (hne 1 (by omega)),if_neg (hne 2 (by omega))]
          exact key _ _)
abbrev fnSch:Sch:=[none,some (248,0,vU),some (249,5,vI),some (250,6,vI),some (251,7,vI),some (252,4,vI)]
theorem fnSch_ok:SchOK tFun ifn fnSch:=fun k g off val h=>by
  rcases (by omega:k=0∨k=1∨k=2∨k=3∨k=4∨k=5∨6≤k) with rfl|rfl|rfl|rfl|rfl|rfl|hk
  · cases h
  · cases h;exact fn1_s
  · cases h;exact fn2_s
  · cases h;exact fn3_s
  · cases h;exact fn4_s
  · cases h;exact fn5_s
  · rw[List.getElem?_eq_none (by simpa using hk)]at h;cases h
theorem fnDs_ok:DsOK tb5 fnDs:=⟨fun k h=>by
  rcases (by omega:k=0∨k=1∨k=2∨k=3∨k=4∨k=5∨6≤k) with rfl|rfl|rfl|rfl|rfl|rfl|hk
  · exact absurd rfl h
  · exact ⟨_,rfl,call248⟩
  · exact ⟨_,rfl,call249⟩
  · exact ⟨_,rfl,call250⟩
  · exact ⟨_,rfl,call251⟩
  · exact ⟨_,rfl,call252⟩
  · exact absurd (by unfold tb5;rw[if_neg (by omega)]) h,fun k h=>by
  rcases (by omega:k=0∨k=1∨k=2∨k=3∨k=4∨k=5∨6≤k) with rfl|rfl|rfl|rfl|rfl|rfl|hk
  · exact .inr rfl
  · cases h
  · cases h
  · cases h
  · cases h
  · cases h
  · exact .inl (List.getElem?_eq_none (by simpa using hk)),by decide⟩
theorem fnSch_ds:∀(k:Nat) (g:FuncId),(fnDs)[k]? =some (Value.func (.func g) #[] #[])→∃off val,(fnSch)[k]? =some (some (g,off,val)):=fun k g h=>by
  rcases (by omega:k=0∨k=1∨k=2∨k=3∨k=4∨k=5∨6≤k) with rfl|rfl|rfl|rfl|rfl|rfl|hk
  · cases h
  · cases h;exact ⟨_,_,rfl⟩
  · cases h;exact ⟨_,_,rfl⟩
  · cases h;exact ⟨_,_,rfl⟩
  · cases h;exact ⟨_,_,rfl⟩
  · cases h;exact ⟨_,_,rfl⟩
  · rw[List.getElem?_eq_none (by simpa using hk)]at h;cases h
theorem fnSch_no:∀k,tb5 k=0→∀e,(fnSch)[k]? ≠some (some e):=fun k h e he=>by
  rcases (by omega:k=0∨k=1∨k=2∨k=3∨k=4∨k=5∨6≤k) with rfl|rfl|rfl|rfl|rfl|rfl|hk
  · cases he
  · cases h
  · cases h
  · cases h
  · cases h
  · cases h
  · rw[List.getElem?_eq_none (by simpa using hk)]at he;cases he
theorem fnSch_tb:∀k,tb5 k≤1:=fun k=>by unfold tb5;split<;>omega
theorem fnSch_off:∀(k:Nat) g off val,(fnSch)[k]? =some (some (g,off,val))→off<8:=fun k g off val h=>by
  rcases (by omega:k=0∨k=1∨k=2∨k=3∨k=4∨k=5∨6≤k) with rfl|rfl|rfl|rfl|rfl|rfl|hk
  · cases h
  · cases h;omega
  · cases h;omega
  · cases h;omega
  · cases h;omega
  · cases h;omega
  · rw[List.getElem?_eq_none (by simpa using hk)]at h;cases h
theorem fn_fold:∀(fs:List Fld) (z1 z2 z3:Value) (n1 n2 n3 n4 n5:Nat),fs.foldl (apS fnSch 0) [vU (n1),z1,z2,z3,vI (n5),vI (n2),vI (n3),vI (n4)]=[vU (oneF 1 n1 fs),z1,z2,z3,vI (oneF 5 n5 fs),vI (oneF 2 n2 fs),vI (oneF 3 n3 fs),vI (oneF 4 n4 fs)]
  |[],_,_,_,_,_,_,_,_=>rfl
  |f::r,z1,z2,z3,n1,n2,n3,n4,n5=>by
    have key:=fun n1 n2 n3 n4 n5=>fn_fold r z1 z2 z3 n1 n2 n3 n4 n5
    rw[List.foldl_cons]
    rcases (by omega:fkey f=0∨fkey f=1∨fkey f=2∨fkey f=3∨fkey f=4∨fkey f=5∨6≤fkey f) with hk|hk|hk|hk|hk|hk|hk
    all_goals
      simp only[oneF_cons,hk,apS,fnSch,List.getElem?_cons_zero,List.getElem?_cons_succ,setL,List.set_cons_zero,List.set_cons_succ,Nat.zero_add,Nat.reduceEqDiff,if_true,if_false,Nat.reduceAdd]
      try first
        |exact key _ _ _ _ _
        |(have hne:∀j<6,¬fkey f=j:=fun j hj=>by omega
          have hn:([none,some (248,0,vU),some (249,5,vI),some (250,6,vI),some (251,7,vI),some (252,4,vI)]:Sch)[fkey f]? =none:=List.getElem?_eq_none (by simpa using hk)
          rw[hn]
          simp only[if_neg (hne 1 (by omega)),if_neg (hne 2 (by omega)),if_neg (hne 3 (by omega)),if_neg (hne 4 (by omega)),if_neg (hne 5 (by omega))]
          exact key _ _ _ _ _)
theorem BufF.mono {bb:Nat} {f:Fld} (h:BufF w bb f) (k1:∀cs,Blk w bb tBuf cs→Blk w' bb tBuf cs) (k2:∀b cs,Blk w b tU8 cs→Blk w' b tU8 cs):BufF w' bb f:=by
 cases f with
 |num n m=>obtain ⟨h1,tmp,h⟩:=h;exact ⟨h1,tmp,k1 _ h⟩
 |bys n D=>obtain ⟨h1,b,o,c,tmp,h,h2⟩:=h;exact ⟨h1,b,o,c,tmp,k1 _ h,h2.mono k2⟩
theorem bufW {W:List Nat} {bb:Nat} {f:Fld} (k:Fm.ok ⟨w,0,W⟩ w') (h:BufF w bb f) (h1:W.all (fun t=> !Nat.beq t tBuf)=true) (h2:W.all (fun t=> !Nat.beq t tU8)=true):BufF w' bb f:=h.mono (fun cs=>fr_row k h1 _ cs) (fr_row k h2)
theorem BufAt.ne {bb:Nat} (h:BufAt w bb) (k:Blk w b T cs) (hT:T≠tBuf):b≠bb:=by
 obtain ⟨f,t,u,dv,tmp,h⟩:=h
 exact k.ne h hT
structure SubRow (T2:Nat) (φ:World→Nat→Prop) (w w':World) (bb pb T off:Nat) (cs:List Value) (y:Ent) (l:Nat) (xs:List Value):Prop where
 ex:∃xb y' p' c',Own T2 1 y' p' (l+1) c' (xs++[ptr xb])∧(y'.on=true→Blk w' y'.b T2 y'.cs)∧(y'.on=true→(y.on=true∧y'.b=y.b)∨w.heap.size≤y'.b)∧Blk w' pb T (setL cs off [.slice p' (l+1) c'])∧w.heap.size≤xb∧φ w' xb
 kx:KeepX ([bb,pb]++rowL y) w w'
 buf:BufAt w' bb
structure RowRow (T2 sz:Nat) (zs:List Value) (w w':World) (bb pb T off:Nat) (cs:List Value) (y:Ent) (l:Nat) (xs:List Value):Prop where
 ex:∃y' p' c',Own T2 sz y' p' (l+1) c' (xs++zs)∧(y'.on=true→Blk w' y'.b T2 y'.cs)∧(y'.on=true→(y.on=true∧y'.b=y.b)∨w.heap.size≤y'.b)∧Blk w' pb T (setL cs off [.slice p' (l+1) c'])
 kx:KeepX ([bb,pb]++rowL y) w w'
 buf:BufAt w' bb
theorem rowL_nin {q T2:Nat} (hy:y.on=true→Blk w y.b T2 y.cs) (h:Blk w q T cs) (hT:T≠T2):q∉rowL y:=fun hm=>by
 unfold rowL at hm
 split at hm
 ·next ho=>simp at hm;exact h.ne (hy ho) hT hm
 ·cases hm
theorem sm1_l (w:World) (bb pb:Nat) (f:Fld) (ns:List Nat) (cs:List Value) (y:Ent) (p:Option Addr) (l c:Nat) (xs:List Value) (hf:BufF w bb f) (hv:GV f ns) (hp:Blk w pb tSam cs) (hcs:cs[5]? =some (.slice p l c)) (hO:Own tU64 1 y p l c xs) (hy:y.on=true→Blk w y.b tU64 y.cs) (hc:c<9223372036854775808) (hn:l+ns.length≤100000000000):
  Calls Tryz.prog 264 #[ptr bb,.iface ism (ptr pb)] w (Ret fun v w'=>v=.nilIface∧NumRow tU64 vU w w' pb tSam 5 cs y l xs ns):=by
 have hcall:∀w1,Fr 0 [] w w1→Calls Tryz.prog 265 #[ptr bb,.pointer (some ⟨pb,5,none⟩)] w1 (Ret fun v w'=>v=.nilIface∧NumRow tU64 vU w1 w' pb tSam 5 cs y l xs ns):=fun w1 h=>by
  have hf:=hf.keep h
  have hy:=fun ho=>h.blk (hy ho) (.inr (by simp))
  have hp:=h.blk hp (.inr (by simp))
  cases f with
  |num k n=>
   obtain ⟨rfl,hn2⟩:=hv
   obtain ⟨-,tmp,hb⟩:=hf
   exact dUN_c w1 bb pb tSam 5 k n cs tmp y p l c xs hb hp hcs hO hy hc rfl (by decide) hn
  |bys k D=>
   obtain ⟨hD,b,o,c',tmp,hb,hB⟩:=hf
   exact dUB_c w1 bb pb tSam 5 k b o c' cs tmp D ns y p l c xs hb hB hD hv hp hcs hO hy hc rfl rfl (by decide) hn
 refine startJ (args:=[_,_]) [(0,_),(1,_)] 0 [] [] func264 rfl ntmps264 rfl rfl .nil ?_
 refine sQ fun K1=>cj_reg (jA (k:=K1 (sQ fun K2=>cj_reg (jM (k:=jM (k:=?_))))))
 refine j_val rfl (fun _ _ h=>r_assert ru142 rfl h) (jN (k:=jF 5 ru147 so84 (k:=?_)))
 refine j_callE (R:=fun w1 v w'=>v=.nilIface∧NumRow tU64 vU w1 w' pb tSam 5 cs y l xs ns) call265 rfl rfl (fun w1 hH hf=>hcall w1 hf) fun w1 v w2 hH1 hf1 hR=>?_
 obtain ⟨rfl,hN⟩:=hR
 refine J.begin ⟨w2,0,[]⟩ [] ok_refl .nil ?_
 refine jA (k:=K2 (cj_ret ?_))
 exact ej_ret1 results264 rfl fun w' hH hf=>⟨rfl,hN.fr hf1 hf⟩
theorem sm2_l (w:World) (bb pb:Nat) (f:Fld) (ns:List Nat) (cs:List Value) (y:Ent) (p:Option Addr) (l c:Nat) (xs:List Value) (hf:BufF w bb f) (hv:GV f ns) (hp:Blk w pb tSam cs) (hcs:cs[1]? =some (.slice p l c)) (hO:Own tI64 1 y p l c xs) (hy:y.on=true→Blk w y.b tI64 y.cs) (hc:c<9223372036854775808) (hn:l+ns.length≤100000000000):
  Calls Tryz.prog 266 #[ptr bb,.iface ism (ptr pb)] w (Ret fun v w'=>v=.nilIface∧NumRow tI64 vI w w' pb tSam 1 cs y l xs ns):=by
 have hcall:∀w1,Fr 0 [] w w1→Calls Tryz.prog 212 #[ptr bb,.pointer (some ⟨pb,1,none⟩)] w1 (Ret fun v w'=>v=.nilIface∧NumRow tI64 vI w1 w' pb tSam 1 cs y l xs ns):=fun w1 h=>by
  have hf:=hf.keep h
  have hy:=fun ho=>h.blk (hy ho) (.inr (by simp))
  have hp:=h.blk hp (.inr (by simp))
  cases f with
  |num k n=>
   obtain ⟨rfl,hn2⟩:=hv
   obtain ⟨-,tmp,hb⟩:=hf
   exact dIN_c w1 bb pb tSam 1 k n cs tmp y p l c xs hb hp hcs hO hy hc rfl (by decide) hn
  |bys k D=>
   obtain ⟨hD,b,o,c',tmp,hb,hB⟩:=hf
   exact dIB_c w1 bb pb tSam 1 k b o c' cs tmp D ns y p l c xs hb hB hD hv hp hcs hO hy hc rfl rfl (by decide) hn
 refine startJ (args:=[_,_]) [(0,_),(1,_)] 0 [] [] func266 rfl ntmps266 rfl rfl .nil ?_
 refine sQ fun K1=>cj_reg (jA (k:=K1 (sQ fun K2=>cj_reg (jM (k:=jM (k:=?_))))))
 refine j_val rfl (fun _ _ h=>r_assert ru142 rfl h) (jN (k:=jF 1 ru147 so53 (k:=?_)))
 refine j_callE (R:=fun w1 v w'=>v=.nilIface∧NumRow tI64 vI w1 w' pb tSam 1 cs y l xs ns) call212 rfl rfl (fun w1 hH hf=>hcall w1 hf) fun w1 v w2 hH1 hf1 hR=>?_
 obtain ⟨rfl,hN⟩:=hR
 refine J.begin ⟨w2,0,[]⟩ [] ok_refl .nil ?_
 refine jA (k:=K2 (cj_ret ?_))
 exact ej_ret1 results266 rfl fun w' hH hf=>⟨rfl,hN.fr hf1 hf⟩
theorem pf13_l (w:World) (bb pb:Nat) (f:Fld) (ns:List Nat) (cs:List Value) (y:Ent) (p:Option Addr) (l c:Nat) (xs:List Value) (hf:BufF w bb f) (hv:GV f ns) (hp:Blk w pb tProf cs) (hcs:cs[13]? =some (.slice p l c)) (hO:Own tI64 1 y p l c xs) (hy:y.on=true→Blk w y.b tI64 y.cs) (hc:c<9223372036854775808) (hn:l+ns.length≤100000000000):
  Calls Tryz.prog 211 #[ptr bb,.iface ipf (ptr pb)] w (Ret fun v w'=>v=.nilIface∧NumRow tI64 vI w w' pb tProf 13 cs y l xs ns):=by
 have hcall:∀w1,Fr 0 [] w w1→Calls Tryz.prog 212 #[ptr bb,.pointer (some ⟨pb,13,none⟩)] w1 (Ret fun v w'=>v=.nilIface∧NumRow tI64 vI w1 w' pb tProf 13 cs y l xs ns):=fun w1 h=>by
  have hf:=hf.keep h
  have hy:=fun ho=>h.blk (hy ho) (.inr (by simp))
  have hp:=h.blk hp (.inr (by simp))
  cases f with
  |num k n=>
   obtain ⟨rfl,hn2⟩:=hv
   obtain ⟨-,tmp,hb⟩:=hf
   exact dIN_c w1 bb pb tProf 13 k n cs tmp y p l c xs hb hp hcs hO hy hc rfl (by decide) hn
  |bys k D=>
   obtain ⟨hD,b,o,c',tmp,hb,hB⟩:=hf
   exact dIB_c w1 bb pb tProf 13 k b o c' cs tmp D ns y p l c xs hb hB hD hv hp hcs hO hy hc rfl rfl (by decide) hn
 refine startJ (args:=[_,_]) [(0,_),(1,_)] 0 [] [] func211 rfl ntmps211 rfl rfl .nil ?_
 refine sQ fun K1=>cj_reg (jA (k:=K1 (sQ fun K2=>cj_reg (jM (k:=jM (k:=?_))))))
 refine j_val rfl (fun _ _ h=>r_assert ru59 rfl h) (jN (k:=jF 13 ru125 so53 (k:=?_)))
 refine j_callE (R:=fun w1 v w'=>v=.nilIface∧NumRow tI64 vI w1 w' pb tProf 13 cs y l xs ns) call212 rfl rfl (fun w1 hH hf=>hcall w1 hf) fun w1 v w2 hH1 hf1 hR=>?_
 obtain ⟨rfl,hN⟩:=hR
 refine J.begin ⟨w2,0,[]⟩ [] ok_refl .nil ?_
 refine jA (k:=K2 (cj_ret ?_))
 exact ej_ret1 results211 rfl fun w' hH hf=>⟨rfl,hN.fr hf1 hf⟩
abbrev zty:List Value:=[.string ⟨#[]⟩,.string ⟨#[]⟩,.int .i64 0,.int .i64 0]
theorem ty_m (w:World) (bb pb k l c:Nat) (M:List Nat) (cs:List Value) (y:Ent) (p:Option Addr) (xs:List Value) (φ:World→Nat→Prop) (hφ:∀w1 w2 b,φ w1 b→Fr 0 [] w1 w2→φ w2 b) (hfB:BufF w bb (.bys k M)) (hp:Blk w pb tProf cs) (hcs:cs[0]? =some (.slice p l c)) (hO:Own pVT 1 y p l c xs)
  (hy:y.on=true→Blk w y.b pVT y.cs) (hn:l+1≤100000000000) (hdm:∀w1 xb,Blk w1 xb tVT zty→BufF w1 bb (.bys k M)→w.heap.size≤xb→Calls Tryz.prog 105 #[ptr bb,.iface ivt (ptr xb)] w1 (Ret fun v w'=>v=.nilIface∧φ w' xb∧KeepX [bb,xb] w1 w'∧BufAt w' bb)):
  Calls Tryz.prog 197 #[ptr bb,.iface ipf (ptr pb)] w (Ret fun v w'=>v=.nilIface∧SubRow pVT φ w w' bb pb tProf 0 cs y l xs):=by
 have hoff:=(List.getElem?_eq_some_iff.1 hcs).1
 refine startJ (args:=[_,_]) [(0,_),(1,_)] 0 [tProf,pVT] _ func197 rfl ntmps197 rfl rfl (Hp.two hp hO (fun ho=>⟨hy ho,Nat.zero_le _⟩) (Nat.zero_le _) (by simp) (by simp) (by decide)) ?_
 refine sQ fun K1=>cj_reg (jA (k:=K1 (sQ fun K2=>cj_reg ?_)))
 refine j_allocA (zs:=[(.string ⟨#[]⟩),(.string ⟨#[]⟩),(.int .i64 0),(.int .i64 0)]) zv127 rfl fun b7=>jA (k:=K2 (sQ fun K3=>cj_reg (jM (k:=?_))))
 refine j_val rfl (fun _ _ h=>r_assert ru59 rfl h) (jA (k:=K3 (sQ fun K4=>cj_reg (jM (k:=jM (k:=jN (k:=jF 0 ru125 so118 (k:=?_))))))))
 refine j_valw rfl (fun a w ha hH hf=>r_ldH 1 rfl rfl ag118 rfl hcs ha hH) (jM (k:=?_))
 refine j_bslice1 ru118 so123 zv123 rfl rfl rfl rfl rfl fun b16=>?_
 refine j_appOC 2 rfl hO ru118 el123 rfl rfl rfl rfl hn rfl fun y8 p8 c8 hO8 hc8 hr8=>?_
 refine jN (k:=jF 0 ru125 so118 (k:=?_))
 refine j_store (y:=⟨pb,tProf,cs,true,true,none⟩) (o:=0) 1 rfl rfl rfl rfl so118 rfl rfl rfl rfl (Nat.ble_eq_true_of_le (show 0+1≤cs.length by omega)) ?_
 refine K4 (CJ.t [(0,_),(5,_)] (k:=sQ fun K5=>cj_reg (jM (k:=jM (k:=?_)))))
 refine j_val rfl (fun _ _ h=>r_mki ru123 rfl rfl h) ?_
 refine j_callE (R:=fun w1 v w'=>v=.nilIface∧φ w' b7∧KeepX [bb,b7] w1 w'∧BufAt w' bb) call105 rfl rfl (fun w1 hH hf=>hdm w1 b7 (hH.get (i:=0) rfl rfl) (bufW hf hfB rfl rfl) (hH.fresh' (i:=0) rfl rfl)) fun w1 v w2 hH1 hf1 hR=>?_
 obtain ⟨rfl,hφ2,hk2,hb2⟩:=hR
 have hxb:w.heap.size≤b7:=hH1.fresh' (i:=0) rfl rfl
 have hka:KeepX ([pb]++rowL y) w w1:=Hp.keepX (f:=⟨w,0,[tProf,pVT]⟩) (((hH1.drop 0).drop 0).drop 0) hf1
 have hpb1:Blk w1 pb tProf (setL cs 0 [.slice p8 (l+1) c8]):=hH1.get (i:=1) rfl rfl
 have hx1:Blk w1 b7 tVT zty:=hH1.get (i:=0) rfl rfl
 have hbf1:BufAt w1 bb:=(bufW hf1 hfB rfl rfl).at_
 have hpl:=hp.lt
 have hpb2:=hk2.blk hpb1 (by simp only[List.mem_cons,List.mem_nil_iff,or_false,not_or];exact ⟨hbf1.ne hpb1 (by decide),by omega⟩)
 have hy2:y8.on=true→Blk w2 y8.b pVT y8.cs:=fun ho=>by
  have h8:=hH1.get (i:=2) rfl ho
  rw[hO8.hT]at h8
  exact hk2.blk h8 (by simp only[List.mem_cons,List.mem_nil_iff,or_false,not_or];exact ⟨hbf1.ne h8 (by decide),h8.ne hx1 (by decide)⟩)
 have hkk:KeepX ([bb,pb]++rowL y) w w2:=(hka.trans hk2).drop fun q hq=>by
  simp only[List.mem_append,List.mem_cons,List.mem_nil_iff,or_false]at hq⊢
  rcases hq with (hq|hq)|hq|hq
  ·exact .inl (.inl (.inr hq))
  ·exact .inl (.inr hq)
  ·exact .inl (.inl (.inl hq))
  ·right;omega
 refine J.begin ⟨w2,0,[]⟩ [] ok_refl .nil ?_
 refine jA (k:=K5 (cj_ret ?_))
 exact ej_ret1 results197 rfl fun w' hH hf=>⟨rfl,⟨b7,y8,p8,c8,hO8,fun ho=>hf.blk (hy2 ho) (.inr (by simp)),fun _=>hr8,hf.blk hpb2 (.inr (by simp)),hxb,hφ _ _ _ hφ2 hf⟩,hkk.thenF hf,hb2.keep fun cs hk=>hf.blk hk (.inr (by simp))⟩
abbrev zsa:List Value:=[.slice none 0 0,.slice none 0 0,.map none,.map none,.map none,.slice none 0 0,.slice none 0 0]
theorem sa_m (w:World) (bb pb k l c:Nat) (M:List Nat) (cs:List Value) (y:Ent) (p:Option Addr) (xs:List Value) (φ:World→Nat→Prop) (hφ:∀w1 w2 b,φ w1 b→Fr 0 [] w1 w2→φ w2 b) (hfB:BufF w bb (.bys k M)) (hp:Blk w pb tProf cs) (hcs:cs[2]? =some (.slice p l c)) (hO:Own pSam 1 y p l c xs)
  (hy:y.on=true→Blk w y.b pSam y.cs) (hn:l+1≤100000000000) (hdm:∀w1 xb,Blk w1 xb tSam zsa→BufF w1 bb (.bys k M)→w.heap.size≤xb→Calls Tryz.prog 105 #[ptr bb,.iface ism (ptr xb)] w1 (Ret fun v w'=>v=.nilIface∧φ w' xb∧KeepX [bb,xb] w1 w'∧BufAt w' bb)):
  Calls Tryz.prog 198 #[ptr bb,.iface ipf (ptr pb)] w (Ret fun v w'=>v=.nilIface∧SubRow pSam φ w w' bb pb tProf 2 cs y l xs):=by
 have hoff:=(List.getElem?_eq_some_iff.1 hcs).1
 refine startJ (args:=[_,_]) [(0,_),(1,_)] 0 [tProf,pSam] _ func198 rfl ntmps198 rfl rfl (Hp.two hp hO (fun ho=>⟨hy ho,Nat.zero_le _⟩) (Nat.zero_le _) (by simp) (by simp) (by decide)) ?_
 refine sQ fun K1=>cj_reg (jA (k:=K1 (sQ fun K2=>cj_reg ?_)))
 refine j_allocA (zs:=[(.slice none 0 0),(.slice none 0 0),(.map none),(.map none),(.map none),(.slice none 0 0),(.slice none 0 0)]) zv147 rfl fun b7=>jA (k:=K2 (sQ fun K3=>cj_reg (jM (k:=?_))))
 refine j_val rfl (fun _ _ h=>r_assert ru59 rfl h) (jA (k:=K3 (sQ fun K4=>cj_reg (jM (k:=jM (k:=jN (k:=jF 2 ru125 so119 (k:=?_))))))))
 refine j_valw rfl (fun a w ha hH hf=>r_ldH 1 rfl rfl ag119 rfl hcs ha hH) (jM (k:=?_))
 refine j_bslice1 ru119 so142 zv142 rfl rfl rfl rfl rfl fun b16=>?_
 refine j_appOC 2 rfl hO ru119 el142 rfl rfl rfl rfl hn rfl fun y8 p8 c8 hO8 hc8 hr8=>?_
 refine jN (k:=jF 2 ru125 so119 (k:=?_))
 refine j_store (y:=⟨pb,tProf,cs,true,true,none⟩) (o:=2) 1 rfl rfl rfl rfl so119 rfl rfl rfl rfl (Nat.ble_eq_true_of_le (show 2+1≤cs.length by omega)) ?_
 refine K4 (CJ.t [(0,_),(5,_)] (k:=sQ fun K5=>cj_reg (jM (k:=jM (k:=?_)))))
 refine j_val rfl (fun _ _ h=>r_mki ru142 rfl rfl h) ?_
 refine j_callE (R:=fun w1 v w'=>v=.nilIface∧φ w' b7∧KeepX [bb,b7] w1 w'∧BufAt w' bb) call105 rfl rfl (fun w1 hH hf=>hdm w1 b7 (hH.get (i:=0) rfl rfl) (bufW hf hfB rfl rfl) (hH.fresh' (i:=0) rfl rfl)) fun w1 v w2 hH1 hf1 hR=>?_
 obtain ⟨rfl,hφ2,hk2,hb2⟩:=hR
 have hxb:w.heap.size≤b7:=hH1.fresh' (i:=0) rfl rfl
 have hka:KeepX ([pb]++rowL y) w w1:=Hp.keepX (f:=⟨w,0,[tProf,pSam]⟩) (((hH1.drop 0).drop 0).drop 0) hf1
 have hpb1:Blk w1 pb tProf (setL cs 2 [.slice p8 (l+1) c8]):=hH1.get (i:=1) rfl rfl
 have hx1:Blk w1 b7 tSam zsa:=hH1.get (i:=0) rfl rfl
 have hbf1:BufAt w1 bb:=(bufW hf1 hfB rfl rfl).at_
 have hpl:=hp.lt
 have hpb2:=hk2.blk hpb1 (by simp only[List.mem_cons,List.mem_nil_iff,or_false,not_or];exact ⟨hbf1.ne hpb1 (by decide),by omega⟩)
 have hy2:y8.on=true→Blk w2 y8.b pSam y8.cs:=fun ho=>by
  have h8:=hH1.get (i:=2) rfl ho
  rw[hO8.hT]at h8
  exact hk2.blk h8 (by simp only[List.mem_cons,List.mem_nil_iff,or_false,not_or];exact ⟨hbf1.ne h8 (by decide),h8.ne hx1 (by decide)⟩)
 have hkk:KeepX ([bb,pb]++rowL y) w w2:=(hka.trans hk2).drop fun q hq=>by
  simp only[List.mem_append,List.mem_cons,List.mem_nil_iff,or_false]at hq⊢
  rcases hq with (hq|hq)|hq|hq
  ·exact .inl (.inl (.inr hq))
  ·exact .inl (.inr hq)
  ·exact .inl (.inl (.inl hq))
  ·right;omega
 refine J.begin ⟨w2,0,[]⟩ [] ok_refl .nil ?_
 refine jA (k:=K5 (cj_ret ?_))
 exact ej_ret1 results198 rfl fun w' hH hf=>⟨rfl,⟨b7,y8,p8,c8,hO8,fun ho=>hf.blk (hy2 ho) (.inr (by simp)),fun _=>hr8,hf.blk hpb2 (.inr (by simp)),hxb,hφ _ _ _ hφ2 hf⟩,hkk.thenF hf,hb2.keep fun cs hk=>hf.blk hk (.inr (by simp))⟩
abbrev zma:List Value:=[.int .u64 0,.int .u64 0,.int .u64 0,.int .u64 0,.string ⟨#[]⟩,.string ⟨#[]⟩,.bool false,.bool false,.bool false,.bool false,.int .i64 0,.int .i64 0]
theorem ma_m (w:World) (bb pb k l c:Nat) (M:List Nat) (cs:List Value) (y:Ent) (p:Option Addr) (xs:List Value) (φ:World→Nat→Prop) (hφ:∀w1 w2 b,φ w1 b→Fr 0 [] w1 w2→φ w2 b) (hfB:BufF w bb (.bys k M)) (hp:Blk w pb tProf cs) (hcs:cs[3]? =some (.slice p l c)) (hO:Own pMap 1 y p l c xs)
  (hy:y.on=true→Blk w y.b pMap y.cs) (hn:l+1≤100000000000) (hdm:∀w1 xb,Blk w1 xb tMap zma→BufF w1 bb (.bys k M)→w.heap.size≤xb→Calls Tryz.prog 105 #[ptr bb,.iface imp (ptr xb)] w1 (Ret fun v w'=>v=.nilIface∧φ w' xb∧KeepX [bb,xb] w1 w'∧BufAt w' bb)):
  Calls Tryz.prog 199 #[ptr bb,.iface ipf (ptr pb)] w (Ret fun v w'=>v=.nilIface∧SubRow pMap φ w w' bb pb tProf 3 cs y l xs):=by
 have hoff:=(List.getElem?_eq_some_iff.1 hcs).1
 refine startJ (args:=[_,_]) [(0,_),(1,_)] 0 [tProf,pMap] _ func199 rfl ntmps199 rfl rfl (Hp.two hp hO (fun ho=>⟨hy ho,Nat.zero_le _⟩) (Nat.zero_le _) (by simp) (by simp) (by decide)) ?_
 refine sQ fun K1=>cj_reg (jA (k:=K1 (sQ fun K2=>cj_reg ?_)))
 refine j_allocA (zs:=[(.int .u64 0),(.int .u64 0),(.int .u64 0),(.int .u64 0),(.string ⟨#[]⟩),(.string ⟨#[]⟩),(.bool false),(.bool false),(.bool false),(.bool false),(.int .i64 0),(.int .i64 0)]) zv130 rfl fun b7=>jA (k:=K2 (sQ fun K3=>cj_reg (jM (k:=?_))))
 refine j_val rfl (fun _ _ h=>r_assert ru59 rfl h) (jA (k:=K3 (sQ fun K4=>cj_reg (jM (k:=jM (k:=jN (k:=jF 3 ru125 so120 (k:=?_))))))))
 refine j_valw rfl (fun a w ha hH hf=>r_ldH 1 rfl rfl ag120 rfl hcs ha hH) (jM (k:=?_))
 refine j_bslice1 ru120 so128 zv128 rfl rfl rfl rfl rfl fun b16=>?_
 refine j_appOC 2 rfl hO ru120 el128 rfl rfl rfl rfl hn rfl fun y8 p8 c8 hO8 hc8 hr8=>?_
 refine jN (k:=jF 3 ru125 so120 (k:=?_))
 refine j_store (y:=⟨pb,tProf,cs,true,true,none⟩) (o:=3) 1 rfl rfl rfl rfl so120 rfl rfl rfl rfl (Nat.ble_eq_true_of_le (show 3+1≤cs.length by omega)) ?_
 refine K4 (CJ.t [(0,_),(5,_)] (k:=sQ fun K5=>cj_reg (jM (k:=jM (k:=?_)))))
 refine j_val rfl (fun _ _ h=>r_mki ru128 rfl rfl h) ?_
 refine j_callE (R:=fun w1 v w'=>v=.nilIface∧φ w' b7∧KeepX [bb,b7] w1 w'∧BufAt w' bb) call105 rfl rfl (fun w1 hH hf=>hdm w1 b7 (hH.get (i:=0) rfl rfl) (bufW hf hfB rfl rfl) (hH.fresh' (i:=0) rfl rfl)) fun w1 v w2 hH1 hf1 hR=>?_
 obtain ⟨rfl,hφ2,hk2,hb2⟩:=hR
 have hxb:w.heap.size≤b7:=hH1.fresh' (i:=0) rfl rfl
 have hka:KeepX ([pb]++rowL y) w w1:=Hp.keepX (f:=⟨w,0,[tProf,pMap]⟩) (((hH1.drop 0).drop 0).drop 0) hf1
 have hpb1:Blk w1 pb tProf (setL cs 3 [.slice p8 (l+1) c8]):=hH1.get (i:=1) rfl rfl
 have hx1:Blk w1 b7 tMap zma:=hH1.get (i:=0) rfl rfl
 have hbf1:BufAt w1 bb:=(bufW hf1 hfB rfl rfl).at_
 have hpl:=hp.lt
 have hpb2:=hk2.blk hpb1 (by simp only[List.mem_cons,List.mem_nil_iff,or_false,not_or];exact ⟨hbf1.ne hpb1 (by decide),by omega⟩)
 have hy2:y8.on=true→Blk w2 y8.b pMap y8.cs:=fun ho=>by
  have h8:=hH1.get (i:=2) rfl ho
  rw[hO8.hT]at h8
  exact hk2.blk h8 (by simp only[List.mem_cons,List.mem_nil_iff,or_false,not_or];exact ⟨hbf1.ne h8 (by decide),h8.ne hx1 (by decide)⟩)
 have hkk:KeepX ([bb,pb]++rowL y) w w2:=(hka.trans hk2).drop fun q hq=>by
  simp only[List.mem_append,List.mem_cons,List.mem_nil_iff,or_false]at hq⊢
  rcases hq with (hq|hq)|hq|hq
  ·exact .inl (.inl (.inr hq))
  ·exact .inl (.inr hq)
  ·exact .inl (.inl (.inl hq))
  ·right;omega
 refine J.begin ⟨w2,0,[]⟩ [] ok_refl .nil ?_
 refine jA (k:=K5 (cj_ret ?_))
 exact ej_ret1 results199 rfl fun w' hH hf=>⟨rfl,⟨b7,y8,p8,c8,hO8,fun ho=>hf.blk (hy2 ho) (.inr (by simp)),fun _=>hr8,hf.blk hpb2 (.inr (by simp)),hxb,hφ _ _ _ hφ2 hf⟩,hkk.thenF hf,hb2.keep fun cs hk=>hf.blk hk (.inr (by simp))⟩
abbrev zlo:List Value:=[.int .u64 0,.pointer none,.int .u64 0,.slice none 0 0,.bool false,.int .u64 0]
theorem lo_m (w:World) (bb pb k l c:Nat) (M:List Nat) (cs:List Value) (y:Ent) (p:Option Addr) (xs:List Value) (φ:World→Nat→Prop) (hφ:∀w1 w2 b,φ w1 b→Fr 0 [] w1 w2→φ w2 b) (hfB:BufF w bb (.bys k M)) (hp:Blk w pb tProf cs) (hcs:cs[4]? =some (.slice p l c)) (hO:Own pLoc 1 y p l c xs)
  (hy:y.on=true→Blk w y.b pLoc y.cs) (hn:l+1≤100000000000) (hdm:∀w1 xb,Blk w1 xb tLoc zlo→BufF w1 bb (.bys k M)→w.heap.size≤xb→Calls Tryz.prog 105 #[ptr bb,.iface ilc (ptr xb)] w1 (Ret fun v w'=>v=.nilIface∧φ w' xb∧KeepX [bb,xb] w1 w'∧BufAt w' bb)):
  Calls Tryz.prog 200 #[ptr bb,.iface ipf (ptr pb)] w (Ret fun v w'=>v=.nilIface∧SubRow pLoc φ w w' bb pb tProf 4 cs y l xs):=by
 have hoff:=(List.getElem?_eq_some_iff.1 hcs).1
 refine startJ (args:=[_,_]) [(0,_),(1,_)] 0 [tProf,pLoc] _ func200 rfl ntmps200 rfl rfl (Hp.two hp hO (fun ho=>⟨hy ho,Nat.zero_le _⟩) (Nat.zero_le _) (by simp) (by simp) (by decide)) ?_
 refine sQ fun K1=>cj_reg (jA (k:=K1 (sQ fun K2=>cj_reg ?_)))
 refine j_allocA (zs:=[(.int .u64 0),(.pointer none),(.int .u64 0),(.slice none 0 0),(.bool false),(.int .u64 0)]) zv137 rfl fun b7=>jA (k:=K2 (sQ fun K3=>cj_reg (jM (k:=?_))))
 refine j_val rfl (fun _ _ h=>r_assert ru59 rfl h) (jA (k:=K3 (sQ fun K4=>cj_reg (jM (k:=jM (k:=jN (k:=jF 4 ru125 so121 (k:=?_))))))))
 refine j_valw rfl (fun a w ha hH hf=>r_ldH 1 rfl rfl ag121 rfl hcs ha hH) (jM (k:=?_))
 refine j_bslice1 ru121 so134 zv134 rfl rfl rfl rfl rfl fun b16=>?_
 refine j_appOC 2 rfl hO ru121 el134 rfl rfl rfl rfl hn rfl fun y8 p8 c8 hO8 hc8 hr8=>?_
 refine jN (k:=jF 4 ru125 so121 (k:=?_))
 refine j_store (y:=⟨pb,tProf,cs,true,true,none⟩) (o:=4) 1 rfl rfl rfl rfl so121 rfl rfl rfl rfl (Nat.ble_eq_true_of_le (show 4+1≤cs.length by omega)) ?_
 refine K4 (CJ.t [(0,_),(5,_)] (k:=sQ fun K5=>cj_reg (jM (k:=jM (k:=?_)))))
 refine j_val rfl (fun _ _ h=>r_mki ru134 rfl rfl h) ?_
 refine j_callE (R:=fun w1 v w'=>v=.nilIface∧φ w' b7∧KeepX [bb,b7] w1 w'∧BufAt w' bb) call105 rfl rfl (fun w1 hH hf=>hdm w1 b7 (hH.get (i:=0) rfl rfl) (bufW hf hfB rfl rfl) (hH.fresh' (i:=0) rfl rfl)) fun w1 v w2 hH1 hf1 hR=>?_
 obtain ⟨rfl,hφ2,hk2,hb2⟩:=hR
 have hxb:w.heap.size≤b7:=hH1.fresh' (i:=0) rfl rfl
 have hka:KeepX ([pb]++rowL y) w w1:=Hp.keepX (f:=⟨w,0,[tProf,pLoc]⟩) (((hH1.drop 0).drop 0).drop 0) hf1
 have hpb1:Blk w1 pb tProf (setL cs 4 [.slice p8 (l+1) c8]):=hH1.get (i:=1) rfl rfl
 have hx1:Blk w1 b7 tLoc zlo:=hH1.get (i:=0) rfl rfl
 have hbf1:BufAt w1 bb:=(bufW hf1 hfB rfl rfl).at_
 have hpl:=hp.lt
 have hpb2:=hk2.blk hpb1 (by simp only[List.mem_cons,List.mem_nil_iff,or_false,not_or];exact ⟨hbf1.ne hpb1 (by decide),by omega⟩)
 have hy2:y8.on=true→Blk w2 y8.b pLoc y8.cs:=fun ho=>by
  have h8:=hH1.get (i:=2) rfl ho
  rw[hO8.hT]at h8
  exact hk2.blk h8 (by simp only[List.mem_cons,List.mem_nil_iff,or_false,not_or];exact ⟨hbf1.ne h8 (by decide),h8.ne hx1 (by decide)⟩)
 have hkk:KeepX ([bb,pb]++rowL y) w w2:=(hka.trans hk2).drop fun q hq=>by
  simp only[List.mem_append,List.mem_cons,List.mem_nil_iff,or_false]at hq⊢
  rcases hq with (hq|hq)|hq|hq
  ·exact .inl (.inl (.inr hq))
  ·exact .inl (.inr hq)
  ·exact .inl (.inl (.inl hq))
  ·right;omega
 refine J.begin ⟨w2,0,[]⟩ [] ok_refl .nil ?_
 refine jA (k:=K5 (cj_ret ?_))
 exact ej_ret1 results200 rfl fun w' hH hf=>⟨rfl,⟨b7,y8,p8,c8,hO8,fun ho=>hf.blk (hy2 ho) (.inr (by simp)),fun _=>hr8,hf.blk hpb2 (.inr (by simp)),hxb,hφ _ _ _ hφ2 hf⟩,hkk.thenF hf,hb2.keep fun cs hk=>hf.blk hk (.inr (by simp))⟩
abbrev zfu:List Value:=[.int .u64 0,.string ⟨#[]⟩,.string ⟨#[]⟩,.string ⟨#[]⟩,.int .i64 0,.int .i64 0,.int .i64 0,.int .i64 0]
theorem fu_m (w:World) (bb pb k l c:Nat) (M:List Nat) (cs:List Value) (y:Ent) (p:Option Addr) (xs:List Value) (φ:World→Nat→Prop) (hφ:∀w1 w2 b,φ w1 b→Fr 0 [] w1 w2→φ w2 b) (hfB:BufF w bb (.bys k M)) (hp:Blk w pb tProf cs) (hcs:cs[5]? =some (.slice p l c)) (hO:Own pFun 1 y p l c xs)
  (hy:y.on=true→Blk w y.b pFun y.cs) (hn:l+1≤100000000000) (hdm:∀w1 xb,Blk w1 xb tFun zfu→BufF w1 bb (.bys k M)→w.heap.size≤xb→Calls Tryz.prog 105 #[ptr bb,.iface ifn (ptr xb)] w1 (Ret fun v w'=>v=.nilIface∧φ w' xb∧KeepX [bb,xb] w1 w'∧BufAt w' bb)):
  Calls Tryz.prog 201 #[ptr bb,.iface ipf (ptr pb)] w (Ret fun v w'=>v=.nilIface∧SubRow pFun φ w w' bb pb tProf 5 cs y l xs):=by
 have hoff:=(List.getElem?_eq_some_iff.1 hcs).1
 refine startJ (args:=[_,_]) [(0,_),(1,_)] 0 [tProf,pFun] _ func201 rfl ntmps201 rfl rfl (Hp.two hp hO (fun ho=>⟨hy ho,Nat.zero_le _⟩) (Nat.zero_le _) (by simp) (by simp) (by decide)) ?_
 refine sQ fun K1=>cj_reg (jA (k:=K1 (sQ fun K2=>cj_reg ?_)))
 refine j_allocA (zs:=[(.int .u64 0),(.string ⟨#[]⟩),(.string ⟨#[]⟩),(.string ⟨#[]⟩),(.int .i64 0),(.int .i64 0),(.int .i64 0),(.int .i64 0)]) zv133 rfl fun b7=>jA (k:=K2 (sQ fun K3=>cj_reg (jM (k:=?_))))
 refine j_val rfl (fun _ _ h=>r_assert ru59 rfl h) (jA (k:=K3 (sQ fun K4=>cj_reg (jM (k:=jM (k:=jN (k:=jF 5 ru125 so122 (k:=?_))))))))
 refine j_valw rfl (fun a w ha hH hf=>r_ldH 1 rfl rfl ag122 rfl hcs ha hH) (jM (k:=?_))
 refine j_bslice1 ru122 so131 zv131 rfl rfl rfl rfl rfl fun b16=>?_
 refine j_appOC 2 rfl hO ru122 el131 rfl rfl rfl rfl hn rfl fun y8 p8 c8 hO8 hc8 hr8=>?_
 refine jN (k:=jF 5 ru125 so122 (k:=?_))
 refine j_store (y:=⟨pb,tProf,cs,true,true,none⟩) (o:=5) 1 rfl rfl rfl rfl so122 rfl rfl rfl rfl (Nat.ble_eq_true_of_le (show 5+1≤cs.length by omega)) ?_
 refine K4 (CJ.t [(0,_),(5,_)] (k:=sQ fun K5=>cj_reg (jM (k:=jM (k:=?_)))))
 refine j_val rfl (fun _ _ h=>r_mki ru131 rfl rfl h) ?_
 refine j_callE (R:=fun w1 v w'=>v=.nilIface∧φ w' b7∧KeepX [bb,b7] w1 w'∧BufAt w' bb) call105 rfl rfl (fun w1 hH hf=>hdm w1 b7 (hH.get (i:=0) rfl rfl) (bufW hf hfB rfl rfl) (hH.fresh' (i:=0) rfl rfl)) fun w1 v w2 hH1 hf1 hR=>?_
 obtain ⟨rfl,hφ2,hk2,hb2⟩:=hR
 have hxb:w.heap.size≤b7:=hH1.fresh' (i:=0) rfl rfl
 have hka:KeepX ([pb]++rowL y) w w1:=Hp.keepX (f:=⟨w,0,[tProf,pFun]⟩) (((hH1.drop 0).drop 0).drop 0) hf1
 have hpb1:Blk w1 pb tProf (setL cs 5 [.slice p8 (l+1) c8]):=hH1.get (i:=1) rfl rfl
 have hx1:Blk w1 b7 tFun zfu:=hH1.get (i:=0) rfl rfl
 have hbf1:BufAt w1 bb:=(bufW hf1 hfB rfl rfl).at_
 have hpl:=hp.lt
 have hpb2:=hk2.blk hpb1 (by simp only[List.mem_cons,List.mem_nil_iff,or_false,not_or];exact ⟨hbf1.ne hpb1 (by decide),by omega⟩)
 have hy2:y8.on=true→Blk w2 y8.b pFun y8.cs:=fun ho=>by
  have h8:=hH1.get (i:=2) rfl ho
  rw[hO8.hT]at h8
  exact hk2.blk h8 (by simp only[List.mem_cons,List.mem_nil_iff,or_false,not_or];exact ⟨hbf1.ne h8 (by decide),h8.ne hx1 (by decide)⟩)
 have hkk:KeepX ([bb,pb]++rowL y) w w2:=(hka.trans hk2).drop fun q hq=>by
  simp only[List.mem_append,List.mem_cons,List.mem_nil_iff,or_false]at hq⊢
  rcases hq with (hq|hq)|hq|hq
  ·exact .inl (.inl (.inr hq))
  ·exact .inl (.inr hq)
  ·exact .inl (.inl (.inl hq))
  ·right;omega
 refine J.begin ⟨w2,0,[]⟩ [] ok_refl .nil ?_
 refine jA (k:=K5 (cj_ret ?_))
 exact ej_ret1 results201 rfl fun w' hH hf=>⟨rfl,⟨b7,y8,p8,c8,hO8,fun ho=>hf.blk (hy2 ho) (.inr (by simp)),fun _=>hr8,hf.blk hpb2 (.inr (by simp)),hxb,hφ _ _ _ hφ2 hf⟩,hkk.thenF hf,hb2.keep fun cs hk=>hf.blk hk (.inr (by simp))⟩
set_option maxHeartbeats 1000000 in
theorem sm3_m (w:World) (bb pb k l c:Nat) (m:Msg) (cs:List Value) (y:Ent) (p:Option Addr) (xs:List Value) (hm:MOK tb3 m) (hfB:BufF w bb (.bys k (mB m))) (hp:Blk w pb tSam cs) (hcs:cs[6]? =some (.slice p l c)) (hO:Own tLabel 3 y p l c xs)
  (hy:y.on=true→Blk w y.b tLabel y.cs) (hn:l+1≤100000000000):
  Calls Tryz.prog 267 #[ptr bb,.iface ism (ptr pb)] w (Ret fun v w'=>v=.nilIface∧RowRow tLabel 3 [vI (oneN 1 (flds m)),vI (oneN 2 (flds m)),vI (oneN 3 (flds m))] w w' bb pb tSam 6 cs y l xs):=by
 have hoff:=(List.getElem?_eq_some_iff.1 hcs).1
 refine startJ (args:=[_,_]) [(0,_),(1,_)] 0 [tSam,tLabel] _ func267 rfl ntmps267 rfl rfl (Hp.two hp hO (fun ho=>⟨hy ho,Nat.zero_le _⟩) (Nat.zero_le _) (by simp) (by simp) (by decide)) ?_
 refine sQ fun K1=>cj_reg (jA (k:=K1 (sQ fun K2=>cj_reg (jM (k:=?_)))))
 refine j_val rfl (fun _ _ h=>r_assert ru142 rfl h) (jA (k:=K2 (sQ fun K3=>cj_reg (jM (k:=jN (k:=jF 6 ru147 so145 (k:=?_)))))))
 refine j_valw rfl (fun a w ha hH hf=>r_ldH 0 rfl rfl ag145 rfl hcs ha hH) (jE ru145 (k:=jA (k:=K3 (sQ fun K4=>cj_reg (jM (k:=jM (k:=jN (k:=jF 6 ru147 so145 (k:=?_)))))))))
 refine j_valw rfl (fun a w ha hH hf=>r_ldH 0 rfl rfl ag145 rfl hcs ha hH) (j_val rfl (fun _ _ h=>r_build (cs:=[(.int .i64 0),(.int .i64 0),(.int .i64 0)]) bt193 rfl rfl h) (j_bslice1 ru145 so193 zv193 rfl rfl rfl rfl rfl fun b20=>?_))
 refine j_appOR (ys:=[.int .i64 0,.int .i64 0,.int .i64 0]) 1 rfl hO ru145 el193 rfl rfl rfl rfl rfl (by decide) hn rfl fun y8 p8 c8 hO8 hc8 hr8=>?_
 obtain ⟨hon8,rfl⟩:=hO8.pos (by omega)
 have hcs8:(setL cs 6 (Value.slice (some ⟨y8.b,0,none⟩) (l+1) c8).cells.toList)[6]? =some (.slice (some ⟨y8.b,0,none⟩) (l+1) c8):=by
  rw[scal_cells rfl];simp only[setL];exact List.getElem?_set_self hoff
 refine jN (k:=jF 6 ru147 so145 (k:=?_))
 refine j_store (y:=⟨pb,tSam,cs,true,true,none⟩) (o:=6) 0 rfl rfl rfl rfl so145 rfl rfl rfl rfl (Nat.ble_eq_true_of_le (show 6+1≤cs.length by omega)) ?_
 refine K4 (CJ.t [(0,_),(5,_),(6,_)] (k:=sQ fun K5=>cj_reg (jM (k:=jM (k:=jN (k:=jF 6 ru147 so145 (k:=?_)))))))
 refine j_valw rfl (fun a w ha hH hf=>r_ldH 0 rfl rfl ag145 rfl hcs8 ha hH) (jM (k:=jJ ru145 so193 (k:=?_)))
 refine j_val rfl (fun _ _ h=>r_mki ru315 rfl rfl h) ?_
 have hxl:xs.length=l*3:=hO.sl.1
 obtain ⟨ex8,hex8⟩:∃ex,y8.cs=xs++[.int .i64 0,.int .i64 0,.int .i64 0]++ex:=by
  obtain ⟨-, -,h3⟩:=hO8.sl
  rcases h3 with ⟨-, -,h4, -⟩|⟨h4, -⟩
  ·exact h4
  ·rw[hon8]at h4;cases h4
 have hlen8:y8.cs.length=l*3+3+ex8.length:=by rw[hex8];simp[hxl];omega
 have hdt:(y8.cs.drop (0+l*3)).take 3=[.int .i64 0,.int .i64 0,.int .i64 0]:=by
  rw[hex8,List.append_assoc,Nat.zero_add, ← hxl,List.drop_left];rfl
 refine j_callE (R:=fun w1 v w'=>v=.nilIface∧Blk w' y8.b tLabel ((flds m).foldl (apS lbSch (0+l*3)) y8.cs)∧KeepX [bb,y8.b] w1 w'∧BufAt w' bb) call105 rfl rfl (fun w1 hH hf=>dscal_c tLabel ilb lbSch lbDs tb3 (by decide) (by decide) (by decide) lbSch_ok lbDs_ok lbSch_ds lbSch_no lbSch_tb w1 bb y8.b (0+l*3) k m y8.cs hm (bufW hf hfB rfl rfl) (by have:=hH.get (i:=1) rfl hon8;rwa [hO8.hT]at this) (fun k g off val h=>by have:=lbSch_off k g off val h;omega) (fun w' hb=>lb_tells w' y8.b (0+l*3) _ y8.cs hb rfl hdt)) fun w1 v w2 hH1 hf1 hR=>?_
 obtain ⟨rfl,hrow2,hk2,hb2⟩:=hR
 have hka:KeepX ([pb]++rowL y) w w1:=Hp.keepX (f:=⟨w,0,[tSam,tLabel]⟩) ((hH1.drop 0).drop 0) hf1
 have hpb1:Blk w1 pb tSam (setL cs 6 [.slice (some ⟨y8.b,0,none⟩) (l+1) c8]):=hH1.get (i:=0) rfl rfl
 have hrow1:Blk w1 y8.b tLabel y8.cs:=by have:=hH1.get (i:=1) rfl hon8;rwa [hO8.hT]at this
 have hbf1:BufAt w1 bb:=(bufW hf1 hfB rfl rfl).at_
 have hpb2:=hk2.blk hpb1 (by simp only[List.mem_cons,List.mem_nil_iff,or_false,not_or];exact ⟨hbf1.ne hpb1 (by decide),hpb1.ne hrow1 (by decide)⟩)
 rw[hex8,Nat.zero_add, ← hxl,fold_in (m:=3) lbSch xs ex8 lbSch_off (flds m) _ rfl]at hrow2
 have hfo:(flds m).foldl (apS lbSch 0) [.int .i64 0,.int .i64 0,.int .i64 0]=[vI (oneN 1 (flds m)),vI (oneN 2 (flds m)),vI (oneN 3 (flds m))]:=lb_fold (flds m) 0 0 0
 rw[hfo]at hrow2
 have hkk:KeepX ([bb,pb]++rowL y) w w2:=(hka.trans hk2).drop fun q hq=>by
  simp only[List.mem_append,List.mem_cons,List.mem_nil_iff,or_false]at hq⊢
  rcases hq with (hq|hq)|hq|hq
  ·exact .inl (.inl (.inr hq))
  ·exact .inl (.inr hq)
  ·exact .inl (.inl (.inl hq))
  ·rcases hr8 with ⟨h1,h2⟩|h1
   ·left;right;rw[hq,h2];simp[rowL,h1]
   ·right;rw[hq];exact h1
 have hO9:Own tLabel 3 ⟨y8.b,tLabel,xs++[vI (oneN 1 (flds m)),vI (oneN 2 (flds m)),vI (oneN 3 (flds m))]++ex8,true,true,none⟩ (some ⟨y8.b,0,none⟩) (l+1) c8 (xs++[vI (oneN 1 (flds m)),vI (oneN 2 (flds m)),vI (oneN 3 (flds m))]):=by
  obtain ⟨h1,h2,h3⟩:=hO8.sl
  refine ⟨rfl,rfl,rfl,by simp[hxl];omega,h2,.inl ⟨rfl,rfl,⟨ex8,rfl⟩,?_⟩⟩
  rcases h3 with ⟨-, -, -,h4⟩|⟨h4, -⟩
  ·rw[hlen8]at h4;simp[hxl];omega
  ·rw[hon8]at h4;cases h4
 refine J.begin ⟨w2,0,[]⟩ [] ok_refl .nil ?_
 refine jA (k:=K5 (cj_ret ?_))
 exact ej_ret1 results267 rfl fun w' hH hf=>⟨rfl,⟨_,_,c8,hO9,fun _=>hf.blk hrow2 (.inr (by simp)),fun _=>hr8,hf.blk hpb2 (.inr (by simp))⟩,hkk.thenF hf,hb2.keep fun cs hk=>hf.blk hk (.inr (by simp))⟩
set_option maxHeartbeats 1000000 in
theorem lc4_m (w:World) (bb pb k l c:Nat) (m:Msg) (cs:List Value) (y:Ent) (p:Option Addr) (xs:List Value) (hm:MOK tb2 m) (hfB:BufF w bb (.bys k (mB m))) (hp:Blk w pb tLoc cs) (hcs:cs[3]? =some (.slice p l c)) (hO:Own tLine 3 y p l c xs)
  (hy:y.on=true→Blk w y.b tLine y.cs) (hn:l+1≤100000000000):
  Calls Tryz.prog 259 #[ptr bb,.iface ilc (ptr pb)] w (Ret fun v w'=>v=.nilIface∧RowRow tLine 3 [.pointer none,vI (oneN 2 (flds m)),vU (oneN 1 (flds m))] w w' bb pb tLoc 3 cs y l xs):=by
 have hoff:=(List.getElem?_eq_some_iff.1 hcs).1
 refine startJ (args:=[_,_]) [(0,_),(1,_)] 0 [tLoc,tLine] _ func259 rfl ntmps259 rfl rfl (Hp.two hp hO (fun ho=>⟨hy ho,Nat.zero_le _⟩) (Nat.zero_le _) (by simp) (by simp) (by decide)) ?_
 refine sQ fun K1=>cj_reg (jA (k:=K1 (sQ fun K2=>cj_reg (jM (k:=?_)))))
 refine j_val rfl (fun _ _ h=>r_assert ru134 rfl h) (jA (k:=K2 (sQ fun K3=>cj_reg (jM (k:=jN (k:=jF 3 ru137 so135 (k:=?_)))))))
 refine j_valw rfl (fun a w ha hH hf=>r_ldH 0 rfl rfl ag135 rfl hcs ha hH) (jE ru135 (k:=jA (k:=K3 (sQ fun K4=>cj_reg (jM (k:=jM (k:=jN (k:=jF 3 ru137 so135 (k:=?_)))))))))
 refine j_valw rfl (fun a w ha hH hf=>r_ldH 0 rfl rfl ag135 rfl hcs ha hH) (j_val rfl (fun _ _ h=>r_build (cs:=[(.pointer none),(.int .i64 0),(.int .u64 0)]) bt140 rfl rfl h) (j_bslice1 ru135 so140 zv140 rfl rfl rfl rfl rfl fun b20=>?_))
 refine j_appOR (ys:=[.pointer none,.int .i64 0,.int .u64 0]) 1 rfl hO ru135 el140 rfl rfl rfl rfl rfl (by decide) hn rfl fun y8 p8 c8 hO8 hc8 hr8=>?_
 obtain ⟨hon8,rfl⟩:=hO8.pos (by omega)
 have hcs8:(setL cs 3 (Value.slice (some ⟨y8.b,0,none⟩) (l+1) c8).cells.toList)[3]? =some (.slice (some ⟨y8.b,0,none⟩) (l+1) c8):=by
  rw[scal_cells rfl];simp only[setL];exact List.getElem?_set_self hoff
 refine jN (k:=jF 3 ru137 so135 (k:=?_))
 refine j_store (y:=⟨pb,tLoc,cs,true,true,none⟩) (o:=3) 0 rfl rfl rfl rfl so135 rfl rfl rfl rfl (Nat.ble_eq_true_of_le (show 3+1≤cs.length by omega)) ?_
 refine K4 (CJ.t [(0,_),(5,_),(6,_)] (k:=sQ fun K5=>cj_reg (jM (k:=jM (k:=jN (k:=jF 3 ru137 so135 (k:=?_)))))))
 refine j_valw rfl (fun a w ha hH hf=>r_ldH 0 rfl rfl ag135 rfl hcs8 ha hH) (jM (k:=jJ ru135 so140 (k:=?_)))
 refine j_val rfl (fun _ _ h=>r_mki ru311 rfl rfl h) ?_
 have hxl:xs.length=l*3:=hO.sl.1
 obtain ⟨ex8,hex8⟩:∃ex,y8.cs=xs++[.pointer none,.int .i64 0,.int .u64 0]++ex:=by
  obtain ⟨-, -,h3⟩:=hO8.sl
  rcases h3 with ⟨-, -,h4, -⟩|⟨h4, -⟩
  ·exact h4
  ·rw[hon8]at h4;cases h4
 have hlen8:y8.cs.length=l*3+3+ex8.length:=by rw[hex8];simp[hxl];omega
 have hdt:(y8.cs.drop (0+l*3)).take 3=[.pointer none,.int .i64 0,.int .u64 0]:=by
  rw[hex8,List.append_assoc,Nat.zero_add, ← hxl,List.drop_left];rfl
 refine j_callE (R:=fun w1 v w'=>v=.nilIface∧Blk w' y8.b tLine ((flds m).foldl (apS lnSch (0+l*3)) y8.cs)∧KeepX [bb,y8.b] w1 w'∧BufAt w' bb) call105 rfl rfl (fun w1 hH hf=>dscal_c tLine iln lnSch lnDs tb2 (by decide) (by decide) (by decide) lnSch_ok lnDs_ok lnSch_ds lnSch_no lnSch_tb w1 bb y8.b (0+l*3) k m y8.cs hm (bufW hf hfB rfl rfl) (by have:=hH.get (i:=1) rfl hon8;rwa [hO8.hT]at this) (fun k g off val h=>by have:=lnSch_off k g off val h;omega) (fun w' _=>ln_tells w' _)) fun w1 v w2 hH1 hf1 hR=>?_
 obtain ⟨rfl,hrow2,hk2,hb2⟩:=hR
 have hka:KeepX ([pb]++rowL y) w w1:=Hp.keepX (f:=⟨w,0,[tLoc,tLine]⟩) ((hH1.drop 0).drop 0) hf1
 have hpb1:Blk w1 pb tLoc (setL cs 3 [.slice (some ⟨y8.b,0,none⟩) (l+1) c8]):=hH1.get (i:=0) rfl rfl
 have hrow1:Blk w1 y8.b tLine y8.cs:=by have:=hH1.get (i:=1) rfl hon8;rwa [hO8.hT]at this
 have hbf1:BufAt w1 bb:=(bufW hf1 hfB rfl rfl).at_
 have hpb2:=hk2.blk hpb1 (by simp only[List.mem_cons,List.mem_nil_iff,or_false,not_or];exact ⟨hbf1.ne hpb1 (by decide),hpb1.ne hrow1 (by decide)⟩)
 rw[hex8,Nat.zero_add, ← hxl,fold_in (m:=3) lnSch xs ex8 lnSch_off (flds m) _ rfl]at hrow2
 have hfo:(flds m).foldl (apS lnSch 0) [.pointer none,.int .i64 0,.int .u64 0]=[.pointer none,vI (oneN 2 (flds m)),vU (oneN 1 (flds m))]:=ln_fold (flds m) (.pointer none) 0 0
 rw[hfo]at hrow2
 have hkk:KeepX ([bb,pb]++rowL y) w w2:=(hka.trans hk2).drop fun q hq=>by
  simp only[List.mem_append,List.mem_cons,List.mem_nil_iff,or_false]at hq⊢
  rcases hq with (hq|hq)|hq|hq
  ·exact .inl (.inl (.inr hq))
  ·exact .inl (.inr hq)
  ·exact .inl (.inl (.inl hq))
  ·rcases hr8 with ⟨h1,h2⟩|h1
   ·left;right;rw[hq,h2];simp[rowL,h1]
   ·right;rw[hq];exact h1
 have hO9:Own tLine 3 ⟨y8.b,tLine,xs++[.pointer none,vI (oneN 2 (flds m)),vU (oneN 1 (flds m))]++ex8,true,true,none⟩ (some ⟨y8.b,0,none⟩) (l+1) c8 (xs++[.pointer none,vI (oneN 2 (flds m)),vU (oneN 1 (flds m))]):=by
  obtain ⟨h1,h2,h3⟩:=hO8.sl
  refine ⟨rfl,rfl,rfl,by simp[hxl];omega,h2,.inl ⟨rfl,rfl,⟨ex8,rfl⟩,?_⟩⟩
  rcases h3 with ⟨-, -, -,h4⟩|⟨h4, -⟩
  ·rw[hlen8]at h4;simp[hxl];omega
  ·rw[hon8]at h4;cases h4
 refine J.begin ⟨w2,0,[]⟩ [] ok_refl .nil ?_
 refine jA (k:=K5 (cj_ret ?_))
 exact ej_ret1 results259 rfl fun w' hH hf=>⟨rfl,⟨_,_,c8,hO9,fun _=>hf.blk hrow2 (.inr (by simp)),fun _=>hr8,hf.blk hpb2 (.inr (by simp))⟩,hkk.thenF hf,hb2.keep fun cs hk=>hf.blk hk (.inr (by simp))⟩
structure TxtRow (w w':World) (pb T off:Nat) (cs:List Value) (y:Ent) (l:Nat) (xs:List Value) (s:ByteArray):Prop where
 ex:∃y' p' c',Own tStr 1 y' p' (l+1) c' (xs++[.string s])∧(y'.on=true→Blk w' y'.b tStr y'.cs)∧(y'.on=true→(y.on=true∧y'.b=y.b)∨w.heap.size≤y'.b)∧Blk w' pb T (setL cs off [.slice p' (l+1) c'])
 kx:KeepX ([pb]++rowL y) w w'
theorem TxtRow.fr {w3:World} {pb off:Nat} {s:ByteArray} (h:TxtRow w w' pb T off cs y l xs s) (k0:Fr 0 [] w0 w) (k1:Fr 0 [] w' w3):TxtRow w0 w3 pb T off cs y l xs s:=by
 obtain ⟨⟨y',p',c',h1,h3,h4,h5⟩,h6⟩:=h
 exact ⟨⟨y',p',c',h1,fun ho=>k1.blk (h3 ho) (.inr (by simp)),fun ho=>(h4 ho).imp_right fun h=>Nat.le_trans k0.size h,k1.blk h5 (.inr (by simp))⟩,(h6.afterF k0).thenF k1⟩
theorem dStrings_c (w:World) (bb pb T off k:Nat) (s:ByteArray) (cs:List Value) (y:Ent) (p:Option Addr) (l c:Nat) (xs:List Value) (hfB:BufF w bb (.bys k (sB s))) (hp:Blk w pb T cs) (hcs:cs[off]? =some (.slice p l c)) (hO:Own tStr 1 y p l c xs)
  (hy:y.on=true→Blk w y.b tStr y.cs) (hTB:Nat.beq T tBuf=false) (hT8:Nat.beq T tU8=false) (hTR:T≠tStr) (hn:l+1≤100000000000):
  Calls Tryz.prog 203 #[ptr bb,.pointer (some ⟨pb,off,none⟩)] w (Ret fun v w'=>v=.nilIface∧TxtRow w w' pb T off cs y l xs s):=by
 have hW:[T,tStr].all (fun t=> !Nat.beq t tBuf)=true:=by simp only[List.all_cons,hTB,Bool.not_false,List.all_nil,Bool.and_true,Bool.true_and];rfl
 have hW8:[T,tStr].all (fun t=> !Nat.beq t tU8)=true:=by simp only[List.all_cons,hT8,Bool.not_false,List.all_nil,Bool.and_true,Bool.true_and];rfl
 have hoff:=(List.getElem?_eq_some_iff.1 hcs).1
 refine startJ (args:=[_,_]) [(0,_),(1,_)] 0 [T,tStr] _ func203 rfl ntmps203 rfl rfl (Hp.two hp hO (fun ho=>⟨hy ho,Nat.zero_le _⟩) (Nat.zero_le _) (by simp) (by simp) hTR) ?_
 refine sQ fun K1=>cj_reg (jA (k:=K1 ?_))
 refine cj_seqF fun K2 hK2=>cj_reg (j_alloc1 zv9 rfl rfl fun b5=>j_nil (ej_then (hK2 _ _ _ (sQ fun K3=>sQ fun K4=>cj_reg (jM (k:=?_))))))
 refine j_callX (y:=⟨b5,tStr,_,true,true,none⟩) (φ:=fun v cs'=>v=.nilIface∧cs'=[.string s]) 0 rfl rfl rfl rfl call217 rfl rfl (fun w1 hH hf=>by
   obtain ⟨hD,b,o,c',tmp,hb,hB⟩:=bufW hf hfB hW hW8
   exact Calls.mono (dString_c w1 bb b5 tStr 0 _ _ _ b o c' (sB s) s tmp hb (hH.get (i:=0) rfl rfl) rfl (by simp) hB rfl rfl) (Ret.mono fun v w' h=>⟨_,⟨h.1,rfl⟩,h.2.1,h.2.2⟩)) fun v cs9 hv=>?_
 obtain ⟨rfl,rfl⟩:=hv
 refine jA (k:=K4 (sQ fun K5=>cj_reg (jM (k:=?_))))
 refine j_val rfl (fun _ _ h=>r_inil ud61 rfl h) (K5 (cj_if_f rfl (cj_skip (K3 (sQ fun K6=>cj_drawI 8 (lts [0,1,2,3,4]++(5,false)::((6,false)::(lts [7]++(8,false)::[]))) [0,1] rfl (by kernel_rfl) (by kernel_rfl) (dM [0,1] (k:=dM [0,1] (k:=dN [0,1] (k:=?_)))))))))
 refine dj_ld rfl rfl (sub_of [0,1] rfl) (fun a w ha hS=>r_ldS 1 rfl rfl ag27 rfl hcs ha hS) (dH [0,1] 0 ag9 (k:=dE (h:=fun Kd=>?_)))
 refine j_bslice1 ru27 so9 zv9 rfl rfl rfl rfl rfl fun b17=>Kd (sb [1,2]) (dE (h:=fun Kd=>?_))
 refine j_appOC 2 rfl hO ru27 el9 rfl rfl rfl rfl hn rfl fun y8 p8 c8 hO8 hc8 hr8=>?_
 refine Kd (sb [0,1]) (dN [0,1] (k:=dE (h:=fun Kd=>?_)))
 refine j_store (y:=⟨pb,T,cs,true,true,none⟩) (o:=off) 1 rfl rfl rfl rfl so27 rfl rfl rfl rfl (Nat.ble_eq_true_of_le (show off+1≤cs.length by omega)) ?_
 refine Kd (.inl rfl) (K6 (CJ.t [] (k:=sQ fun K7=>cj_reg (jA (k:=K7 (cj_ret ?_))))))
 exact ej_ret1 results203 rfl fun w' hH hf=>⟨rfl,⟨y8,p8,c8,hO8,fun ho=>by have:=hH.get (i:=2) rfl ho;rwa [hO8.hT]at this,fun _=>hr8,hH.get (i:=1) rfl rfl⟩,Hp.keepX (f:=⟨w,0,[T,tStr]⟩) (((hH.drop 0).drop 0).drop 0) hf⟩
theorem st_m (w:World) (bb pb k l c:Nat) (s:ByteArray) (cs:List Value) (y:Ent) (p:Option Addr) (xs:List Value) (hfB:BufF w bb (.bys k (sB s))) (hp:Blk w pb tProf cs) (hcs:cs[16]? =some (.slice p l c)) (hO:Own tStr 1 y p l c xs)
  (hy:y.on=true→Blk w y.b tStr y.cs) (hn:l+1≤100000000000) (h0:(xs++[.string s])[0]? =some (.string eB)):
  Calls Tryz.prog 202 #[ptr bb,.iface ipf (ptr pb)] w (Ret fun v w'=>v=.nilIface∧TxtRow w w' pb tProf 16 cs y l xs s):=by
 have hoff:=(List.getElem?_eq_some_iff.1 hcs).1
 refine startJ (args:=[_,_]) [(0,_),(1,_)] 0 [] [] func202 rfl ntmps202 rfl rfl .nil ?_
 refine sQ fun K1=>cj_reg (jA (k:=K1 (sQ fun K2=>cj_reg (jM (k:=jM (k:=?_))))))
 refine j_val rfl (fun _ _ h=>r_assert ru59 rfl h) (jN (k:=jF 16 ru125 so27 (k:=?_)))
 refine j_callE (R:=fun w1 v w'=>v=.nilIface∧TxtRow w1 w' pb tProf 16 cs y l xs s) call203 rfl rfl (fun w1 hH hf=>dStrings_c w1 bb pb tProf 16 k s cs y p l c xs (hfB.keep hf) (hf.blk hp (.inr (by simp))) hcs hO (fun ho=>hf.blk (hy ho) (.inr (by simp))) rfl rfl (by decide) hn) fun w1 v w2 hH1 hf1 hR=>?_
 obtain ⟨rfl,hN0⟩:=hR
 have hN:=hN0.fr hf1 ok_refl
 obtain ⟨y8,p8,c8,hO8,hy8,hr8,hp8⟩:=hN.ex
 obtain ⟨hon8,rfl⟩:=hO8.pos (by omega)
 have hcs8:(setL cs 16 [.slice (some ⟨y8.b,0,none⟩) (l+1) c8])[16]? =some (.slice (some ⟨y8.b,0,none⟩) (l+1) c8):=by simp only[setL];exact List.getElem?_set_self hoff
 have hcp:=mc (f:=⟨w2,0,[]⟩) hp8 rfl
 refine J.begin ⟨w2,0,[]⟩ [] ok_refl .nil ?_
 refine jA (k:=K2 (sQ fun K3=>sQ fun K4=>cj_reg (jM (k:=?_))))
 refine j_val rfl (fun _ _ h=>r_inil ud61 rfl h) (K4 (cj_if_f rfl (cj_skip (K3 (sQ fun K5=>sQ fun K6=>cj_reg (jM (k:=?_)))))))
 refine j_val rfl (fun _ _ h=>r_assert ru59 rfl h) (jN (k:=jF 16 ru125 so27 (k:=?_)))
 refine j_valw rfl (fun a w ha hH hf=>r_load ag27 rfl (hcp w hf 16 _ hcs8) ha) (j_val rfl (fun _ _ h=>r_idx (i:=0) ru27 so9 rfl rfl (by omega) h) ?_)
 refine j_valw rfl (fun a w ha hH hf=>r_load ag9 rfl (hO8.cell (by rw[hO8.hT];exact hf.blk (hy8 hon8) (.inr (by simp))) h0) ha) ?_
 refine j_val rfl (fun _ _ h=>r_sneq rfl rfl h) ?_
 refine j_eqv (u:=.bool false) (congrArg Value.bool (decide_eq_false (fun h=>h rfl))) ?_
 refine K6 (CJ.t [(22,_)] (k:=?_))
 refine cj_if_f rfl (cj_skip (K5 (sQ fun K7=>cj_reg (jA (k:=K7 (cj_ret ?_))))))
 exact ej_ret1 results202 rfl fun w' hH hf=>⟨rfl,hN.fr ok_refl hf⟩
structure PerRow (φ:World→Nat→Prop) (w w':World) (bb pb:Nat) (cs:List Value):Prop where
 ex:∃xb,Blk w' pb tProf (setL cs 11 [ptr xb])∧w.heap.size≤xb∧φ w' xb
 kx:KeepX [bb,pb] w w'
 buf:BufAt w' bb
theorem pe_m (w:World) (bb pb k:Nat) (M:List Nat) (cs:List Value) (φ:World→Nat→Prop) (hφ:∀w1 w2 b,φ w1 b→Fr 0 [] w1 w2→φ w2 b) (hfB:BufF w bb (.bys k M)) (hp:Blk w pb tProf cs) (hoff:11<cs.length)
  (hdm:∀w1 xb,Blk w1 xb tVT zty→BufF w1 bb (.bys k M)→w.heap.size≤xb→Calls Tryz.prog 105 #[ptr bb,.iface ivt (ptr xb)] w1 (Ret fun v w'=>v=.nilIface∧φ w' xb∧KeepX [bb,xb] w1 w'∧BufAt w' bb)):
  Calls Tryz.prog 209 #[ptr bb,.iface ipf (ptr pb)] w (Ret fun v w'=>v=.nilIface∧PerRow φ w w' bb pb cs):=by
 refine startJ (args:=[_,_]) [(0,_),(1,_)] 0 [tProf] _ func209 rfl ntmps209 rfl rfl (Hp.one hp (Nat.zero_le _) (by simp)) ?_
 refine sQ fun K1=>cj_reg (jA (k:=K1 (sQ fun K2=>cj_reg ?_)))
 refine j_allocA (zs:=[(.string ⟨#[]⟩),(.string ⟨#[]⟩),(.int .i64 0),(.int .i64 0)]) zv127 rfl fun b7=>jA (k:=K2 (sQ fun K3=>cj_reg (jM (k:=?_))))
 refine j_val rfl (fun _ _ h=>r_assert ru59 rfl h) (jA (k:=K3 (sQ fun K4=>cj_reg (jM (k:=jM (k:=jN (k:=jF 11 ru125 so123 (k:=?_))))))))
 refine j_store (y:=⟨pb,tProf,cs,true,true,none⟩) (o:=11) 1 rfl rfl rfl rfl so123 rfl rfl rfl rfl (Nat.ble_eq_true_of_le (show 11+1≤cs.length by omega)) ?_
 refine K4 (CJ.t [(0,_),(5,_)] (k:=sQ fun K5=>cj_reg (jM (k:=jM (k:=?_)))))
 refine j_val rfl (fun _ _ h=>r_mki ru123 rfl rfl h) ?_
 refine j_callE (R:=fun w1 v w'=>v=.nilIface∧φ w' b7∧KeepX [bb,b7] w1 w'∧BufAt w' bb) call105 rfl rfl (fun w1 hH hf=>hdm w1 b7 (hH.get (i:=0) rfl rfl) (bufW hf hfB rfl rfl) (hH.fresh' (i:=0) rfl rfl)) fun w1 v w2 hH1 hf1 hR=>?_
 obtain ⟨rfl,hφ2,hk2,hb2⟩:=hR
 have hxb:w.heap.size≤b7:=hH1.fresh' (i:=0) rfl rfl
 have hka:KeepX [pb] w w1:=Hp.keepX (f:=⟨w,0,[tProf]⟩) ((hH1.drop 0).drop 0) hf1
 have hpb1:Blk w1 pb tProf (setL cs 11 [ptr b7]):=hH1.get (i:=1) rfl rfl
 have hbf1:BufAt w1 bb:=(bufW hf1 hfB rfl rfl).at_
 have hpl:=hp.lt
 have hpb2:=hk2.blk hpb1 (by simp only[List.mem_cons,List.mem_nil_iff,or_false,not_or];exact ⟨hbf1.ne hpb1 (by decide),by omega⟩)
 have hkk:KeepX [bb,pb] w w2:=(hka.trans hk2).drop fun q hq=>by
  simp only[List.mem_append,List.mem_cons,List.mem_nil_iff,or_false]at hq⊢
  rcases hq with hq|hq|hq
  ·exact .inl (.inr hq)
  ·exact .inl (.inl hq)
  ·right;omega
 refine J.begin ⟨w2,0,[]⟩ [] ok_refl .nil ?_
 refine jA (k:=K5 (cj_ret ?_))
 exact ej_ret1 results209 rfl fun w' hH hf=>⟨rfl,⟨b7,hf.blk hpb2 (.inr (by simp)),hxb,hφ _ _ _ hφ2 hf⟩,hkk.thenF hf,hb2.keep fun cs hk=>hf.blk hk (.inr (by simp))⟩
def Rw (φ:Nat→Prop) (T sz:Nat) (w:World) (p:Option Addr) (l c:Nat) (xs:List Value):Prop:=∃y,Own T sz y p l c xs∧(y.on=true→Blk w y.b T y.cs∧φ y.b)
theorem Rw.nil:Rw φ T sz w none 0 0 []:=⟨nilE T,Own.nil,fun h=>by simp[nilE]at h⟩
theorem Rw.mono {ψ:Nat→Prop} {p:Option Addr} (h:Rw φ T sz w p l c xs) (k:∀b cs,φ b→Blk w b T cs→Blk w' b T cs∧ψ b):Rw ψ T sz w' p l c xs:=by
 obtain ⟨y,h1,h2⟩:=h
 exact ⟨y,h1,fun ho=>k _ _ (h2 ho).2 (h2 ho).1⟩
theorem Rw.keep {p:Option Addr} (h:Rw φ T sz w p l c xs) (k:∀b cs,Blk w b T cs→Blk w' b T cs):Rw φ T sz w' p l c xs:=h.mono fun b cs hb hk=>⟨k b cs hk,hb⟩
theorem Rw.fr {p:Option Addr} (h:Rw φ T sz w p l c xs) (k:Fr 0 [] w w'):Rw φ T sz w' p l c xs:=h.keep fun b cs hb=>k.blk hb (.inr (by simp))
theorem Rw.os {p:Option Addr} (h:Rw φ T sz w p l c xs):OS T sz w (.slice p l c) xs:=by
 obtain ⟨y,h1,h2⟩:=h
 exact ⟨y,p,l,c,rfl,h1,fun ho=>(h2 ho).1⟩
def rVT (T:List ByteArray) (w:World) (b:Nat) (t:PType):Prop:=∃n m,Blk w b tVT [.string eB,.string eB,.int .i64 n,.int .i64 m]∧At T n t.ty∧At T m t.unit
def rMp (T:List ByteArray) (w:World) (b:Nat) (m:PMapping):Prop:=∃n k,Blk w b tMap [.int .u64 m.id,.int .u64 m.start,.int .u64 m.limit,.int .u64 m.offset,.string eB,.string eB,.bool m.fu,.bool m.fi,.bool m.li,.bool m.inl,.int .i64 n,.int .i64 k]∧At T n m.file∧At T k m.build
def rFn (T:List ByteArray) (w:World) (b:Nat) (f:PFunc):Prop:=∃n k i,Blk w b tFun [.int .u64 f.id,.string eB,.string eB,.string eB,.int .i64 f.start,.int .i64 n,.int .i64 k,.int .i64 i]∧At T n f.name∧At T k f.system∧At T i f.file
def cLnR (x:PProf) (n:PLine):List Value:=[.pointer none,.int .i64 n.line,.int .u64 (fnid x n.fn)]
def rLc (x:PProf) (φ:Nat→Prop) (w:World) (b:Nat) (l:PLoc):Prop:=∃p c,Blk w b tLoc [.int .u64 l.id,.pointer none,.int .u64 l.addr,.slice p l.lines.length c,.bool false,.int .u64 (mid x l.mapping)]∧Rw φ tLine 3 w p l.lines.length c (l.lines.flatMap (cLnR x))
def LbQ (T:List ByteArray) (q:Int×Int×Int) (e:LE):Prop:=At T q.1 e.1∧match e.2.1 with
 |some v=>q.2.1≠0∧At T q.2.1 v
 |none=>q.2.1=0∧q.2.2=e.2.2
def LbQs (T:List ByteArray) (lbs:List (Int×Int×Int)) (es:List LE):Prop:=lbs.length=es.length∧∀(i:Nat) q e,lbs[i]? =some q→es[i]? =some e→LbQ T q e
def rSm (x:PProf) (T:List ByteArray) (φ:Nat→Prop) (w:World) (b:Nat) (s:PSample):Prop:=∃pv cv pi ci pl cl lbs es,Blk w b tSam [.slice none 0 0,.slice pv s.values.length cv,.map none,.map none,.map none,.slice pi s.stack.length ci,.slice pl es.length cl]∧
 Rw φ tI64 1 w pv s.values.length cv (s.values.map (.int .i64))∧Rw φ tU64 1 w pi s.stack.length ci (s.stack.map fun z=>.int .u64 (lid x z))∧Rw φ tLabel 3 w pl es.length cl (lbs.flatMap cLb)∧LbQs T lbs es∧LbsS es s∧es.length≤1000000
theorem atW {T:List ByteArray} {s:ByteArray} (h:T[n]? =some s) (hl:T.length≤1000000000):At T (IntKind.i64.wrap (n:Nat)) s:=by
 have:=(List.getElem?_eq_some_iff.1 h).1
 exact ⟨n,wrap64_small (by omega) (by omega),h⟩
theorem dVT_c (T:List ByteArray) (hl:T.length≤1000000000) (w:World) (bb xb k:Nat) (m:Msg) (t:PType) (hM:TyM T t m) (hx:Blk w xb tVT zty) (hf:BufF w bb (.bys k (mB m))):
  Calls Tryz.prog 105 #[ptr bb,.iface ivt (ptr xb)] w (Ret fun v w'=>v=.nilIface∧rVT T w' xb t∧KeepX [bb,xb] w w'∧BufAt w' bb):=by
 refine Calls.mono (dscal_c tVT ivt vtSch vtDs tb2 (by decide) (by decide) (by decide) vtSch_ok vtDs_ok vtSch_ds vtSch_no vtSch_tb w bb xb 0 k m zty hM.ok hf hx (fun k g off val h=>by have:=vtSch_off k g off val h;show 0+off<4;omega) (fun w' _=>vt_tells w' _)) (Ret.mono fun v w' h=>?_)
 obtain ⟨rfl,h1,h2,h3⟩:=h
 have hfo:(flds m).foldl (apS vtSch 0) zty=_:=vt_fold (flds m) (.string ⟨#[]⟩) (.string ⟨#[]⟩) 0 0
 rw[hfo]at h1
 exact ⟨rfl,⟨_,_,h1,atW hM.h1 hl,atW hM.h2 hl⟩,h2,h3⟩
theorem dMp_c (T:List ByteArray) (hl:T.length≤1000000000) (w:World) (bb xb k:Nat) (m:Msg) (t:PMapping) (hM:MpM T t m) (hx:Blk w xb tMap zma) (hf:BufF w bb (.bys k (mB m))):
  Calls Tryz.prog 105 #[ptr bb,.iface imp (ptr xb)] w (Ret fun v w'=>v=.nilIface∧rMp T w' xb t∧KeepX [bb,xb] w w'∧BufAt w' bb):=by
 refine Calls.mono (dscal_c tMap imp mpSch mpDs tb10 (by decide) (by decide) (by decide) mpSch_ok mpDs_ok mpSch_ds mpSch_no mpSch_tb w bb xb 0 k m zma hM.ok hf hx (fun k g off val h=>by have:=mpSch_off k g off val h;show 0+off<12;omega) (fun w' _=>mp_tells w' _)) (Ret.mono fun v w' h=>?_)
 obtain ⟨rfl,h1,h2,h3⟩:=h
 have hfo:(flds m).foldl (apS mpSch 0) zma=_:=mp_fold (flds m) (.string ⟨#[]⟩) (.string ⟨#[]⟩) 0 0 0 0 0 0 0 0 0 0
 rw[hfo]at h1
 have e:∀{n:Nat} {z:Int},(n:Int)=z→vU n=.int .u64 z:=fun h=>by rw[← h]
 have eb:∀{n:Nat} {z:Bool},decide (n≠0)=z→vB n=.bool z:=fun h=>by rw[← h]
 rw[e hM.id,e hM.st,e hM.li,e hM.off,eb hM.fu,eb hM.fi,eb hM.ln,eb hM.inl]at h1
 exact ⟨rfl,⟨_,_,h1,atW hM.file hl,atW hM.build hl⟩,h2,h3⟩
theorem dFn_c (T:List ByteArray) (hl:T.length≤1000000000) (w:World) (bb xb k:Nat) (m:Msg) (t:PFunc) (hM:FnM T t m) (hx:Blk w xb tFun zfu) (hf:BufF w bb (.bys k (mB m))):
  Calls Tryz.prog 105 #[ptr bb,.iface ifn (ptr xb)] w (Ret fun v w'=>v=.nilIface∧rFn T w' xb t∧KeepX [bb,xb] w w'∧BufAt w' bb):=by
 refine Calls.mono (dscal_c tFun ifn fnSch fnDs tb5 (by decide) (by decide) (by decide) fnSch_ok fnDs_ok fnSch_ds fnSch_no fnSch_tb w bb xb 0 k m zfu hM.ok hf hx (fun k g off val h=>by have:=fnSch_off k g off val h;show 0+off<8;omega) (fun w' _=>fn_tells w' _)) (Ret.mono fun v w' h=>?_)
 obtain ⟨rfl,h1,h2,h3⟩:=h
 have hfo:(flds m).foldl (apS fnSch 0) zfu=_:=fn_fold (flds m) (.string ⟨#[]⟩) (.string ⟨#[]⟩) (.string ⟨#[]⟩) 0 0 0 0 0
 rw[hfo]at h1
 have e:∀{n:Nat} {z:Int},(n:Int)=z→vU n=.int .u64 z:=fun h=>by rw[← h]
 have ei:∀{n:Nat} {z:Int},IntKind.i64.wrap (n:Nat)=z→vI n=.int .i64 z:=fun h=>by rw[← h]
 rw[e hM.id,ei hM.st]at h1
 exact ⟨rfl,⟨_,_,_,h1,atW hM.name hl,atW hM.sys hl,atW hM.file hl⟩,h2,h3⟩
theorem cnt_lt {k:Nat} {pre:List Fld} {f:Fld} (hp:pre++[f]<+:fs) (hk:fkey f=k):cnt k pre<cnt k fs:=by
 obtain ⟨r,rfl⟩:=hp
 rw[cnt_app,cnt_yes hk];omega
theorem take_succ_get {α:Type} {xs:List α} {j:Nat} {a:α} (h:xs[j]? =some a):xs.take (j+1)=xs.take j++[a]:=by
 obtain ⟨hl,rfl⟩:=List.getElem?_eq_some_iff.1 h
 exact (List.take_append_getElem hl).symm
structure LcSt (x:PProf) (l:PLoc) (bb lb:Nat) (w1:World) (pre:List Fld) (w:World):Prop where
 kx:KeepX [bb,lb] w1 w
 buf:BufAt w bb
 st:∃p c,Blk w lb tLoc [vU (oneN 1 pre),.pointer none,vU (oneN 3 pre),.slice p (cnt 4 pre) c,.bool false,vU (oneN 2 pre)]∧Rw (fun b=>w1.heap.size≤b) tLine 3 w p (cnt 4 pre) c ((l.lines.take (cnt 4 pre)).flatMap (cLnR x))
theorem lcDs_ok:DsOK tbLc lcDs:=⟨fun k h=>by
 rcases (by omega:k=0∨k=1∨k=2∨k=3∨k=4∨5≤k) with rfl|rfl|rfl|rfl|rfl|hk
 ·exact absurd rfl h
 ·exact ⟨_,rfl,call256⟩
 ·exact ⟨_,rfl,call257⟩
 ·exact ⟨_,rfl,call258⟩
 ·exact ⟨_,rfl,call259⟩
 ·exact absurd (by unfold tbLc;rw[if_neg (by omega),if_neg (by omega)]) h,fun k h=>by
 rcases (by omega:k=0∨k=1∨k=2∨k=3∨k=4∨5≤k) with rfl|rfl|rfl|rfl|rfl|hk
 ·exact .inr rfl
 ·cases h
 ·cases h
 ·cases h
 ·cases h
 ·exact .inl (List.getElem?_eq_none (by simpa using hk)),by decide⟩
theorem dLc_c (x:PProf) (w:World) (bb xb k:Nat) (m:Msg) (t:PLoc) (hM:LcM x t m) (hll:t.lines.length≤1000000) (hx:Blk w xb tLoc zlo) (hf:BufF w bb (.bys k (mB m))):
  Calls Tryz.prog 105 #[ptr bb,.iface ilc (ptr xb)] w (Ret fun v w'=>v=.nilIface∧rLc x (fun b=>w.heap.size≤b) w' xb t∧KeepX [bb,xb] w w'∧BufAt w' bb):=by
 obtain ⟨g,hgl,hg⟩:=hM.lns
 refine Calls.mono (dmsg_c w bb xb ilc tLoc (ptr xb) lcDs tbLc m k zlo hM.ok (fun k=>by unfold tbLc;split<;>(try split)<;>omega) lcDs_ok hf hx (by decide) (by decide) (fun w' _=>lc_tells w' _) (LcSt x t bb xb) fun w1 hf1=>?_) (Ret.mono fun v w' h=>?_)
 ·refine ⟨⟨.refl,(hf.keep hf1).at_,none,0,hf1.blk hx (.inr (by simp)),Rw.nil⟩,fun pre w2 h=>h.kx,fun pre w2 h=>h.buf,fun pre w2 w3 h hk hb=>?_,fun pre f w2 hp h ht=>?_,fun pre f w2 gf hp h hbf hw hgf=>?_⟩
  ·obtain ⟨p,c,h1,h2⟩:=h.st
   exact ⟨h.kx.trans' (hk.mono (by simp)),hb,p,c,hk.blk h1 (by simpa using h.buf.ne h1 (by decide)),h2.keep fun b cs hq=>hk.blk hq (by simpa using h.buf.ne hq (by decide))⟩
  ·have n1:fkey f≠1:=fun e=>by rw[e]at ht;cases ht
   have n2:fkey f≠2:=fun e=>by rw[e]at ht;cases ht
   have n3:fkey f≠3:=fun e=>by rw[e]at ht;cases ht
   have n4:fkey f≠4:=fun e=>by rw[e]at ht;cases ht
   refine ⟨h.kx,h.buf,?_⟩
   rw[cnt_no n4,oneN,oneN,oneN,one_no n1,one_no n2,one_no n3]
   exact h.st
  ·obtain ⟨p,c,h1,h2⟩:=h.st
   have sc:∀(j off:Nat) (gs:FuncId),fkey f=j→SetsN tLoc ilc gs off vU→off<6→tbLc j=1→(∀n:Nat,f=.num j n→[vU (oneN 1 (pre++[f])),.pointer none,vU (oneN 3 (pre++[f])),.slice p (cnt 4 (pre++[f])) c,.bool false,vU (oneN 2 (pre++[f]))]=setL [vU (oneN 1 pre),.pointer none,vU (oneN 3 pre),.slice p (cnt 4 pre) c,.bool false,vU (oneN 2 pre)] off [vU n])→j≠4→
     Calls Tryz.prog gs #[ptr bb,.iface ilc (ptr xb)] w2 (Ret fun v w'=>v=.nilIface∧LcSt x t bb xb w1 (pre++[f]) w'):=fun j off gs hj hs ho htj he h4=>by
    subst hj
    cases f with
    |bys k' D=>simp only at hw;rw[show tbLc k'=1 from htj]at hw;omega
    |num k' n=>
     obtain ⟨hn,tmp,hb⟩:=hbf
     refine Calls.mono (hs w2 bb xb 0 k' n _ tmp hn hb h1 (by simpa using ho)) (Ret.mono fun v w3 hR=>?_)
     obtain ⟨rfl,h5,h6⟩:=hR
     refine ⟨rfl,h.kx.trans' (h6.mono (by simp)),h.buf.keep fun cs hq=>h6.blk hq (by simpa using (h.buf.ne h1 (by decide)).symm),p,c,?_,?_⟩
     ·rw[he n rfl];simpa using h5
     ·rw[cnt_no h4]
      exact h2.keep fun b cs hq=>h6.blk hq (by simpa using hq.ne h1 (by decide))
   rcases (by omega:fkey f=0∨fkey f=1∨fkey f=2∨fkey f=3∨fkey f=4∨5≤fkey f) with hk|hk|hk|hk|hk|hk
   ·rw[hk]at hgf;cases hgf
   ·rw[hk]at hgf;cases hgf
    exact sc 1 0 _ hk lc1_s (by omega) rfl (fun n hn=>by subst hn;simp only[oneN];rw[one_yes (k:=1) hk,one_no (k:=2) (by rw[hk];decide),one_no (k:=3) (by rw[hk];decide),cnt_no (k:=4) (by rw[hk];decide)];rfl) (by decide)
   ·rw[hk]at hgf;cases hgf
    exact sc 2 5 _ hk lc2_s (by omega) rfl (fun n hn=>by subst hn;simp only[oneN];rw[one_yes (k:=2) hk,one_no (k:=1) (by rw[hk];decide),one_no (k:=3) (by rw[hk];decide),cnt_no (k:=4) (by rw[hk];decide)];rfl) (by decide)
   ·rw[hk]at hgf;cases hgf
    exact sc 3 2 _ hk lc3_s (by omega) rfl (fun n hn=>by subst hn;simp only[oneN];rw[one_yes (k:=3) hk,one_no (k:=2) (by rw[hk];decide),one_no (k:=1) (by rw[hk];decide),cnt_no (k:=4) (by rw[hk];decide)];rfl) (by decide)
   ·rw[hk]at hgf;cases hgf
    obtain ⟨q,hq,hqn⟩:=hg.at_ hp hk
    have hlt:=cnt_lt hp hk
    rw[hg.cnt,hgl]at hlt
    have hn0:t.lines[cnt 4 pre]? =some t.lines[cnt 4 pre]:=List.getElem?_eq_getElem hlt
    have hLn:=hqn _ hn0
    cases f with
    |num k' n=>simp only[fkey]at hk;subst hk;simp only at hw;exact absurd hw (by decide)
    |bys k' D=>
     simp only[fkey,fbytes]at hk hq
     subst hk;subst hq
     obtain ⟨y,hO,hy⟩:=h2
     refine Calls.mono (lc4_m w2 bb xb 4 _ c q _ y p _ hLn.ok hbf h1 rfl hO (fun ho=>(hy ho).1) (by omega)) (Ret.mono fun v w3 hR=>?_)
     obtain ⟨rfl,⟨y',p',c',hO',hy',hr',hb'⟩,hkk,hbb⟩:=hR
     have hge:∀q∈[bb,xb]++rowL y,q∈[bb,xb]∨w1.heap.size≤q:=fun q hq=>by
       rcases List.mem_append.1 hq with hq|hq
       ·exact .inl hq
       ·unfold rowL at hq
        split at hq
        ·next ho=>simp at hq;rw[hq];exact .inr (hy ho).2
        ·cases hq
     refine ⟨rfl,h.kx.more hkk hge,hbb,p',c',?_,?_⟩
     ·simp only[oneN]
      rw[one_no (k:=1) (f:=.bys 4 (mB q)) (show (4:Nat)≠1 by decide),one_no (k:=2) (f:=.bys 4 (mB q)) (show (4:Nat)≠2 by decide),one_no (k:=3) (f:=.bys 4 (mB q)) (show (4:Nat)≠3 by decide),cnt_yes (k:=4) (f:=.bys 4 (mB q)) rfl]
      exact hb'
     ·rw[cnt_yes (k:=4) (f:=.bys 4 (mB q)) rfl,take_succ_get hn0,List.flatMap_append]
      have e1:[t.lines[cnt 4 pre]].flatMap (cLnR x)=[.pointer none,vI (oneN 2 (flds q)),vU (oneN 1 (flds q))]:=by
        simp only[List.flatMap_cons,List.flatMap_nil,List.append_nil,cLnR,vI,vU,hLn.fn,hLn.line]
      rw[e1]
      refine ⟨y',hO',fun ho=>⟨hy' ho,?_⟩⟩
      rcases hr' ho with ⟨e1,e2⟩|e
      ·rw[e2];exact (hy e1).2
      ·exact Nat.le_trans h.kx.size e
   ·rw[List.getElem?_eq_none (by simpa using hk)]at hgf;cases hgf
 ·obtain ⟨rfl,w1,hf1,h2⟩:=h
  obtain ⟨p,c,h3,h4⟩:=h2.st
  have hc4:cnt 4 (flds m)=t.lines.length:=by rw[hg.cnt,hgl]
  have e:∀{n:Nat} {z:Int},(n:Int)=z→vU n=.int .u64 z:=fun h=>by rw[← h]
  rw[hc4,e hM.id,e hM.mp,e hM.ad]at h3
  rw[hc4,List.take_length]at h4
  exact ⟨rfl,⟨p,c,h3,h4.mono fun b cs hb hk=>⟨hk,Nat.le_trans hf1.size hb⟩⟩,h2.kx.afterF hf1,h2.buf⟩
theorem gv_len {nss:List (List Nat)} {pre:List Fld}:(gv nss pre).length≤nss.flatten.length:=by
 unfold gv
 conv=>rhs;rw[← List.take_append_drop pre.length nss,List.flatten_append,List.length_append]
 omega
structure SmSt (x:PProf) (T:List ByteArray) (nS nV:List (List Nat)) (es:List LE) (bb sb:Nat) (w1:World) (pre:List Fld) (w:World):Prop where
 kx:KeepX [bb,sb] w1 w
 buf:BufAt w bb
 st:∃pv cv pi ci pl cl lbs,Blk w sb tSam [.slice none 0 0,.slice pv (gv nV pre).length cv,.map none,.map none,.map none,.slice pi (gv nS pre).length ci,.slice pl (cnt 3 pre) cl]∧
  Rw (fun b=>w1.heap.size≤b) tI64 1 w pv (gv nV pre).length cv ((gv nV pre).map vI)∧cv<9223372036854775808∧Rw (fun b=>w1.heap.size≤b) tU64 1 w pi (gv nS pre).length ci ((gv nS pre).map vU)∧ci<9223372036854775808∧
  Rw (fun b=>w1.heap.size≤b) tLabel 3 w pl (cnt 3 pre) cl (lbs.flatMap cLb)∧LbQs T lbs (es.take (cnt 3 pre))
theorem smDs_ok:DsOK tbSm smDs:=⟨fun k h=>by
 rcases (by omega:k=0∨k=1∨k=2∨k=3∨4≤k) with rfl|rfl|rfl|rfl|hk
 ·exact absurd rfl h
 ·exact ⟨_,rfl,call264⟩
 ·exact ⟨_,rfl,call266⟩
 ·exact ⟨_,rfl,call267⟩
 ·exact absurd (by unfold tbSm;rw[if_neg (by omega),if_neg (by omega)]) h,fun k h=>by
 rcases (by omega:k=0∨k=1∨k=2∨k=3∨4≤k) with rfl|rfl|rfl|rfl|hk
 ·exact .inr rfl
 ·cases h
 ·cases h
 ·cases h
 ·exact .inl (List.getElem?_eq_none (by simpa using hk)),by decide⟩
theorem rowL_ge {T2:Nat} (hy:y.on=true→Blk w y.b T2 y.cs∧n≤y.b):∀q∈rowL y,n≤q:=fun q hq=>by
 unfold rowL at hq
 split at hq
 ·next ho=>simp at hq;rw[hq];exact (hy ho).2
 ·cases hq
theorem LbM.q {T:List ByteArray} (hl:T.length≤1000000000) {e:LE} {m:Msg} (h:LbM T e m):LbQ T (IntKind.i64.wrap (oneN 1 (flds m):Nat),IntKind.i64.wrap (oneN 2 (flds m):Nat),IntKind.i64.wrap (oneN 3 (flds m):Nat)) e:=by
 refine ⟨atW h.key hl,?_⟩
 have hv:=h.val
 cases hc:e.2.1 with
 |some t=>
  rw[hc]at hv
  simp only at hv⊢
  have h1:=(List.getElem?_eq_some_iff.1 hv.2).1
  rw[wrap64_small (z:=(oneN 2 (flds m):Nat)) (by omega) (by omega)]
  exact ⟨by omega,_,rfl,hv.2⟩
 |none=>
  rw[hc]at hv
  simp only at hv⊢
  rw[hv.1]
  exact ⟨rfl,hv.2⟩
theorem LbQs.push {T:List ByteArray} {lbs:List (Int×Int×Int)} {es:List LE} {q:Int×Int×Int} {e:LE} (h:LbQs T lbs es) (hq:LbQ T q e):LbQs T (lbs++[q]) (es++[e]):=by
 refine ⟨by simp[h.1],fun i q' e' hq' he'=>?_⟩
 by_cases hi:i<lbs.length
 ·rw[List.getElem?_append_left hi]at hq'
  rw[List.getElem?_append_left (by rw[← h.1];exact hi)]at he'
  exact h.2 i q' e' hq' he'
 ·have hlt:=(List.getElem?_eq_some_iff.1 hq').1
  simp at hlt
  have e1:i=lbs.length:=by omega
  subst e1
  rw[List.getElem?_append_right (by omega)]at hq'
  rw[List.getElem?_append_right (by rw[h.1];omega)]at he'
  simp at hq'
  simp[h.1]at he'
  subst hq';subst he';exact hq
set_option maxHeartbeats 1000000 in
theorem dSm_c (x:PProf) (T:List ByteArray) (hl:T.length≤1000000000) (w:World) (bb xb k:Nat) (m:Msg) (t:PSample) (hM:SmM x T t m) (hsl:t.stack.length≤1000000) (hvl:t.values.length≤1000000) (hx:Blk w xb tSam zsa) (hf:BufF w bb (.bys k (mB m))):
  Calls Tryz.prog 105 #[ptr bb,.iface ism (ptr xb)] w (Ret fun v w'=>v=.nilIface∧rSm x T (fun b=>w.heap.size≤b) w' xb t∧KeepX [bb,xb] w w'∧BufAt w' bb):=by
 obtain ⟨nS,hS,hSe⟩:=hM.st
 obtain ⟨nV,hV,hVe⟩:=hM.vs
 obtain ⟨g,es,hgl,hg,hLs,hel⟩:=hM.lb
 have hSl:nS.flatten.length=t.stack.length:=by have:=congrArg List.length hSe;rwa [List.length_map,List.length_map]at this
 have hVl:nV.flatten.length=t.values.length:=by have:=congrArg List.length hVe;rwa [List.length_map]at this
 refine Calls.mono (dmsg_c w bb xb ism tSam (ptr xb) smDs tbSm m k zsa hM.ok (fun k=>by unfold tbSm;split<;>(try split)<;>omega) smDs_ok hf hx (by decide) (by decide) (fun w' _=>sm_tells w' _) (SmSt x T nS nV es bb xb) fun w1 hf1=>?_) (Ret.mono fun v w' h=>?_)
 ·refine ⟨⟨.refl,(hf.keep hf1).at_,none,0,none,0,none,0,[],hf1.blk hx (.inr (by simp)),Rw.nil,by omega,Rw.nil,by omega,Rw.nil,by simp[cnt],by simp⟩,fun pre w2 h=>h.kx,fun pre w2 h=>h.buf,fun pre w2 w3 h hk hb=>?_,fun pre f w2 hp h ht=>?_,fun pre f w2 gf hp h hbf hw hgf=>?_⟩
  ·obtain ⟨pv,cv,pi,ci,pl,cl,lbs,h1,h2,h3,h4,h5,h6,h7⟩:=h.st
   have kb:∀(T:Nat),T≠tBuf→∀b cs,Blk w2 b T cs→Blk w3 b T cs:=fun T hT b cs hq=>hk.blk hq (by simpa using h.buf.ne hq hT)
   exact ⟨h.kx.trans' (hk.mono (by simp)),hb,pv,cv,pi,ci,pl,cl,lbs,kb _ (by decide) _ _ h1,h2.keep (kb _ (by decide)),h3,h4.keep (kb _ (by decide)),h5,h6.keep (kb _ (by decide)),h7⟩
  ·have n1:fkey f≠1:=fun e=>by rw[e]at ht;cases ht
   have n2:fkey f≠2:=fun e=>by rw[e]at ht;cases ht
   have n3:fkey f≠3:=fun e=>by rw[e]at ht;cases ht
   obtain ⟨a,e1,e1'⟩:=hS.step hp
   obtain ⟨b,e2,e2'⟩:=hV.step hp
   rw[if_neg n1]at e1'
   rw[if_neg n2]at e2'
   subst e1';subst e2'
   rw[List.append_nil]at e1 e2
   refine ⟨h.kx,h.buf,?_⟩
   rw[cnt_no n3,e1,e2]
   exact h.st
  ·obtain ⟨pv,cv,pi,ci,pl,cl,lbs,h1,h2,h3,h4,h5,h6,h7⟩:=h.st
   obtain ⟨a,e1,e1'⟩:=hS.step hp
   obtain ⟨b,e2,e2'⟩:=hV.step hp
   have hgS:=gv_len (nss:=nS) (pre:=pre++[f])
   have hgV:=gv_len (nss:=nV) (pre:=pre++[f])
   rcases (by omega:fkey f=0∨fkey f=1∨fkey f=2∨fkey f=3∨4≤fkey f) with hk|hk|hk|hk|hk
   ·rw[hk]at hgf;cases hgf
   ·rw[hk]at hgf;cases hgf
    rw[if_pos hk]at e1'
    rw[if_neg (by rw[hk];decide)]at e2'
    subst e2'
    rw[List.append_nil]at e2
    obtain ⟨y,hO,hy⟩:=h4
    refine Calls.mono (sm1_l w2 bb xb f a _ y pi _ ci _ hbf e1' h1 rfl hO (fun ho=>(hy ho).1) h5 (by rw[e1,List.length_append]at hgS;omega)) (Ret.mono fun v w3 hR=>?_)
    obtain ⟨rfl,⟨y',p',c',hO',hc',hy',hr',hb'⟩,hkk⟩:=hR
    have kb:∀(T:Nat),T≠tSam→T≠tU64→∀b cs,Blk w2 b T cs→Blk w3 b T cs:=fun T hT hU b cs hq=>hkk.blk hq fun hm=>by
     rcases List.mem_append.1 hm with hm|hm
     ·simp at hm;exact hq.ne h1 hT hm
     ·exact rowL_nin (fun ho=>(hy ho).1) hq hU hm
    refine ⟨rfl,h.kx.more hkk fun q hq=>?_,h.buf.keep (kb _ (by decide) (by decide) _),pv,cv,p',c',pl,cl,lbs,?_⟩
    ·rcases List.mem_append.1 hq with hq|hq
     ·simp at hq;subst hq;simp
     ·exact .inr (rowL_ge hy q hq)
    ·rw[cnt_no (k:=3) (by rw[hk];decide),e1,e2,List.length_append,List.map_append]
     exact ⟨hb',h2.keep (kb _ (by decide) (by decide)),h3,⟨y',hO',fun ho=>⟨hy' ho,by
      rcases hr' ho with ⟨e1,e2⟩|e
      ·rw[e2];exact (hy e1).2
      ·exact Nat.le_trans h.kx.size e⟩⟩,hc',h6.keep (kb _ (by decide) (by decide)),h7⟩
   ·rw[hk]at hgf;cases hgf
    rw[if_neg (by rw[hk];decide)]at e1'
    rw[if_pos hk]at e2'
    subst e1'
    rw[List.append_nil]at e1
    obtain ⟨y,hO,hy⟩:=h2
    refine Calls.mono (sm2_l w2 bb xb f b _ y pv _ cv _ hbf e2' h1 rfl hO (fun ho=>(hy ho).1) h3 (by rw[e2,List.length_append]at hgV;omega)) (Ret.mono fun v w3 hR=>?_)
    obtain ⟨rfl,⟨y',p',c',hO',hc',hy',hr',hb'⟩,hkk⟩:=hR
    have kb:∀(T:Nat),T≠tSam→T≠tI64→∀b cs,Blk w2 b T cs→Blk w3 b T cs:=fun T hT hU b cs hq=>hkk.blk hq fun hm=>by
     rcases List.mem_append.1 hm with hm|hm
     ·simp at hm;exact hq.ne h1 hT hm
     ·exact rowL_nin (fun ho=>(hy ho).1) hq hU hm
    refine ⟨rfl,h.kx.more hkk fun q hq=>?_,h.buf.keep (kb _ (by decide) (by decide) _),p',c',pi,ci,pl,cl,lbs,?_⟩
    ·rcases List.mem_append.1 hq with hq|hq
     ·simp at hq;subst hq;simp
     ·exact .inr (rowL_ge hy q hq)
    ·rw[cnt_no (k:=3) (by rw[hk];decide),e1,e2,List.length_append,List.map_append]
     exact ⟨hb',⟨y',hO',fun ho=>⟨hy' ho,by
      rcases hr' ho with ⟨e1,e2⟩|e
      ·rw[e2];exact (hy e1).2
      ·exact Nat.le_trans h.kx.size e⟩⟩,hc',h4.keep (kb _ (by decide) (by decide)),h5,h6.keep (kb _ (by decide) (by decide)),h7⟩
   ·rw[hk]at hgf;cases hgf
    rw[if_neg (by rw[hk];decide)]at e1' e2'
    subst e1';subst e2'
    rw[List.append_nil]at e1 e2
    obtain ⟨q,hq,hqn⟩:=hg.at_ hp hk
    have hlt:=cnt_lt hp hk
    rw[hg.cnt,hgl]at hlt
    have hn0:es[cnt 3 pre]? =some es[cnt 3 pre]:=List.getElem?_eq_getElem hlt
    have hLb:=hqn _ hn0
    cases f with
    |num k' n=>simp only[fkey]at hk;subst hk;simp only at hw;exact absurd hw (by decide)
    |bys k' D=>
     simp only[fkey,fbytes]at hk hq
     subst hk;subst hq
     obtain ⟨y,hO,hy⟩:=h6
     refine Calls.mono (sm3_m w2 bb xb 3 _ cl q _ y pl _ hLb.ok hbf h1 rfl hO (fun ho=>(hy ho).1) (by omega)) (Ret.mono fun v w3 hR=>?_)
     obtain ⟨rfl,⟨y',p',c',hO',hy',hr',hb'⟩,hkk,hbb⟩:=hR
     have kb:∀(T:Nat),T≠tBuf→T≠tSam→T≠tLabel→∀b cs,Blk w2 b T cs→Blk w3 b T cs:=fun T hB hT hU b cs hq=>hkk.blk hq fun hm=>by
       rcases List.mem_append.1 hm with hm|hm
       ·simp only[List.mem_cons,List.mem_nil_iff,or_false]at hm
        rcases hm with hm|hm
        ·exact h.buf.ne hq hB hm
        ·exact hq.ne h1 hT hm
       ·exact rowL_nin (fun ho=>(hy ho).1) hq hU hm
     refine ⟨rfl,h.kx.more hkk fun q hq=>?_,hbb,pv,cv,pi,ci,p',c',lbs++[(IntKind.i64.wrap (oneN 1 (flds q):Nat),IntKind.i64.wrap (oneN 2 (flds q):Nat),IntKind.i64.wrap (oneN 3 (flds q):Nat))],?_⟩
     ·rcases List.mem_append.1 hq with hq|hq
      ·exact .inl hq
      ·exact .inr (rowL_ge hy q hq)
     ·rw[cnt_yes (k:=3) (f:=.bys 3 (mB q)) rfl,e1,e2,List.flatMap_append,take_succ_get hn0]
      exact ⟨hb',h2.keep (kb _ (by decide) (by decide) (by decide)),h3,h4.keep (kb _ (by decide) (by decide) (by decide)),h5,⟨y',hO',fun ho=>⟨hy' ho,by
        rcases hr' ho with ⟨e1,e2⟩|e
        ·rw[e2];exact (hy e1).2
        ·exact Nat.le_trans h.kx.size e⟩⟩,h7.push (hLb.q hl)⟩
   ·rw[List.getElem?_eq_none (by simpa using hk)]at hgf;cases hgf
 ·obtain ⟨rfl,w1,hf1,h0⟩:=h
  obtain ⟨pv,cv,pi,ci,pl,cl,lbs,h1,h2,h3,h4,h5,h6,h7⟩:=h0.st
  have hc3:cnt 3 (flds m)=es.length:=by rw[hg.cnt,hgl]
  have eV:(nV.flatten.map vI)=t.values.map (.int .i64):=by rw[← hVe,List.map_map];rfl
  have eS:(nS.flatten.map vU)=t.stack.map fun z=>.int .u64 (lid x z):=by
   have:=congrArg (List.map (Value.int .u64)) hSe
   simpa[Function.comp_def]using this
  rw[hc3,hV.all,hS.all,hVl,hSl]at h1
  rw[hV.all,hVl,eV]at h2
  rw[hS.all,hSl,eS]at h4
  rw[hc3]at h6 h7
  rw[List.take_length]at h7
  have kb:∀b,w1.heap.size≤b→w.heap.size≤b:=fun b hb=>Nat.le_trans hf1.size hb
  exact ⟨rfl,⟨pv,cv,pi,ci,pl,cl,lbs,es,h1,h2.mono fun b cs hb hk=>⟨hk,kb b hb⟩,h4.mono fun b cs hb hk=>⟨hk,kb b hb⟩,h6.mono fun b cs hb hk=>⟨hk,kb b hb⟩,h7,hLs,hel⟩,h0.kx.afterF hf1,h0.buf⟩
theorem rVT.mono {T:List ByteArray} {t:PType} (h:rVT T w b t) (k:∀cs,Blk w b tVT cs→Blk w' b tVT cs):rVT T w' b t:=by
 obtain ⟨n,m,h1,h2⟩:=h
 exact ⟨n,m,k _ h1,h2⟩
theorem rMp.mono {T:List ByteArray} {t:PMapping} (h:rMp T w b t) (k:∀cs,Blk w b tMap cs→Blk w' b tMap cs):rMp T w' b t:=by
 obtain ⟨n,m,h1,h2⟩:=h
 exact ⟨n,m,k _ h1,h2⟩
theorem rFn.mono {T:List ByteArray} {t:PFunc} (h:rFn T w b t) (k:∀cs,Blk w b tFun cs→Blk w' b tFun cs):rFn T w' b t:=by
 obtain ⟨n,m,i,h1,h2⟩:=h
 exact ⟨n,m,i,k _ h1,h2⟩
theorem rLc.mono {x:PProf} {ψ:Nat→Prop} {t:PLoc} (h:rLc x φ w b t) (k:∀cs,Blk w b tLoc cs→Blk w' b tLoc cs) (k2:∀b cs,φ b→Blk w b tLine cs→Blk w' b tLine cs∧ψ b):rLc x ψ w' b t:=by
 obtain ⟨p,c,h1,h2⟩:=h
 exact ⟨p,c,k _ h1,h2.mono k2⟩
theorem rSm.mono {x:PProf} {T:List ByteArray} {ψ:Nat→Prop} {t:PSample} (h:rSm x T φ w b t) (k:∀cs,Blk w b tSam cs→Blk w' b tSam cs) (k2:∀b cs,φ b→Blk w b tI64 cs→Blk w' b tI64 cs∧ψ b) (k3:∀b cs,φ b→Blk w b tU64 cs→Blk w' b tU64 cs∧ψ b) (k4:∀b cs,φ b→Blk w b tLabel cs→Blk w' b tLabel cs∧ψ b):rSm x T ψ w' b t:=by
 obtain ⟨pv,cv,pi,ci,pl,cl,lbs,es,h1,h2,h3,h4,h5⟩:=h
 exact ⟨pv,cv,pi,ci,pl,cl,lbs,es,k _ h1,h2.mono k2,h3.mono k3,h4.mono k4,h5⟩
theorem rVT.lt {T:List ByteArray} {t:PType} (h:rVT T w b t):b<w.heap.size:=by obtain ⟨n,m,h1, -⟩:=h;exact h1.lt
theorem rMp.lt {T:List ByteArray} {t:PMapping} (h:rMp T w b t):b<w.heap.size:=by obtain ⟨n,m,h1, -⟩:=h;exact h1.lt
theorem rFn.lt {T:List ByteArray} {t:PFunc} (h:rFn T w b t):b<w.heap.size:=by obtain ⟨n,m,i,h1, -⟩:=h;exact h1.lt
theorem rLc.lt {x:PProf} {t:PLoc} (h:rLc x φ w b t):b<w.heap.size:=by obtain ⟨n,m,h1, -⟩:=h;exact h1.lt
theorem rSm.lt {x:PProf} {T:List ByteArray} {t:PSample} (h:rSm x T φ w b t):b<w.heap.size:=by obtain ⟨_,_,_,_,_,_,_,_,h1, -⟩:=h;exact h1.lt
theorem Each.snoc {α:Type} {xs:List α} {φ:Nat→α→Prop} {x:α} (h:Each bs xs φ) (hb:φ b x):Each (bs++[b]) (xs++[x]) φ:=by
 refine ⟨by simp[h.1],fun i b' x' hi hx=>?_⟩
 by_cases hl:i<bs.length
 ·rw[List.getElem?_append_left hl]at hi
  rw[List.getElem?_append_left (by rw[← h.1];exact hl)]at hx
  exact h.2 i b' x' hi hx
 ·have hlt:=(List.getElem?_eq_some_iff.1 hi).1
  simp at hlt
  have e1:i=bs.length:=by omega
  subst e1
  rw[List.getElem?_append_right (by omega)]at hi
  rw[List.getElem?_append_right (by rw[h.1];omega)]at hx
  simp at hi
  simp[h.1]at hx
  subst hi;subst hx;exact hb
structure Grp {α:Type} (pT B:Nat) (w:World) (p:Option Addr) (l c:Nat) (bs:List Nat) (xs:List α) (φ:Nat→α→Prop):Prop where
 row:Rw (fun b=>B≤b) pT 1 w p l c (bs.map ptr)
 each:Each bs xs φ
 nd:bs.Nodup
 fresh:∀b∈bs,B≤b∧b<w.heap.size
theorem Grp.nil {α:Type} {pT:Nat} {φ:Nat→α→Prop}:Grp pT B w none 0 0 [] ([]:List α) φ:=⟨Rw.nil,Each.nil,List.nodup_nil,by simp⟩
theorem Grp.keep {α:Type} {pT:Nat} {p:Option Addr} {xs:List α} {φ ψ:Nat→α→Prop} (h:Grp pT B w p l c bs xs φ) (hs:w.heap.size≤w'.heap.size) (k:∀b cs,Blk w b pT cs→Blk w' b pT cs) (kp:∀b x,φ b x→ψ b x):Grp pT B w' p l c bs xs ψ:=
 ⟨h.row.keep k,h.each.mono kp,h.nd,fun b hb=>⟨(h.fresh b hb).1,Nat.lt_of_lt_of_le (h.fresh b hb).2 hs⟩⟩
theorem Grp.push {α:Type} {pT:Nat} {p p':Option Addr} {c' xb:Nat} {xs:List α} {x:α} {φ ψ:Nat→α→Prop} {y':Ent} (h:Grp pT B w p l c bs xs φ) (hB:B≤w.heap.size) (hs:w.heap.size≤w'.heap.size) (kp:∀b x,φ b x→ψ b x) (hxb:w.heap.size≤xb) (hlt:xb<w'.heap.size) (hx:ψ xb x)
  (hO:Own pT 1 y' p' (l+1) c' (bs.map ptr++[ptr xb])) (hy':y'.on=true→Blk w' y'.b pT y'.cs) (hy:y.on=true→Blk w y.b pT y.cs∧B≤y.b) (hr:y'.on=true→(y.on=true∧y'.b=y.b)∨w.heap.size≤y'.b):Grp pT B w' p' (l+1) c' (bs++[xb]) (xs++[x]) ψ:=by
 refine ⟨⟨y',by simpa using hO,fun ho=>⟨hy' ho,?_⟩⟩,(h.each.mono kp).snoc hx,?_,fun b hb=>?_⟩
 ·rcases hr ho with ⟨e1,e2⟩|e
  ·rw[e2];exact (hy e1).2
  ·exact Nat.le_trans hB e
 ·rw[List.nodup_append]
  refine ⟨h.nd,by simp,fun a ha b hb=>?_⟩
  simp at hb
  have:=(h.fresh a ha).2
  omega
 ·rcases List.mem_append.1 hb with hb|hb
  ·exact ⟨(h.fresh b hb).1,Nat.lt_of_lt_of_le (h.fresh b hb).2 hs⟩
  ·simp at hb;subst hb;exact ⟨Nat.le_trans hB hxb,hlt⟩
def LP (B:Nat) (los:List Nat) (b rb:Nat):Prop:=B≤rb∧b≤rb∧∀b'∈los,b<b'→rb<b'
structure PfV where
 (tys sas mas los fus:List Nat) (pt ps pm pl pf pst pc:Option Addr) (ct cs cm cl cf cst cc:Nat) (yc:Ent) (vp:Value)
def pfCells (nC:List (List Nat)) (v:PfV) (pre:List Fld):List Value:=[.slice v.pt (cnt 1 pre) v.ct,.string eB,.slice v.ps (cnt 2 pre) v.cs,.slice v.pm (cnt 3 pre) v.cm,.slice v.pl (cnt 4 pre) v.cl,.slice v.pf (cnt 5 pre) v.cf,.slice none 0 0,.string eB,.string eB,vI (oneN 9 pre),vI (oneN 10 pre),v.vp,vI (oneN 12 pre),.slice v.pc (gv nC pre).length v.cc,vI (oneN 7 pre),vI (oneN 8 pre),.slice v.pst (cnt 6 pre) v.cst,vI (oneN 14 pre)]
structure PfC (x:PProf) (T:List ByteArray) (nC:List (List Nat)) (B:Nat) (w:World) (v:PfV) (pre:List Fld):Prop where
 c1:Grp pVT B w v.pt (cnt 1 pre) v.ct v.tys (x.types.take (cnt 1 pre)) (rVT T w)
 c2:Grp pSam B w v.ps (cnt 2 pre) v.cs v.sas (x.samples.take (cnt 2 pre)) (rSm x T (fun b=>B≤b∧b∉rowL v.yc) w)
 c3:Grp pMap B w v.pm (cnt 3 pre) v.cm v.mas (x.mappings.take (cnt 3 pre)) (rMp T w)
 c4:Grp pLoc B w v.pl (cnt 4 pre) v.cl v.los (x.locs.take (cnt 4 pre)) (fun b l=>rLc x (LP B v.los b) w b l)
 c5:Grp pFun B w v.pf (cnt 5 pre) v.cf v.fus (x.funcs.take (cnt 5 pre)) (rFn T w)
 c6:Rw (fun b=>B≤b) tStr 1 w v.pst (cnt 6 pre) v.cst ((T.take (cnt 6 pre)).map .string)
 c11:(cnt 11 pre=0∧v.vp=.pointer none)∨∃b,0<cnt 11 pre∧v.vp=ptr b∧rVT T w b x.per∧B≤b∧b∉v.tys
 c13:Own tI64 1 v.yc v.pc (gv nC pre).length v.cc ((gv nC pre).map vI)
 c13y:v.yc.on=true→Blk w v.yc.b tI64 v.yc.cs∧B≤v.yc.b
 c13c:v.cc<9223372036854775808
structure PfSt (x:PProf) (T:List ByteArray) (nC:List (List Nat)) (bb pb:Nat) (w1:World) (pre:List Fld) (w:World):Prop where
 kx:KeepX [bb,pb] w1 w
 buf:BufAt w bb
 st:∃v,Blk w pb tProf (pfCells nC v pre)∧PfC x T nC w1.heap.size w v pre
theorem PfC.keep {x:PProf} {T:List ByteArray} {nC:List (List Nat)} {v:PfV} {pre:List Fld} (h:PfC x T nC B w v pre) (hs:w.heap.size≤w'.heap.size) (kb:∀(T:Nat),T≠tBuf→T≠tProf→∀b cs,Blk w b T cs→Blk w' b T cs):PfC x T nC B w' v pre:=
 { c1:=h.c1.keep hs (kb _ (by decide) (by decide)) fun b t hh=>hh.mono (kb _ (by decide) (by decide) _)
   c2:=h.c2.keep hs (kb _ (by decide) (by decide)) fun b t hh=>hh.mono (kb _ (by decide) (by decide) _) (fun b cs hb hk=>⟨kb _ (by decide) (by decide) _ _ hk,hb⟩) (fun b cs hb hk=>⟨kb _ (by decide) (by decide) _ _ hk,hb⟩) (fun b cs hb hk=>⟨kb _ (by decide) (by decide) _ _ hk,hb⟩)
   c3:=h.c3.keep hs (kb _ (by decide) (by decide)) fun b t hh=>hh.mono (kb _ (by decide) (by decide) _)
   c4:=h.c4.keep hs (kb _ (by decide) (by decide)) fun b t hh=>hh.mono (kb _ (by decide) (by decide) _) (fun b cs hb hk=>⟨kb _ (by decide) (by decide) _ _ hk,hb⟩)
   c5:=h.c5.keep hs (kb _ (by decide) (by decide)) fun b t hh=>hh.mono (kb _ (by decide) (by decide) _)
   c6:=h.c6.keep (kb _ (by decide) (by decide))
   c11:=h.c11.imp id fun ⟨b,h0,h1,h2,h3⟩=>⟨b,h0,h1,h2.mono (kb _ (by decide) (by decide) _),h3⟩
   c13:=h.c13
   c13y:=fun ho=>⟨kb _ (by decide) (by decide) _ _ (h.c13y ho).1,(h.c13y ho).2⟩
   c13c:=h.c13c }
theorem tab_at {T:List ByteArray} (h:(fs.filter fun f=>fkey f=6).map fbytes=T.map sB) {pre:List Fld} {f:Fld} (hp:pre++[f]<+:fs) (hk:fkey f=6):∃s,T[cnt 6 pre]? =some s∧sB s=fbytes f:=by
 obtain ⟨r,rfl⟩:=hp
 have h1:(((pre++[f]++r).filter fun f=>fkey f=6).map fbytes)[cnt 6 pre]? =some (fbytes f):=by
  rw[List.filter_append,List.filter_append,List.append_assoc,List.map_append,List.getElem?_append_right (by simp[cnt]),show cnt 6 pre - ((pre.filter fun f=>decide (fkey f=6)).map fbytes).length=0 by simp[cnt]]
  simp[hk]
 rw[h,List.getElem?_map]at h1
 exact Option.map_eq_some_iff.1 h1
theorem pfDs_ok:DsOK tbPf pfDs:=⟨fun k h=>by
 rcases (by omega:k=0∨k=1∨k=2∨k=3∨k=4∨k=5∨k=6∨k=7∨k=8∨k=9∨k=10∨k=11∨k=12∨k=13∨k=14∨15≤k) with rfl|rfl|rfl|rfl|rfl|rfl|rfl|rfl|rfl|rfl|rfl|rfl|rfl|rfl|rfl|hk
 ·exact absurd rfl h
 ·exact ⟨_,rfl,call197⟩
 ·exact ⟨_,rfl,call198⟩
 ·exact ⟨_,rfl,call199⟩
 ·exact ⟨_,rfl,call200⟩
 ·exact ⟨_,rfl,call201⟩
 ·exact ⟨_,rfl,call202⟩
 ·exact ⟨_,rfl,call204⟩
 ·exact ⟨_,rfl,call206⟩
 ·exact ⟨_,rfl,call207⟩
 ·exact ⟨_,rfl,call208⟩
 ·exact ⟨_,rfl,call209⟩
 ·exact ⟨_,rfl,call210⟩
 ·exact ⟨_,rfl,call211⟩
 ·exact ⟨_,rfl,call213⟩
 ·exact absurd (by unfold tbPf;rw[if_neg (by omega),if_neg (by omega),if_neg (by omega)]) h,fun k h=>by
 rcases (by omega:k=0∨k=1∨k=2∨k=3∨k=4∨k=5∨k=6∨k=7∨k=8∨k=9∨k=10∨k=11∨k=12∨k=13∨k=14∨15≤k) with rfl|rfl|rfl|rfl|rfl|rfl|rfl|rfl|rfl|rfl|rfl|rfl|rfl|rfl|rfl|hk
 ·exact .inr rfl
 ·cases h
 ·cases h
 ·cases h
 ·cases h
 ·cases h
 ·cases h
 ·cases h
 ·cases h
 ·cases h
 ·cases h
 ·cases h
 ·cases h
 ·cases h
 ·cases h
 ·exact .inl (List.getElem?_eq_none (by simpa using hk)),by decide⟩
theorem far13 {y':Ent} (hr:y'.on=true→(y.on=true∧y'.b=y.b)∨n≤y'.b) (hb:b∉rowL y) (hlt:b<n):b∉rowL y':=fun hm=>by
 unfold rowL at hm
 split at hm
 ·next ho=>
  simp at hm
  rcases hr ho with ⟨e1,e2⟩|e
  ·exact hb (by simp[rowL,e1,hm,e2])
  ·omega
 ·cases hm
structure UOut (x:PProf) (T:List ByteArray) (bb pb:Nat) (w w':World):Prop where
 kx:KeepX [bb,pb] w w'
 st:∃(v:PfV) (cx:List Int) (dx kx sx:Int),Blk w' pb tProf [.slice v.pt x.types.length v.ct,.string eB,.slice v.ps x.samples.length v.cs,.slice v.pm x.mappings.length v.cm,.slice v.pl x.locs.length v.cl,.slice v.pf x.funcs.length v.cf,.slice none 0 0,.string eB,.string eB,.int .i64 x.time,.int .i64 x.dur,v.vp,.int .i64 x.period,.slice v.pc cx.length v.cc,.int .i64 dx,.int .i64 kx,.slice v.pst T.length v.cst,.int .i64 sx]∧
  (Grp pVT w.heap.size w' v.pt x.types.length v.ct v.tys x.types (rVT T w'))∧(Grp pSam w.heap.size w' v.ps x.samples.length v.cs v.sas x.samples (rSm x T (fun b=>w.heap.size≤b) w'))∧(Grp pMap w.heap.size w' v.pm x.mappings.length v.cm v.mas x.mappings (rMp T w'))∧(Grp pLoc w.heap.size w' v.pl x.locs.length v.cl v.los x.locs (fun b l=>rLc x (LP w.heap.size v.los b) w' b l))∧(Grp pFun w.heap.size w' v.pf x.funcs.length v.cf v.fus x.funcs (rFn T w'))∧
  Rw (fun b=>w.heap.size≤b) tStr 1 w' v.pst T.length v.cst (T.map .string)∧Rw (fun b=>w.heap.size≤b) tI64 1 w' v.pc cx.length v.cc (cx.map (.int .i64))∧(Al2 x.comments cx fun s n=>At T n s)∧At T dx x.drop∧At T kx x.keep∧At T sx x.deflt∧
  ((v.vp=.pointer none∧x.per=⟨eB,eB⟩)∨∃b,v.vp=ptr b∧rVT T w' b x.per∧w.heap.size≤b∧b∉v.tys)
abbrev zpf:List Value:=[.slice none 0 0,.string ⟨#[]⟩,.slice none 0 0,.slice none 0 0,.slice none 0 0,.slice none 0 0,.slice none 0 0,.string ⟨#[]⟩,.string ⟨#[]⟩,.int .i64 0,.int .i64 0,.pointer none,.int .i64 0,.slice none 0 0,.int .i64 0,.int .i64 0,.slice none 0 0,.int .i64 0]
set_option maxHeartbeats 4000000 in
theorem dPf_c (x:PProf) (T:List ByteArray) (hx:WellP x) (w:World) (bb pb k:Nat) (m:Msg) (hI:UIn x T m) (hp0:Blk w pb tProf zpf) (hf:BufF w bb (.bys k (mB m))):
  Calls Tryz.prog 105 #[ptr bb,.iface ipf (ptr pb)] w (Ret fun v w'=>v=.nilIface∧UOut x T bb pb w w'):=by
 have hl:=hI.tl
 obtain ⟨g1,l1,s1⟩:=hI.ty
 obtain ⟨g2,l2,s2⟩:=hI.sm
 obtain ⟨g3,l3,s3⟩:=hI.mp
 obtain ⟨g4,l4,s4⟩:=hI.lc
 obtain ⟨g5,l5,s5⟩:=hI.fn
 obtain ⟨g11,l11,e11,s11⟩:=hI.pe
 obtain ⟨nC,hC,hCe⟩:=hI.cm
 have n1:=hx.ntyp
 have n2:=hx.nsam
 have n3:=hx.tab.m.2.2
 have n5:=hx.tab.f.2.2
 have n4:=hx.tab.l.2.2
 simp only[List.length_map]at n3 n4 n5
 have h6:cnt 6 (flds m)=T.length:=by have:=congrArg List.length hI.tab;simpa[cnt]using this
 have hCl:nC.flatten.length=x.comments.length:=hCe.1
 have hnc:=hx.ncom
 refine Calls.mono (dmsg_c w bb pb ipf tProf (ptr pb) pfDs tbPf m k zpf hI.ok (fun k=>by unfold tbPf;split<;>(try split)<;>(try split)<;>omega) pfDs_ok hf hp0 (by decide) (by decide) (fun w' _=>pf_tells w' _) (PfSt x T nC bb pb) fun w1 hf1=>?_) (Ret.mono fun v w' h=>?_)
 ·refine ⟨⟨.refl,(hf.keep hf1).at_,⟨[],[],[],[],[],none,none,none,none,none,none,none,0,0,0,0,0,0,0,nilE tI64,.pointer none⟩,hf1.blk hp0 (.inr (by simp)),⟨Grp.nil,Grp.nil,Grp.nil,Grp.nil,Grp.nil,Rw.nil,.inl ⟨rfl,rfl⟩,Own.nil,fun h=>by simp[nilE]at h,by show 0<_;omega⟩⟩,fun pre w2 h=>h.kx,fun pre w2 h=>h.buf,fun pre w2 w3 h hk hb=>?_,fun pre f w2 hp h ht=>?_,fun pre f w2 gf hp h hbf hw hgf=>?_⟩
  ·obtain ⟨v,h1,h2⟩:=h.st
   have kb:∀(T:Nat),T≠tBuf→∀b cs,Blk w2 b T cs→Blk w3 b T cs:=fun T hT b cs hq=>hk.blk hq (by simpa using h.buf.ne hq hT)
   exact ⟨h.kx.trans' (hk.mono (by simp)),hb,v,kb _ (by decide) _ _ h1,h2.keep hk.size fun T hT _=>kb T hT⟩
  ·obtain ⟨v,h1,h2⟩:=h.st
   have nz:∀j,tbPf j≠0→fkey f≠j:=fun j hj e=>hj (by rw[← e];exact ht)
   have e1:cnt 1 (pre++[f])=cnt 1 pre:=cnt_no (nz 1 (by decide))
   have e2:cnt 2 (pre++[f])=cnt 2 pre:=cnt_no (nz 2 (by decide))
   have e3:cnt 3 (pre++[f])=cnt 3 pre:=cnt_no (nz 3 (by decide))
   have e4:cnt 4 (pre++[f])=cnt 4 pre:=cnt_no (nz 4 (by decide))
   have e5:cnt 5 (pre++[f])=cnt 5 pre:=cnt_no (nz 5 (by decide))
   have e6:cnt 6 (pre++[f])=cnt 6 pre:=cnt_no (nz 6 (by decide))
   have e11:cnt 11 (pre++[f])=cnt 11 pre:=cnt_no (nz 11 (by decide))
   have e7:oneF 7 0 (pre++[f])=oneF 7 0 pre:=one_no (nz 7 (by decide))
   have e8:oneF 8 0 (pre++[f])=oneF 8 0 pre:=one_no (nz 8 (by decide))
   have e9:oneF 9 0 (pre++[f])=oneF 9 0 pre:=one_no (nz 9 (by decide))
   have e10:oneF 10 0 (pre++[f])=oneF 10 0 pre:=one_no (nz 10 (by decide))
   have e12:oneF 12 0 (pre++[f])=oneF 12 0 pre:=one_no (nz 12 (by decide))
   have e14:oneF 14 0 (pre++[f])=oneF 14 0 pre:=one_no (nz 14 (by decide))
   obtain ⟨a,eC,eC'⟩:=hC.step hp
   rw[if_neg (nz 13 (by decide))]at eC'
   subst eC'
   rw[List.append_nil]at eC
   refine ⟨h.kx,h.buf,v,?_,?_⟩
   ·simp only[pfCells,oneN,e1,e2,e3,e4,e5,e6,e11,e7,e8,e9,e10,e12,e14,eC];exact h1
   ·exact ⟨by rw[e1];exact h2.c1,by rw[e2];exact h2.c2,by rw[e3];exact h2.c3,by rw[e4];exact h2.c4,by rw[e5];exact h2.c5,by rw[e6];exact h2.c6,by rw[e11];exact h2.c11,by rw[eC];exact h2.c13,h2.c13y,h2.c13c⟩
  ·obtain ⟨v,h1,h2⟩:=h.st
   have hBs:w1.heap.size≤w2.heap.size:=h.kx.size
   obtain ⟨ac,eC,eC'⟩:=hC.step hp
   have hgC:=gv_len (nss:=nC) (pre:=pre++[f])
   have nz:∀j,fkey f≠j→True:=fun _ _=>trivial
   -- a number
   have sc:∀(j off:Nat) (gs:FuncId),fkey f=j→SetsN tProf ipf gs off vI→off<18→tbPf j=1→j≠13→(∀i∈[1,2,3,4,5,6,11],j≠i)→(∀n:Nat,f=.num j n→pfCells nC v (pre++[f])=setL (pfCells nC v pre) off [vI n])→
     Calls Tryz.prog gs #[ptr bb,.iface ipf (ptr pb)] w2 (Ret fun v w'=>v=.nilIface∧PfSt x T nC bb pb w1 (pre++[f]) w'):=fun j off gs hj hs ho htj h13 hi he=>by
    subst hj
    cases f with
    |bys k' D=>simp only at hw;rw[show tbPf k'=1 from htj]at hw;omega
    |num k' n=>
     obtain ⟨hn,tmp,hb⟩:=hbf
     rw[if_neg h13]at eC'
     subst eC'
     rw[List.append_nil]at eC
     refine Calls.mono (hs w2 bb pb 0 k' n _ tmp hn hb h1 (by simpa[pfCells]using ho)) (Ret.mono fun v' w3 hR=>?_)
     obtain ⟨rfl,h5,h6⟩:=hR
     have kb:∀(T:Nat),T≠tProf→∀b cs,Blk w2 b T cs→Blk w3 b T cs:=fun T hT b cs hq=>h6.blk hq (by simpa using hq.ne h1 hT)
     refine ⟨rfl,h.kx.trans' (h6.mono (by simp)),h.buf.keep (kb _ (by decide) _),v,?_,?_⟩
     ·rw[he n rfl];simpa using h5
     ·have h7:=h2.keep h6.size fun T _ hT=>kb T hT
      have q:∀i∈[1,2,3,4,5,6,11],cnt i (pre++[.num k' n])=cnt i pre:=fun i hm=>cnt_no (hi i hm)
      exact ⟨by rw[q 1 (by simp)];exact h7.c1,by rw[q 2 (by simp)];exact h7.c2,by rw[q 3 (by simp)];exact h7.c3,by rw[q 4 (by simp)];exact h7.c4,by rw[q 5 (by simp)];exact h7.c5,by rw[q 6 (by simp)];exact h7.c6,by rw[q 11 (by simp)];exact h7.c11,by rw[eC];exact h7.c13,h7.c13y,h7.c13c⟩
   rcases (by omega:fkey f=0∨fkey f=1∨fkey f=2∨fkey f=3∨fkey f=4∨fkey f=5∨fkey f=6∨fkey f=7∨fkey f=8∨fkey f=9∨fkey f=10∨fkey f=11∨fkey f=12∨fkey f=13∨fkey f=14∨15≤fkey f) with hk|hk|hk|hk|hk|hk|hk|hk|hk|hk|hk|hk|hk|hk|hk|hk
   ·rw[hk]at hgf;cases hgf
   ·rw[hk]at hgf;cases hgf
    have hx0:=hx
    obtain ⟨q,hq,hqn⟩:=s1.at_ hp hk
    have hlt:=cnt_lt hp hk
    rw[s1.cnt,l1]at hlt
    have hn0:x.types[cnt 1 pre]? =some x.types[cnt 1 pre]:=List.getElem?_eq_getElem hlt
    have hq1:=hqn _ hn0
    rw[if_neg (by rw[hk];decide)]at eC'
    subst eC'
    rw[List.append_nil]at eC
    cases f with
    |num k' n=>simp only[fkey]at hk;subst hk;simp only at hw;exact absurd hw (by decide)
    |bys k' D=>
     simp only[fkey,fbytes]at hk hq
     subst hk;subst hq
     have hG0:=h2.c1
     obtain ⟨y,hO,hy⟩:=hG0.row
     refine Calls.mono (ty_m w2 bb pb 1 _ v.ct (mB q) (pfCells nC v pre) y v.pt _ (fun w b=>rVT T w b x.types[cnt 1 pre]) (fun u1 u2 b hh hk=>hh.mono fun cs hq=>hk.blk hq (.inr (by simp))) hbf h1 rfl hO (fun ho=>(hy ho).1) (by omega) (fun w3 xb hx hb _=>dVT_c T hl w3 bb xb 1 q _ hq1 hx hb)) (Ret.mono fun v' w3 hR=>?_)
     obtain ⟨rfl,⟨xb,y',p',c',hO',hy',hr',hb',hxb,hφ'⟩,hkk,hbb⟩:=hR
     have kb:∀(T:Nat),T≠tBuf→T≠tProf→T≠pVT→∀b cs,Blk w2 b T cs→Blk w3 b T cs:=fun T hB hT hU b cs hq=>hkk.blk hq fun hm=>by
       rcases List.mem_append.1 hm with hm|hm
       ·simp only[List.mem_cons,List.mem_nil_iff,or_false]at hm
        rcases hm with hm|hm
        ·exact h.buf.ne hq hB hm
        ·exact hq.ne h1 hT hm
       ·exact rowL_nin (fun ho=>(hy ho).1) hq hU hm
     have e2:cnt 2 (pre++[.bys 1 (mB q)])=cnt 2 pre:=cnt_no (show (1:Nat)≠2 by decide)
     have e3:cnt 3 (pre++[.bys 1 (mB q)])=cnt 3 pre:=cnt_no (show (1:Nat)≠3 by decide)
     have e4:cnt 4 (pre++[.bys 1 (mB q)])=cnt 4 pre:=cnt_no (show (1:Nat)≠4 by decide)
     have e5:cnt 5 (pre++[.bys 1 (mB q)])=cnt 5 pre:=cnt_no (show (1:Nat)≠5 by decide)
     have e6:cnt 6 (pre++[.bys 1 (mB q)])=cnt 6 pre:=cnt_no (show (1:Nat)≠6 by decide)
     have e11:cnt 11 (pre++[.bys 1 (mB q)])=cnt 11 pre:=cnt_no (show (1:Nat)≠11 by decide)
     have e7:oneF 7 0 (pre++[.bys 1 (mB q)])=oneF 7 0 pre:=one_no (show (1:Nat)≠7 by decide)
     have e8:oneF 8 0 (pre++[.bys 1 (mB q)])=oneF 8 0 pre:=one_no (show (1:Nat)≠8 by decide)
     have e9:oneF 9 0 (pre++[.bys 1 (mB q)])=oneF 9 0 pre:=one_no (show (1:Nat)≠9 by decide)
     have e10:oneF 10 0 (pre++[.bys 1 (mB q)])=oneF 10 0 pre:=one_no (show (1:Nat)≠10 by decide)
     have e12:oneF 12 0 (pre++[.bys 1 (mB q)])=oneF 12 0 pre:=one_no (show (1:Nat)≠12 by decide)
     have e14:oneF 14 0 (pre++[.bys 1 (mB q)])=oneF 14 0 pre:=one_no (show (1:Nat)≠14 by decide)
     have eK:cnt 1 (pre++[.bys 1 (mB q)])=cnt 1 pre+1:=cnt_yes rfl
     refine ⟨rfl,h.kx.more hkk fun q hq=>?_,hbb,{ v with tys:=v.tys++[xb],pt:=p',ct:=c' },?_,?_⟩
     ·rcases List.mem_append.1 hq with hq|hq
      ·exact .inl hq
      ·exact .inr (rowL_ge hy q hq)
     ·simp only[pfCells,oneN,eC,eK,e2,e3,e4,e5,e6,e11,e7,e8,e9,e10,e12,e14];exact hb'
     ·exact { c1:=by rw[eK,take_succ_get hn0];exact hG0.push hBs hkk.size (fun b t hh=>hh.mono ((kb _ (by decide) (by decide) (by decide)) _)) hxb hφ'.lt hφ' hO' hy' hy hr',c2:=by rw[e2];exact h2.c2.keep hkk.size (kb _ (by decide) (by decide) (by decide)) (fun b t hh=>hh.mono ((kb _ (by decide) (by decide) (by decide)) _) (fun b cs hb hk=>⟨(kb _ (by decide) (by decide) (by decide)) _ _ hk,hb⟩) (fun b cs hb hk=>⟨(kb _ (by decide) (by decide) (by decide)) _ _ hk,hb⟩) (fun b cs hb hk=>⟨(kb _ (by decide) (by decide) (by decide)) _ _ hk,hb⟩)),c3:=by rw[e3];exact h2.c3.keep hkk.size (kb _ (by decide) (by decide) (by decide)) (fun b t hh=>hh.mono ((kb _ (by decide) (by decide) (by decide)) _)),c4:=by rw[e4];exact h2.c4.keep hkk.size (kb _ (by decide) (by decide) (by decide)) (fun b t hh=>hh.mono ((kb _ (by decide) (by decide) (by decide)) _) (fun b cs hb hk=>⟨(kb _ (by decide) (by decide) (by decide)) _ _ hk,hb⟩)),c5:=by rw[e5];exact h2.c5.keep hkk.size (kb _ (by decide) (by decide) (by decide)) (fun b t hh=>hh.mono ((kb _ (by decide) (by decide) (by decide)) _)),c6:=by rw[e6];exact h2.c6.keep (kb _ (by decide) (by decide) (by decide)),c11:=by rw[e11];exact h2.c11.imp id fun ⟨b,h0,h1,h2,h3,h4⟩=>⟨b,h0,h1,h2.mono (kb _ (by decide) (by decide) (by decide) _),h3,fun hm=>by rcases List.mem_append.1 hm with hm|hm;exact h4 hm;simp at hm;have:=h2.lt;omega⟩,c13:=by rw[eC];exact h2.c13,c13y:=fun ho=>⟨kb _ (by decide) (by decide) (by decide) _ _ (h2.c13y ho).1,(h2.c13y ho).2⟩,c13c:=h2.c13c }
   ·rw[hk]at hgf;cases hgf
    have hx0:=hx
    obtain ⟨q,hq,hqn⟩:=s2.at_ hp hk
    have hlt:=cnt_lt hp hk
    rw[s2.cnt,l2]at hlt
    have hn0:x.samples[cnt 2 pre]? =some x.samples[cnt 2 pre]:=List.getElem?_eq_getElem hlt
    have hq1:=hqn _ hn0
    rw[if_neg (by rw[hk];decide)]at eC'
    subst eC'
    rw[List.append_nil]at eC
    cases f with
    |num k' n=>simp only[fkey]at hk;subst hk;simp only at hw;exact absurd hw (by decide)
    |bys k' D=>
     simp only[fkey,fbytes]at hk hq
     subst hk;subst hq
     have hG0:=h2.c2
     obtain ⟨y,hO,hy⟩:=hG0.row
     refine Calls.mono (sa_m w2 bb pb 2 _ v.cs (mB q) (pfCells nC v pre) y v.ps _ (fun w b=>rSm x T (fun b=>w2.heap.size≤b) w b x.samples[cnt 2 pre]) (fun u1 u2 b hh hk=>hh.mono (fun cs hq=>hk.blk hq (.inr (by simp))) (fun b cs hb hq=>⟨hk.blk hq (.inr (by simp)),hb⟩) (fun b cs hb hq=>⟨hk.blk hq (.inr (by simp)),hb⟩) (fun b cs hb hq=>⟨hk.blk hq (.inr (by simp)),hb⟩)) hbf h1 rfl hO (fun ho=>(hy ho).1) (by omega) (fun w3 xb hx hb hge=>Calls.mono (dSm_c x T hl w3 bb xb 2 q _ hq1 (by have:=(hx0.samples _ (List.mem_of_getElem? hn0)).2.2.1;omega) (by have:=(hx0.samples _ (List.mem_of_getElem? hn0)).1;omega) hx hb) (Ret.mono fun v w' hR=>⟨hR.1,hR.2.1.mono (fun _ h=>h) (fun b cs hb hk=>⟨hk,by have:=hx.lt;show w2.heap.size≤b;omega⟩) (fun b cs hb hk=>⟨hk,by have:=hx.lt;show w2.heap.size≤b;omega⟩) (fun b cs hb hk=>⟨hk,by have:=hx.lt;show w2.heap.size≤b;omega⟩),hR.2.2⟩))) (Ret.mono fun v' w3 hR=>?_)
     obtain ⟨rfl,⟨xb,y',p',c',hO',hy',hr',hb',hxb,hφ'⟩,hkk,hbb⟩:=hR
     have kb:∀(T:Nat),T≠tBuf→T≠tProf→T≠pSam→∀b cs,Blk w2 b T cs→Blk w3 b T cs:=fun T hB hT hU b cs hq=>hkk.blk hq fun hm=>by
       rcases List.mem_append.1 hm with hm|hm
       ·simp only[List.mem_cons,List.mem_nil_iff,or_false]at hm
        rcases hm with hm|hm
        ·exact h.buf.ne hq hB hm
        ·exact hq.ne h1 hT hm
       ·exact rowL_nin (fun ho=>(hy ho).1) hq hU hm
     have e1:cnt 1 (pre++[.bys 2 (mB q)])=cnt 1 pre:=cnt_no (show (2:Nat)≠1 by decide)
     have e3:cnt 3 (pre++[.bys 2 (mB q)])=cnt 3 pre:=cnt_no (show (2:Nat)≠3 by decide)
     have e4:cnt 4 (pre++[.bys 2 (mB q)])=cnt 4 pre:=cnt_no (show (2:Nat)≠4 by decide)
     have e5:cnt 5 (pre++[.bys 2 (mB q)])=cnt 5 pre:=cnt_no (show (2:Nat)≠5 by decide)
     have e6:cnt 6 (pre++[.bys 2 (mB q)])=cnt 6 pre:=cnt_no (show (2:Nat)≠6 by decide)
     have e11:cnt 11 (pre++[.bys 2 (mB q)])=cnt 11 pre:=cnt_no (show (2:Nat)≠11 by decide)
     have e7:oneF 7 0 (pre++[.bys 2 (mB q)])=oneF 7 0 pre:=one_no (show (2:Nat)≠7 by decide)
     have e8:oneF 8 0 (pre++[.bys 2 (mB q)])=oneF 8 0 pre:=one_no (show (2:Nat)≠8 by decide)
     have e9:oneF 9 0 (pre++[.bys 2 (mB q)])=oneF 9 0 pre:=one_no (show (2:Nat)≠9 by decide)
     have e10:oneF 10 0 (pre++[.bys 2 (mB q)])=oneF 10 0 pre:=one_no (show (2:Nat)≠10 by decide)
     have e12:oneF 12 0 (pre++[.bys 2 (mB q)])=oneF 12 0 pre:=one_no (show (2:Nat)≠12 by decide)
     have e14:oneF 14 0 (pre++[.bys 2 (mB q)])=oneF 14 0 pre:=one_no (show (2:Nat)≠14 by decide)
     have eK:cnt 2 (pre++[.bys 2 (mB q)])=cnt 2 pre+1:=cnt_yes rfl
     have yfar:∀b,w2.heap.size≤b→b∉rowL v.yc:=fun b hb hm=>by
       unfold rowL at hm
       split at hm
       ·next ho=>simp at hm;have:=(h2.c13y ho).1.lt;omega
       ·cases hm
     refine ⟨rfl,h.kx.more hkk fun q hq=>?_,hbb,{ v with sas:=v.sas++[xb],ps:=p',cs:=c' },?_,?_⟩
     ·rcases List.mem_append.1 hq with hq|hq
      ·exact .inl hq
      ·exact .inr (rowL_ge hy q hq)
     ·simp only[pfCells,oneN,eC,eK,e1,e3,e4,e5,e6,e11,e7,e8,e9,e10,e12,e14];exact hb'
     ·exact { c1:=by rw[e1];exact h2.c1.keep hkk.size (kb _ (by decide) (by decide) (by decide)) (fun b t hh=>hh.mono ((kb _ (by decide) (by decide) (by decide)) _)),c2:=by rw[eK,take_succ_get hn0];exact hG0.push hBs hkk.size (fun b t hh=>hh.mono ((kb _ (by decide) (by decide) (by decide)) _) (fun b cs hb hk=>⟨(kb _ (by decide) (by decide) (by decide)) _ _ hk,hb⟩) (fun b cs hb hk=>⟨(kb _ (by decide) (by decide) (by decide)) _ _ hk,hb⟩) (fun b cs hb hk=>⟨(kb _ (by decide) (by decide) (by decide)) _ _ hk,hb⟩)) hxb hφ'.lt (hφ'.mono (fun _ h=>h) (fun b cs hb hk=>⟨hk,Nat.le_trans hBs hb,yfar b hb⟩) (fun b cs hb hk=>⟨hk,Nat.le_trans hBs hb,yfar b hb⟩) (fun b cs hb hk=>⟨hk,Nat.le_trans hBs hb,yfar b hb⟩)) hO' hy' hy hr',c3:=by rw[e3];exact h2.c3.keep hkk.size (kb _ (by decide) (by decide) (by decide)) (fun b t hh=>hh.mono ((kb _ (by decide) (by decide) (by decide)) _)),c4:=by rw[e4];exact h2.c4.keep hkk.size (kb _ (by decide) (by decide) (by decide)) (fun b t hh=>hh.mono ((kb _ (by decide) (by decide) (by decide)) _) (fun b cs hb hk=>⟨(kb _ (by decide) (by decide) (by decide)) _ _ hk,hb⟩)),c5:=by rw[e5];exact h2.c5.keep hkk.size (kb _ (by decide) (by decide) (by decide)) (fun b t hh=>hh.mono ((kb _ (by decide) (by decide) (by decide)) _)),c6:=by rw[e6];exact h2.c6.keep (kb _ (by decide) (by decide) (by decide)),c11:=by rw[e11];exact h2.c11.imp id fun ⟨b,h0,h1,h2,h3,h4⟩=>⟨b,h0,h1,h2.mono (kb _ (by decide) (by decide) (by decide) _),h3,h4⟩,c13:=by rw[eC];exact h2.c13,c13y:=fun ho=>⟨kb _ (by decide) (by decide) (by decide) _ _ (h2.c13y ho).1,(h2.c13y ho).2⟩,c13c:=h2.c13c }
   ·rw[hk]at hgf;cases hgf
    have hx0:=hx
    obtain ⟨q,hq,hqn⟩:=s3.at_ hp hk
    have hlt:=cnt_lt hp hk
    rw[s3.cnt,l3]at hlt
    have hn0:x.mappings[cnt 3 pre]? =some x.mappings[cnt 3 pre]:=List.getElem?_eq_getElem hlt
    have hq1:=hqn _ hn0
    rw[if_neg (by rw[hk];decide)]at eC'
    subst eC'
    rw[List.append_nil]at eC
    cases f with
    |num k' n=>simp only[fkey]at hk;subst hk;simp only at hw;exact absurd hw (by decide)
    |bys k' D=>
     simp only[fkey,fbytes]at hk hq
     subst hk;subst hq
     have hG0:=h2.c3
     obtain ⟨y,hO,hy⟩:=hG0.row
     refine Calls.mono (ma_m w2 bb pb 3 _ v.cm (mB q) (pfCells nC v pre) y v.pm _ (fun w b=>rMp T w b x.mappings[cnt 3 pre]) (fun u1 u2 b hh hk=>hh.mono fun cs hq=>hk.blk hq (.inr (by simp))) hbf h1 rfl hO (fun ho=>(hy ho).1) (by omega) (fun w3 xb hx hb _=>dMp_c T hl w3 bb xb 3 q _ hq1 hx hb)) (Ret.mono fun v' w3 hR=>?_)
     obtain ⟨rfl,⟨xb,y',p',c',hO',hy',hr',hb',hxb,hφ'⟩,hkk,hbb⟩:=hR
     have kb:∀(T:Nat),T≠tBuf→T≠tProf→T≠pMap→∀b cs,Blk w2 b T cs→Blk w3 b T cs:=fun T hB hT hU b cs hq=>hkk.blk hq fun hm=>by
       rcases List.mem_append.1 hm with hm|hm
       ·simp only[List.mem_cons,List.mem_nil_iff,or_false]at hm
        rcases hm with hm|hm
        ·exact h.buf.ne hq hB hm
        ·exact hq.ne h1 hT hm
       ·exact rowL_nin (fun ho=>(hy ho).1) hq hU hm
     have e1:cnt 1 (pre++[.bys 3 (mB q)])=cnt 1 pre:=cnt_no (show (3:Nat)≠1 by decide)
     have e2:cnt 2 (pre++[.bys 3 (mB q)])=cnt 2 pre:=cnt_no (show (3:Nat)≠2 by decide)
     have e4:cnt 4 (pre++[.bys 3 (mB q)])=cnt 4 pre:=cnt_no (show (3:Nat)≠4 by decide)
     have e5:cnt 5 (pre++[.bys 3 (mB q)])=cnt 5 pre:=cnt_no (show (3:Nat)≠5 by decide)
     have e6:cnt 6 (pre++[.bys 3 (mB q)])=cnt 6 pre:=cnt_no (show (3:Nat)≠6 by decide)
     have e11:cnt 11 (pre++[.bys 3 (mB q)])=cnt 11 pre:=cnt_no (show (3:Nat)≠11 by decide)
     have e7:oneF 7 0 (pre++[.bys 3 (mB q)])=oneF 7 0 pre:=one_no (show (3:Nat)≠7 by decide)
     have e8:oneF 8 0 (pre++[.bys 3 (mB q)])=oneF 8 0 pre:=one_no (show (3:Nat)≠8 by decide)
     have e9:oneF 9 0 (pre++[.bys 3 (mB q)])=oneF 9 0 pre:=one_no (show (3:Nat)≠9 by decide)
     have e10:oneF 10 0 (pre++[.bys 3 (mB q)])=oneF 10 0 pre:=one_no (show (3:Nat)≠10 by decide)
     have e12:oneF 12 0 (pre++[.bys 3 (mB q)])=oneF 12 0 pre:=one_no (show (3:Nat)≠12 by decide)
     have e14:oneF 14 0 (pre++[.bys 3 (mB q)])=oneF 14 0 pre:=one_no (show (3:Nat)≠14 by decide)
     have eK:cnt 3 (pre++[.bys 3 (mB q)])=cnt 3 pre+1:=cnt_yes rfl
     refine ⟨rfl,h.kx.more hkk fun q hq=>?_,hbb,{ v with mas:=v.mas++[xb],pm:=p',cm:=c' },?_,?_⟩
     ·rcases List.mem_append.1 hq with hq|hq
      ·exact .inl hq
      ·exact .inr (rowL_ge hy q hq)
     ·simp only[pfCells,oneN,eC,eK,e1,e2,e4,e5,e6,e11,e7,e8,e9,e10,e12,e14];exact hb'
     ·exact { c1:=by rw[e1];exact h2.c1.keep hkk.size (kb _ (by decide) (by decide) (by decide)) (fun b t hh=>hh.mono ((kb _ (by decide) (by decide) (by decide)) _)),c2:=by rw[e2];exact h2.c2.keep hkk.size (kb _ (by decide) (by decide) (by decide)) (fun b t hh=>hh.mono ((kb _ (by decide) (by decide) (by decide)) _) (fun b cs hb hk=>⟨(kb _ (by decide) (by decide) (by decide)) _ _ hk,hb⟩) (fun b cs hb hk=>⟨(kb _ (by decide) (by decide) (by decide)) _ _ hk,hb⟩) (fun b cs hb hk=>⟨(kb _ (by decide) (by decide) (by decide)) _ _ hk,hb⟩)),c3:=by rw[eK,take_succ_get hn0];exact hG0.push hBs hkk.size (fun b t hh=>hh.mono ((kb _ (by decide) (by decide) (by decide)) _)) hxb hφ'.lt hφ' hO' hy' hy hr',c4:=by rw[e4];exact h2.c4.keep hkk.size (kb _ (by decide) (by decide) (by decide)) (fun b t hh=>hh.mono ((kb _ (by decide) (by decide) (by decide)) _) (fun b cs hb hk=>⟨(kb _ (by decide) (by decide) (by decide)) _ _ hk,hb⟩)),c5:=by rw[e5];exact h2.c5.keep hkk.size (kb _ (by decide) (by decide) (by decide)) (fun b t hh=>hh.mono ((kb _ (by decide) (by decide) (by decide)) _)),c6:=by rw[e6];exact h2.c6.keep (kb _ (by decide) (by decide) (by decide)),c11:=by rw[e11];exact h2.c11.imp id fun ⟨b,h0,h1,h2,h3,h4⟩=>⟨b,h0,h1,h2.mono (kb _ (by decide) (by decide) (by decide) _),h3,h4⟩,c13:=by rw[eC];exact h2.c13,c13y:=fun ho=>⟨kb _ (by decide) (by decide) (by decide) _ _ (h2.c13y ho).1,(h2.c13y ho).2⟩,c13c:=h2.c13c }
   ·rw[hk]at hgf;cases hgf
    have hx0:=hx
    obtain ⟨q,hq,hqn⟩:=s4.at_ hp hk
    have hlt:=cnt_lt hp hk
    rw[s4.cnt,l4]at hlt
    have hn0:x.locs[cnt 4 pre]? =some x.locs[cnt 4 pre]:=List.getElem?_eq_getElem hlt
    have hq1:=hqn _ hn0
    rw[if_neg (by rw[hk];decide)]at eC'
    subst eC'
    rw[List.append_nil]at eC
    cases f with
    |num k' n=>simp only[fkey]at hk;subst hk;simp only at hw;exact absurd hw (by decide)
    |bys k' D=>
     simp only[fkey,fbytes]at hk hq
     subst hk;subst hq
     have hG0:=h2.c4
     obtain ⟨y,hO,hy⟩:=hG0.row
     refine Calls.mono (lo_m w2 bb pb 4 _ v.cl (mB q) (pfCells nC v pre) y v.pl _ (fun w b=>rLc x (fun rb=>w2.heap.size≤rb∧b≤rb) w b x.locs[cnt 4 pre]) (fun u1 u2 b hh hk=>hh.mono (fun cs hq=>hk.blk hq (.inr (by simp))) (fun b cs hb hq=>⟨hk.blk hq (.inr (by simp)),hb⟩)) hbf h1 rfl hO (fun ho=>(hy ho).1) (by omega) (fun w3 xb hx hb hge=>Calls.mono (dLc_c x w3 bb xb 4 q _ hq1 (by have:=(hx0.tab.locs _ (List.mem_of_getElem? hn0)).2.1;omega) hx hb) (Ret.mono fun v w' hR=>⟨hR.1,hR.2.1.mono (fun _ h=>h) fun b cs hb hk=>⟨hk,by have:=hx.lt;show w2.heap.size≤b∧xb≤b;omega⟩,hR.2.2⟩))) (Ret.mono fun v' w3 hR=>?_)
     obtain ⟨rfl,⟨xb,y',p',c',hO',hy',hr',hb',hxb,hφ'⟩,hkk,hbb⟩:=hR
     have kb:∀(T:Nat),T≠tBuf→T≠tProf→T≠pLoc→∀b cs,Blk w2 b T cs→Blk w3 b T cs:=fun T hB hT hU b cs hq=>hkk.blk hq fun hm=>by
       rcases List.mem_append.1 hm with hm|hm
       ·simp only[List.mem_cons,List.mem_nil_iff,or_false]at hm
        rcases hm with hm|hm
        ·exact h.buf.ne hq hB hm
        ·exact hq.ne h1 hT hm
       ·exact rowL_nin (fun ho=>(hy ho).1) hq hU hm
     have e1:cnt 1 (pre++[.bys 4 (mB q)])=cnt 1 pre:=cnt_no (show (4:Nat)≠1 by decide)
     have e2:cnt 2 (pre++[.bys 4 (mB q)])=cnt 2 pre:=cnt_no (show (4:Nat)≠2 by decide)
     have e3:cnt 3 (pre++[.bys 4 (mB q)])=cnt 3 pre:=cnt_no (show (4:Nat)≠3 by decide)
     have e5:cnt 5 (pre++[.bys 4 (mB q)])=cnt 5 pre:=cnt_no (show (4:Nat)≠5 by decide)
     have e6:cnt 6 (pre++[.bys 4 (mB q)])=cnt 6 pre:=cnt_no (show (4:Nat)≠6 by decide)
     have e11:cnt 11 (pre++[.bys 4 (mB q)])=cnt 11 pre:=cnt_no (show (4:Nat)≠11 by decide)
     have e7:oneF 7 0 (pre++[.bys 4 (mB q)])=oneF 7 0 pre:=one_no (show (4:Nat)≠7 by decide)
     have e8:oneF 8 0 (pre++[.bys 4 (mB q)])=oneF 8 0 pre:=one_no (show (4:Nat)≠8 by decide)
     have e9:oneF 9 0 (pre++[.bys 4 (mB q)])=oneF 9 0 pre:=one_no (show (4:Nat)≠9 by decide)
     have e10:oneF 10 0 (pre++[.bys 4 (mB q)])=oneF 10 0 pre:=one_no (show (4:Nat)≠10 by decide)
     have e12:oneF 12 0 (pre++[.bys 4 (mB q)])=oneF 12 0 pre:=one_no (show (4:Nat)≠12 by decide)
     have e14:oneF 14 0 (pre++[.bys 4 (mB q)])=oneF 14 0 pre:=one_no (show (4:Nat)≠14 by decide)
     have eK:cnt 4 (pre++[.bys 4 (mB q)])=cnt 4 pre+1:=cnt_yes rfl
     refine ⟨rfl,h.kx.more hkk fun q hq=>?_,hbb,{ v with los:=v.los++[xb],pl:=p',cl:=c' },?_,?_⟩
     ·rcases List.mem_append.1 hq with hq|hq
      ·exact .inl hq
      ·exact .inr (rowL_ge hy q hq)
     ·simp only[pfCells,oneN,eC,eK,e1,e2,e3,e5,e6,e11,e7,e8,e9,e10,e12,e14];exact hb'
     ·exact { c1:=by rw[e1];exact h2.c1.keep hkk.size (kb _ (by decide) (by decide) (by decide)) (fun b t hh=>hh.mono ((kb _ (by decide) (by decide) (by decide)) _)),c2:=by rw[e2];exact h2.c2.keep hkk.size (kb _ (by decide) (by decide) (by decide)) (fun b t hh=>hh.mono ((kb _ (by decide) (by decide) (by decide)) _) (fun b cs hb hk=>⟨(kb _ (by decide) (by decide) (by decide)) _ _ hk,hb⟩) (fun b cs hb hk=>⟨(kb _ (by decide) (by decide) (by decide)) _ _ hk,hb⟩) (fun b cs hb hk=>⟨(kb _ (by decide) (by decide) (by decide)) _ _ hk,hb⟩)),c3:=by rw[e3];exact h2.c3.keep hkk.size (kb _ (by decide) (by decide) (by decide)) (fun b t hh=>hh.mono ((kb _ (by decide) (by decide) (by decide)) _)),c4:=by rw[eK,take_succ_get hn0];exact hG0.push hBs hkk.size (fun b t hh=>hh.mono ((kb _ (by decide) (by decide) (by decide)) _) (fun b cs hb hk=>⟨(kb _ (by decide) (by decide) (by decide)) _ _ hk,hb.1,hb.2.1,fun b2 hm hlt=>by rcases List.mem_append.1 hm with hm|hm;exact hb.2.2 b2 hm hlt;simp at hm;have:=hk.lt;omega⟩)) hxb hφ'.lt (hφ'.mono (fun _ h=>h) (fun b cs hb hk=>⟨hk,Nat.le_trans hBs hb.1,hb.2,fun b2 hm hlt=>by rcases List.mem_append.1 hm with hm|hm;have:=(hG0.fresh b2 hm).2;omega;simp at hm;omega⟩)) hO' hy' hy hr',c5:=by rw[e5];exact h2.c5.keep hkk.size (kb _ (by decide) (by decide) (by decide)) (fun b t hh=>hh.mono ((kb _ (by decide) (by decide) (by decide)) _)),c6:=by rw[e6];exact h2.c6.keep (kb _ (by decide) (by decide) (by decide)),c11:=by rw[e11];exact h2.c11.imp id fun ⟨b,h0,h1,h2,h3,h4⟩=>⟨b,h0,h1,h2.mono (kb _ (by decide) (by decide) (by decide) _),h3,h4⟩,c13:=by rw[eC];exact h2.c13,c13y:=fun ho=>⟨kb _ (by decide) (by decide) (by decide) _ _ (h2.c13y ho).1,(h2.c13y ho).2⟩,c13c:=h2.c13c }
   ·rw[hk]at hgf;cases hgf
    have hx0:=hx
    obtain ⟨q,hq,hqn⟩:=s5.at_ hp hk
    have hlt:=cnt_lt hp hk
    rw[s5.cnt,l5]at hlt
    have hn0:x.funcs[cnt 5 pre]? =some x.funcs[cnt 5 pre]:=List.getElem?_eq_getElem hlt
    have hq1:=hqn _ hn0
    rw[if_neg (by rw[hk];decide)]at eC'
    subst eC'
    rw[List.append_nil]at eC
    cases f with
    |num k' n=>simp only[fkey]at hk;subst hk;simp only at hw;exact absurd hw (by decide)
    |bys k' D=>
     simp only[fkey,fbytes]at hk hq
     subst hk;subst hq
     have hG0:=h2.c5
     obtain ⟨y,hO,hy⟩:=hG0.row
     refine Calls.mono (fu_m w2 bb pb 5 _ v.cf (mB q) (pfCells nC v pre) y v.pf _ (fun w b=>rFn T w b x.funcs[cnt 5 pre]) (fun u1 u2 b hh hk=>hh.mono fun cs hq=>hk.blk hq (.inr (by simp))) hbf h1 rfl hO (fun ho=>(hy ho).1) (by omega) (fun w3 xb hx hb _=>dFn_c T hl w3 bb xb 5 q _ hq1 hx hb)) (Ret.mono fun v' w3 hR=>?_)
     obtain ⟨rfl,⟨xb,y',p',c',hO',hy',hr',hb',hxb,hφ'⟩,hkk,hbb⟩:=hR
     have kb:∀(T:Nat),T≠tBuf→T≠tProf→T≠pFun→∀b cs,Blk w2 b T cs→Blk w3 b T cs:=fun T hB hT hU b cs hq=>hkk.blk hq fun hm=>by
       rcases List.mem_append.1 hm with hm|hm
       ·simp only[List.mem_cons,List.mem_nil_iff,or_false]at hm
        rcases hm with hm|hm
        ·exact h.buf.ne hq hB hm
        ·exact hq.ne h1 hT hm
       ·exact rowL_nin (fun ho=>(hy ho).1) hq hU hm
     have e1:cnt 1 (pre++[.bys 5 (mB q)])=cnt 1 pre:=cnt_no (show (5:Nat)≠1 by decide)
     have e2:cnt 2 (pre++[.bys 5 (mB q)])=cnt 2 pre:=cnt_no (show (5:Nat)≠2 by decide)
     have e3:cnt 3 (pre++[.bys 5 (mB q)])=cnt 3 pre:=cnt_no (show (5:Nat)≠3 by decide)
     have e4:cnt 4 (pre++[.bys 5 (mB q)])=cnt 4 pre:=cnt_no (show (5:Nat)≠4 by decide)
     have e6:cnt 6 (pre++[.bys 5 (mB q)])=cnt 6 pre:=cnt_no (show (5:Nat)≠6 by decide)
     have e11:cnt 11 (pre++[.bys 5 (mB q)])=cnt 11 pre:=cnt_no (show (5:Nat)≠11 by decide)
     have e7:oneF 7 0 (pre++[.bys 5 (mB q)])=oneF 7 0 pre:=one_no (show (5:Nat)≠7 by decide)
     have e8:oneF 8 0 (pre++[.bys 5 (mB q)])=oneF 8 0 pre:=one_no (show (5:Nat)≠8 by decide)
     have e9:oneF 9 0 (pre++[.bys 5 (mB q)])=oneF 9 0 pre:=one_no (show (5:Nat)≠9 by decide)
     have e10:oneF 10 0 (pre++[.bys 5 (mB q)])=oneF 10 0 pre:=one_no (show (5:Nat)≠10 by decide)
     have e12:oneF 12 0 (pre++[.bys 5 (mB q)])=oneF 12 0 pre:=one_no (show (5:Nat)≠12 by decide)
     have e14:oneF 14 0 (pre++[.bys 5 (mB q)])=oneF 14 0 pre:=one_no (show (5:Nat)≠14 by decide)
     have eK:cnt 5 (pre++[.bys 5 (mB q)])=cnt 5 pre+1:=cnt_yes rfl
     refine ⟨rfl,h.kx.more hkk fun q hq=>?_,hbb,{ v with fus:=v.fus++[xb],pf:=p',cf:=c' },?_,?_⟩
     ·rcases List.mem_append.1 hq with hq|hq
      ·exact .inl hq
      ·exact .inr (rowL_ge hy q hq)
     ·simp only[pfCells,oneN,eC,eK,e1,e2,e3,e4,e6,e11,e7,e8,e9,e10,e12,e14];exact hb'
     ·exact { c1:=by rw[e1];exact h2.c1.keep hkk.size (kb _ (by decide) (by decide) (by decide)) (fun b t hh=>hh.mono ((kb _ (by decide) (by decide) (by decide)) _)),c2:=by rw[e2];exact h2.c2.keep hkk.size (kb _ (by decide) (by decide) (by decide)) (fun b t hh=>hh.mono ((kb _ (by decide) (by decide) (by decide)) _) (fun b cs hb hk=>⟨(kb _ (by decide) (by decide) (by decide)) _ _ hk,hb⟩) (fun b cs hb hk=>⟨(kb _ (by decide) (by decide) (by decide)) _ _ hk,hb⟩) (fun b cs hb hk=>⟨(kb _ (by decide) (by decide) (by decide)) _ _ hk,hb⟩)),c3:=by rw[e3];exact h2.c3.keep hkk.size (kb _ (by decide) (by decide) (by decide)) (fun b t hh=>hh.mono ((kb _ (by decide) (by decide) (by decide)) _)),c4:=by rw[e4];exact h2.c4.keep hkk.size (kb _ (by decide) (by decide) (by decide)) (fun b t hh=>hh.mono ((kb _ (by decide) (by decide) (by decide)) _) (fun b cs hb hk=>⟨(kb _ (by decide) (by decide) (by decide)) _ _ hk,hb⟩)),c5:=by rw[eK,take_succ_get hn0];exact hG0.push hBs hkk.size (fun b t hh=>hh.mono ((kb _ (by decide) (by decide) (by decide)) _)) hxb hφ'.lt hφ' hO' hy' hy hr',c6:=by rw[e6];exact h2.c6.keep (kb _ (by decide) (by decide) (by decide)),c11:=by rw[e11];exact h2.c11.imp id fun ⟨b,h0,h1,h2,h3,h4⟩=>⟨b,h0,h1,h2.mono (kb _ (by decide) (by decide) (by decide) _),h3,h4⟩,c13:=by rw[eC];exact h2.c13,c13y:=fun ho=>⟨kb _ (by decide) (by decide) (by decide) _ _ (h2.c13y ho).1,(h2.c13y ho).2⟩,c13c:=h2.c13c }
   ·rw[hk]at hgf;cases hgf
    obtain ⟨s,hs0,hq⟩:=tab_at hI.tab hp hk
    rw[if_neg (by rw[hk];decide)]at eC'
    subst eC'
    rw[List.append_nil]at eC
    cases f with
    |num k' n=>simp only[fkey]at hk;subst hk;simp only at hw;exact absurd hw (by decide)
    |bys k' D=>
     simp only[fkey,fbytes]at hk hq
     subst hk;subst hq
     obtain ⟨y,hO,hy⟩:=h2.c6
     have hlt:=(List.getElem?_eq_some_iff.1 hs0).1
     refine Calls.mono (st_m w2 bb pb 6 _ v.cst s (pfCells nC v pre) y v.pst _ hbf h1 rfl hO (fun ho=>(hy ho).1) (by omega) ?_) (Ret.mono fun v' w3 hR=>?_)
     ·have hz:=hI.z0
      rcases Nat.eq_zero_or_pos (cnt 6 pre) with e|e
      ·rw[e]at hs0⊢
       rw[hs0]at hz
       simp[Option.some.inj hz]
      ·rw[List.getElem?_append_left (by simp;omega),List.getElem?_map,List.getElem?_take,if_pos e,hz];rfl
     obtain ⟨rfl,⟨y',p',c',hO',hy',hr',hb'⟩,hkk⟩:=hR
     have kb:∀(T:Nat),T≠tBuf→T≠tProf→T≠tStr→∀b cs,Blk w2 b T cs→Blk w3 b T cs:=fun T hB hT hU b cs hq=>hkk.blk hq fun hm=>by
       rcases List.mem_append.1 hm with hm|hm
       ·simp at hm;exact hq.ne h1 hT hm
       ·exact rowL_nin (fun ho=>(hy ho).1) hq hU hm
     have e1:cnt 1 (pre++[.bys 6 (sB s)])=cnt 1 pre:=cnt_no (show (6:Nat)≠1 by decide)
     have e2:cnt 2 (pre++[.bys 6 (sB s)])=cnt 2 pre:=cnt_no (show (6:Nat)≠2 by decide)
     have e3:cnt 3 (pre++[.bys 6 (sB s)])=cnt 3 pre:=cnt_no (show (6:Nat)≠3 by decide)
     have e4:cnt 4 (pre++[.bys 6 (sB s)])=cnt 4 pre:=cnt_no (show (6:Nat)≠4 by decide)
     have e5:cnt 5 (pre++[.bys 6 (sB s)])=cnt 5 pre:=cnt_no (show (6:Nat)≠5 by decide)
     have e11:cnt 11 (pre++[.bys 6 (sB s)])=cnt 11 pre:=cnt_no (show (6:Nat)≠11 by decide)
     have e7:oneF 7 0 (pre++[.bys 6 (sB s)])=oneF 7 0 pre:=one_no (show (6:Nat)≠7 by decide)
     have e8:oneF 8 0 (pre++[.bys 6 (sB s)])=oneF 8 0 pre:=one_no (show (6:Nat)≠8 by decide)
     have e9:oneF 9 0 (pre++[.bys 6 (sB s)])=oneF 9 0 pre:=one_no (show (6:Nat)≠9 by decide)
     have e10:oneF 10 0 (pre++[.bys 6 (sB s)])=oneF 10 0 pre:=one_no (show (6:Nat)≠10 by decide)
     have e12:oneF 12 0 (pre++[.bys 6 (sB s)])=oneF 12 0 pre:=one_no (show (6:Nat)≠12 by decide)
     have e14:oneF 14 0 (pre++[.bys 6 (sB s)])=oneF 14 0 pre:=one_no (show (6:Nat)≠14 by decide)
     have eK:cnt 6 (pre++[.bys 6 (sB s)])=cnt 6 pre+1:=cnt_yes rfl
     refine ⟨rfl,h.kx.more hkk fun q hq=>?_,h.buf.keep fun cs hq=>hkk.blk hq fun hm=>?_,{ v with pst:=p',cst:=c' },?_,?_⟩
     ·rcases List.mem_append.1 hq with hq|hq
      ·simp at hq;subst hq;simp
      ·exact .inr (rowL_ge hy q hq)
     ·rcases List.mem_append.1 hm with hm|hm
      ·simp at hm;exact hq.ne h1 (by decide) hm
      ·exact rowL_nin (fun ho=>(hy ho).1) hq (by decide) hm
     ·simp only[pfCells,oneN,eC,eK,e1,e2,e3,e4,e5,e11,e7,e8,e9,e10,e12,e14];exact hb'
     ·exact { c1:=by rw[e1];exact h2.c1.keep hkk.size (kb _ (by decide) (by decide) (by decide)) (fun b t hh=>hh.mono ((kb _ (by decide) (by decide) (by decide)) _)),c2:=by rw[e2];exact h2.c2.keep hkk.size (kb _ (by decide) (by decide) (by decide)) (fun b t hh=>hh.mono ((kb _ (by decide) (by decide) (by decide)) _) (fun b cs hb hk=>⟨(kb _ (by decide) (by decide) (by decide)) _ _ hk,hb⟩) (fun b cs hb hk=>⟨(kb _ (by decide) (by decide) (by decide)) _ _ hk,hb⟩) (fun b cs hb hk=>⟨(kb _ (by decide) (by decide) (by decide)) _ _ hk,hb⟩)),c3:=by rw[e3];exact h2.c3.keep hkk.size (kb _ (by decide) (by decide) (by decide)) (fun b t hh=>hh.mono ((kb _ (by decide) (by decide) (by decide)) _)),c4:=by rw[e4];exact h2.c4.keep hkk.size (kb _ (by decide) (by decide) (by decide)) (fun b t hh=>hh.mono ((kb _ (by decide) (by decide) (by decide)) _) (fun b cs hb hk=>⟨(kb _ (by decide) (by decide) (by decide)) _ _ hk,hb⟩)),c5:=by rw[e5];exact h2.c5.keep hkk.size (kb _ (by decide) (by decide) (by decide)) (fun b t hh=>hh.mono ((kb _ (by decide) (by decide) (by decide)) _)),c6:=by
                rw[eK,take_succ_get hs0,List.map_append]
                exact ⟨y',hO',fun ho=>⟨hy' ho,by
                 rcases hr' ho with ⟨e1,e2⟩|e
                 ·rw[e2];exact (hy e1).2
                 ·exact Nat.le_trans hBs e⟩⟩
              c11:=by rw[e11];exact h2.c11.imp id fun ⟨b,h0,h1,h2,h3,h4⟩=>⟨b,h0,h1,h2.mono (kb _ (by decide) (by decide) (by decide) _),h3,h4⟩
              c13:=by rw[eC];exact h2.c13
              c13y:=fun ho=>⟨kb _ (by decide) (by decide) (by decide) _ _ (h2.c13y ho).1,(h2.c13y ho).2⟩
              c13c:=h2.c13c }
   ·rw[hk]at hgf;cases hgf
    exact sc 7 14 _ hk pf7_s (by omega) rfl (by decide) (by decide) fun n hn=>by
     have NE:∀j,(7:Nat)≠j→fkey f≠j:=fun j hj e=>hj (by rw[← hk,e])
     have eg:gv nC (pre++[f])=gv nC pre:=by
      rw[if_neg (NE 13 (by decide))]at eC'
      rw[eC,eC',List.append_nil]
     have e1:cnt 1 (pre++[f])=cnt 1 pre:=cnt_no (NE 1 (by decide))
     have e2:cnt 2 (pre++[f])=cnt 2 pre:=cnt_no (NE 2 (by decide))
     have e3:cnt 3 (pre++[f])=cnt 3 pre:=cnt_no (NE 3 (by decide))
     have e4:cnt 4 (pre++[f])=cnt 4 pre:=cnt_no (NE 4 (by decide))
     have e5:cnt 5 (pre++[f])=cnt 5 pre:=cnt_no (NE 5 (by decide))
     have e6:cnt 6 (pre++[f])=cnt 6 pre:=cnt_no (NE 6 (by decide))
     have e11:cnt 11 (pre++[f])=cnt 11 pre:=cnt_no (NE 11 (by decide))
     have e8:oneF 8 0 (pre++[f])=oneF 8 0 pre:=one_no (NE 8 (by decide))
     have e9:oneF 9 0 (pre++[f])=oneF 9 0 pre:=one_no (NE 9 (by decide))
     have e10:oneF 10 0 (pre++[f])=oneF 10 0 pre:=one_no (NE 10 (by decide))
     have e12:oneF 12 0 (pre++[f])=oneF 12 0 pre:=one_no (NE 12 (by decide))
     have e14:oneF 14 0 (pre++[f])=oneF 14 0 pre:=one_no (NE 14 (by decide))
     have eS:oneF 7 0 (pre++[f])=n:=by rw[one_yes hk,hn];rfl
     simp only[pfCells,oneN,eg,eS,e1,e2,e3,e4,e5,e6,e11,e8,e9,e10,e12,e14]
     rfl
   ·rw[hk]at hgf;cases hgf
    exact sc 8 15 _ hk pf8_s (by omega) rfl (by decide) (by decide) fun n hn=>by
     have NE:∀j,(8:Nat)≠j→fkey f≠j:=fun j hj e=>hj (by rw[← hk,e])
     have eg:gv nC (pre++[f])=gv nC pre:=by
      rw[if_neg (NE 13 (by decide))]at eC'
      rw[eC,eC',List.append_nil]
     have e1:cnt 1 (pre++[f])=cnt 1 pre:=cnt_no (NE 1 (by decide))
     have e2:cnt 2 (pre++[f])=cnt 2 pre:=cnt_no (NE 2 (by decide))
     have e3:cnt 3 (pre++[f])=cnt 3 pre:=cnt_no (NE 3 (by decide))
     have e4:cnt 4 (pre++[f])=cnt 4 pre:=cnt_no (NE 4 (by decide))
     have e5:cnt 5 (pre++[f])=cnt 5 pre:=cnt_no (NE 5 (by decide))
     have e6:cnt 6 (pre++[f])=cnt 6 pre:=cnt_no (NE 6 (by decide))
     have e11:cnt 11 (pre++[f])=cnt 11 pre:=cnt_no (NE 11 (by decide))
     have e7:oneF 7 0 (pre++[f])=oneF 7 0 pre:=one_no (NE 7 (by decide))
     have e9:oneF 9 0 (pre++[f])=oneF 9 0 pre:=one_no (NE 9 (by decide))
     have e10:oneF 10 0 (pre++[f])=oneF 10 0 pre:=one_no (NE 10 (by decide))
     have e12:oneF 12 0 (pre++[f])=oneF 12 0 pre:=one_no (NE 12 (by decide))
     have e14:oneF 14 0 (pre++[f])=oneF 14 0 pre:=one_no (NE 14 (by decide))
     have eS:oneF 8 0 (pre++[f])=n:=by rw[one_yes hk,hn];rfl
     simp only[pfCells,oneN,eg,eS,e1,e2,e3,e4,e5,e6,e11,e7,e9,e10,e12,e14]
     rfl
   ·rw[hk]at hgf;cases hgf
    exact sc 9 9 _ hk pf9_s (by omega) rfl (by decide) (by decide) fun n hn=>by
     have NE:∀j,(9:Nat)≠j→fkey f≠j:=fun j hj e=>hj (by rw[← hk,e])
     have eg:gv nC (pre++[f])=gv nC pre:=by
      rw[if_neg (NE 13 (by decide))]at eC'
      rw[eC,eC',List.append_nil]
     have e1:cnt 1 (pre++[f])=cnt 1 pre:=cnt_no (NE 1 (by decide))
     have e2:cnt 2 (pre++[f])=cnt 2 pre:=cnt_no (NE 2 (by decide))
     have e3:cnt 3 (pre++[f])=cnt 3 pre:=cnt_no (NE 3 (by decide))
     have e4:cnt 4 (pre++[f])=cnt 4 pre:=cnt_no (NE 4 (by decide))
     have e5:cnt 5 (pre++[f])=cnt 5 pre:=cnt_no (NE 5 (by decide))
     have e6:cnt 6 (pre++[f])=cnt 6 pre:=cnt_no (NE 6 (by decide))
     have e11:cnt 11 (pre++[f])=cnt 11 pre:=cnt_no (NE 11 (by decide))
     have e7:oneF 7 0 (pre++[f])=oneF 7 0 pre:=one_no (NE 7 (by decide))
     have e8:oneF 8 0 (pre++[f])=oneF 8 0 pre:=one_no (NE 8 (by decide))
     have e10:oneF 10 0 (pre++[f])=oneF 10 0 pre:=one_no (NE 10 (by decide))
     have e12:oneF 12 0 (pre++[f])=oneF 12 0 pre:=one_no (NE 12 (by decide))
     have e14:oneF 14 0 (pre++[f])=oneF 14 0 pre:=one_no (NE 14 (by decide))
     have eS:oneF 9 0 (pre++[f])=n:=by rw[one_yes hk,hn];rfl
     simp only[pfCells,oneN,eg,eS,e1,e2,e3,e4,e5,e6,e11,e7,e8,e10,e12,e14]
     rfl
   ·rw[hk]at hgf;cases hgf
    exact sc 10 10 _ hk pf10_s (by omega) rfl (by decide) (by decide) fun n hn=>by
     have NE:∀j,(10:Nat)≠j→fkey f≠j:=fun j hj e=>hj (by rw[← hk,e])
     have eg:gv nC (pre++[f])=gv nC pre:=by
      rw[if_neg (NE 13 (by decide))]at eC'
      rw[eC,eC',List.append_nil]
     have e1:cnt 1 (pre++[f])=cnt 1 pre:=cnt_no (NE 1 (by decide))
     have e2:cnt 2 (pre++[f])=cnt 2 pre:=cnt_no (NE 2 (by decide))
     have e3:cnt 3 (pre++[f])=cnt 3 pre:=cnt_no (NE 3 (by decide))
     have e4:cnt 4 (pre++[f])=cnt 4 pre:=cnt_no (NE 4 (by decide))
     have e5:cnt 5 (pre++[f])=cnt 5 pre:=cnt_no (NE 5 (by decide))
     have e6:cnt 6 (pre++[f])=cnt 6 pre:=cnt_no (NE 6 (by decide))
     have e11:cnt 11 (pre++[f])=cnt 11 pre:=cnt_no (NE 11 (by decide))
     have e7:oneF 7 0 (pre++[f])=oneF 7 0 pre:=one_no (NE 7 (by decide))
     have e8:oneF 8 0 (pre++[f])=oneF 8 0 pre:=one_no (NE 8 (by decide))
     have e9:oneF 9 0 (pre++[f])=oneF 9 0 pre:=one_no (NE 9 (by decide))
     have e12:oneF 12 0 (pre++[f])=oneF 12 0 pre:=one_no (NE 12 (by decide))
     have e14:oneF 14 0 (pre++[f])=oneF 14 0 pre:=one_no (NE 14 (by decide))
     have eS:oneF 10 0 (pre++[f])=n:=by rw[one_yes hk,hn];rfl
     simp only[pfCells,oneN,eg,eS,e1,e2,e3,e4,e5,e6,e11,e7,e8,e9,e12,e14]
     rfl
   ·rw[hk]at hgf;cases hgf
    obtain ⟨q,hq,hqn⟩:=s11.at_ hp hk
    have hlt:=cnt_lt hp hk
    rw[s11.cnt]at hlt
    rw[if_neg (by rw[hk];decide)]at eC'
    subst eC'
    rw[List.append_nil]at eC
    cases f with
    |num k' n=>simp only[fkey]at hk;subst hk;simp only at hw;exact absurd hw (by decide)
    |bys k' D=>
     simp only[fkey,fbytes]at hk hq
     subst hk;subst hq
     refine Calls.mono (pe_m w2 bb pb 11 (mB q) (pfCells nC v pre) (fun w b=>rVT T w b x.per) (fun u1 u2 b hh hk=>hh.mono fun cs hq=>hk.blk hq (.inr (by simp))) hbf h1 (by simp[pfCells]) (fun w3 xb hx hb _=>dVT_c T hl w3 bb xb 11 q _ hqn hx hb)) (Ret.mono fun v' w3 hR=>?_)
     obtain ⟨rfl,⟨xb,hb',hxb,hφ'⟩,hkk,hbb⟩:=hR
     have kb:∀(T:Nat),T≠tBuf→T≠tProf→T≠tBuf→∀b cs,Blk w2 b T cs→Blk w3 b T cs:=fun T hB hT _ b cs hq=>hkk.blk hq fun hm=>by
       simp only[List.mem_cons,List.mem_nil_iff,or_false]at hm
       rcases hm with hm|hm
       ·exact h.buf.ne hq hB hm
       ·exact hq.ne h1 hT hm
     have e1:cnt 1 (pre++[.bys 11 (mB q)])=cnt 1 pre:=cnt_no (show (11:Nat)≠1 by decide)
     have e2:cnt 2 (pre++[.bys 11 (mB q)])=cnt 2 pre:=cnt_no (show (11:Nat)≠2 by decide)
     have e3:cnt 3 (pre++[.bys 11 (mB q)])=cnt 3 pre:=cnt_no (show (11:Nat)≠3 by decide)
     have e4:cnt 4 (pre++[.bys 11 (mB q)])=cnt 4 pre:=cnt_no (show (11:Nat)≠4 by decide)
     have e5:cnt 5 (pre++[.bys 11 (mB q)])=cnt 5 pre:=cnt_no (show (11:Nat)≠5 by decide)
     have e6:cnt 6 (pre++[.bys 11 (mB q)])=cnt 6 pre:=cnt_no (show (11:Nat)≠6 by decide)
     have e7:oneF 7 0 (pre++[.bys 11 (mB q)])=oneF 7 0 pre:=one_no (show (11:Nat)≠7 by decide)
     have e8:oneF 8 0 (pre++[.bys 11 (mB q)])=oneF 8 0 pre:=one_no (show (11:Nat)≠8 by decide)
     have e9:oneF 9 0 (pre++[.bys 11 (mB q)])=oneF 9 0 pre:=one_no (show (11:Nat)≠9 by decide)
     have e10:oneF 10 0 (pre++[.bys 11 (mB q)])=oneF 10 0 pre:=one_no (show (11:Nat)≠10 by decide)
     have e12:oneF 12 0 (pre++[.bys 11 (mB q)])=oneF 12 0 pre:=one_no (show (11:Nat)≠12 by decide)
     have e14:oneF 14 0 (pre++[.bys 11 (mB q)])=oneF 14 0 pre:=one_no (show (11:Nat)≠14 by decide)
     have eK:cnt 11 (pre++[.bys 11 (mB q)])=cnt 11 pre+1:=cnt_yes rfl
     refine ⟨rfl,h.kx.trans' hkk,hbb,{ v with vp:=ptr xb },?_,?_⟩
     ·simp only[pfCells,oneN,eC,e1,e2,e3,e4,e5,e6,e7,e8,e9,e10,e12,e14];exact hb'
     ·exact { c1:=by rw[e1];exact h2.c1.keep hkk.size (kb _ (by decide) (by decide) (by decide)) (fun b t hh=>hh.mono ((kb _ (by decide) (by decide) (by decide)) _)),c2:=by rw[e2];exact h2.c2.keep hkk.size (kb _ (by decide) (by decide) (by decide)) (fun b t hh=>hh.mono ((kb _ (by decide) (by decide) (by decide)) _) (fun b cs hb hk=>⟨(kb _ (by decide) (by decide) (by decide)) _ _ hk,hb⟩) (fun b cs hb hk=>⟨(kb _ (by decide) (by decide) (by decide)) _ _ hk,hb⟩) (fun b cs hb hk=>⟨(kb _ (by decide) (by decide) (by decide)) _ _ hk,hb⟩)),c3:=by rw[e3];exact h2.c3.keep hkk.size (kb _ (by decide) (by decide) (by decide)) (fun b t hh=>hh.mono ((kb _ (by decide) (by decide) (by decide)) _)),c4:=by rw[e4];exact h2.c4.keep hkk.size (kb _ (by decide) (by decide) (by decide)) (fun b t hh=>hh.mono ((kb _ (by decide) (by decide) (by decide)) _) (fun b cs hb hk=>⟨(kb _ (by decide) (by decide) (by decide)) _ _ hk,hb⟩)),c5:=by rw[e5];exact h2.c5.keep hkk.size (kb _ (by decide) (by decide) (by decide)) (fun b t hh=>hh.mono ((kb _ (by decide) (by decide) (by decide)) _)),c6:=by rw[e6];exact h2.c6.keep (kb _ (by decide) (by decide) (by decide)),c11:=.inr ⟨xb,by omega,rfl,hφ',Nat.le_trans hBs hxb,fun hm=>by have:=(h2.c1.fresh xb hm).2;omega⟩,c13:=by rw[eC];exact h2.c13,c13y:=fun ho=>⟨kb _ (by decide) (by decide) (by decide) _ _ (h2.c13y ho).1,(h2.c13y ho).2⟩,c13c:=h2.c13c }
   ·rw[hk]at hgf;cases hgf
    exact sc 12 12 _ hk pf12_s (by omega) rfl (by decide) (by decide) fun n hn=>by
     have NE:∀j,(12:Nat)≠j→fkey f≠j:=fun j hj e=>hj (by rw[← hk,e])
     have eg:gv nC (pre++[f])=gv nC pre:=by
      rw[if_neg (NE 13 (by decide))]at eC'
      rw[eC,eC',List.append_nil]
     have e1:cnt 1 (pre++[f])=cnt 1 pre:=cnt_no (NE 1 (by decide))
     have e2:cnt 2 (pre++[f])=cnt 2 pre:=cnt_no (NE 2 (by decide))
     have e3:cnt 3 (pre++[f])=cnt 3 pre:=cnt_no (NE 3 (by decide))
     have e4:cnt 4 (pre++[f])=cnt 4 pre:=cnt_no (NE 4 (by decide))
     have e5:cnt 5 (pre++[f])=cnt 5 pre:=cnt_no (NE 5 (by decide))
     have e6:cnt 6 (pre++[f])=cnt 6 pre:=cnt_no (NE 6 (by decide))
     have e11:cnt 11 (pre++[f])=cnt 11 pre:=cnt_no (NE 11 (by decide))
     have e7:oneF 7 0 (pre++[f])=oneF 7 0 pre:=one_no (NE 7 (by decide))
     have e8:oneF 8 0 (pre++[f])=oneF 8 0 pre:=one_no (NE 8 (by decide))
     have e9:oneF 9 0 (pre++[f])=oneF 9 0 pre:=one_no (NE 9 (by decide))
     have e10:oneF 10 0 (pre++[f])=oneF 10 0 pre:=one_no (NE 10 (by decide))
     have e14:oneF 14 0 (pre++[f])=oneF 14 0 pre:=one_no (NE 14 (by decide))
     have eS:oneF 12 0 (pre++[f])=n:=by rw[one_yes hk,hn];rfl
     simp only[pfCells,oneN,eg,eS,e1,e2,e3,e4,e5,e6,e11,e7,e8,e9,e10,e14]
     rfl
   ·rw[hk]at hgf;cases hgf
    rw[if_pos hk]at eC'
    have NE:∀j,(13:Nat)≠j→fkey f≠j:=fun j hj e=>hj (by rw[← hk,e])
    refine Calls.mono (pf13_l w2 bb pb f ac (pfCells nC v pre) v.yc v.pc _ v.cc _ hbf eC' h1 rfl h2.c13 (fun ho=>(h2.c13y ho).1) h2.c13c (by rw[eC,List.length_append]at hgC;omega)) (Ret.mono fun v' w3 hR=>?_)
    obtain ⟨rfl,⟨y',p',c',hO',hc',hy',hr',hb'⟩,hkk⟩:=hR
    have kb:∀(T:Nat),T≠tBuf→T≠tProf→T≠tI64→∀b cs,Blk w2 b T cs→Blk w3 b T cs:=fun T hB hT hU b cs hq=>hkk.blk hq fun hm=>by
     rcases List.mem_append.1 hm with hm|hm
     ·simp at hm;exact hq.ne h1 hT hm
     ·exact rowL_nin (fun ho=>(h2.c13y ho).1) hq hU hm
    have kI:∀b cs,(w1.heap.size≤b∧b∉rowL v.yc)→Blk w2 b tI64 cs→Blk w3 b tI64 cs∧(w1.heap.size≤b∧b∉rowL y'):=fun b cs hb hq=>⟨hkk.blk hq fun hm=>by
     rcases List.mem_append.1 hm with hm|hm
     ·simp at hm;exact hq.ne h1 (by decide) hm
     ·exact hb.2 hm,hb.1,far13 hr' hb.2 hq.lt⟩
    have kJ:∀(T:Nat),T≠tBuf→T≠tProf→T≠tI64→∀b cs,(w1.heap.size≤b∧b∉rowL v.yc)→Blk w2 b T cs→Blk w3 b T cs∧(w1.heap.size≤b∧b∉rowL y'):=fun T hB hT hU b cs hb hq=>⟨kb T hB hT hU b cs hq,hb.1,far13 hr' hb.2 hq.lt⟩
    have e1:cnt 1 (pre++[f])=cnt 1 pre:=cnt_no (NE 1 (by decide))
    have e2:cnt 2 (pre++[f])=cnt 2 pre:=cnt_no (NE 2 (by decide))
    have e3:cnt 3 (pre++[f])=cnt 3 pre:=cnt_no (NE 3 (by decide))
    have e4:cnt 4 (pre++[f])=cnt 4 pre:=cnt_no (NE 4 (by decide))
    have e5:cnt 5 (pre++[f])=cnt 5 pre:=cnt_no (NE 5 (by decide))
    have e6:cnt 6 (pre++[f])=cnt 6 pre:=cnt_no (NE 6 (by decide))
    have e11:cnt 11 (pre++[f])=cnt 11 pre:=cnt_no (NE 11 (by decide))
    have e7:oneF 7 0 (pre++[f])=oneF 7 0 pre:=one_no (NE 7 (by decide))
    have e8:oneF 8 0 (pre++[f])=oneF 8 0 pre:=one_no (NE 8 (by decide))
    have e9:oneF 9 0 (pre++[f])=oneF 9 0 pre:=one_no (NE 9 (by decide))
    have e10:oneF 10 0 (pre++[f])=oneF 10 0 pre:=one_no (NE 10 (by decide))
    have e12:oneF 12 0 (pre++[f])=oneF 12 0 pre:=one_no (NE 12 (by decide))
    have e14:oneF 14 0 (pre++[f])=oneF 14 0 pre:=one_no (NE 14 (by decide))
    refine ⟨rfl,h.kx.more hkk fun q hq=>?_,h.buf.keep fun cs hq=>hkk.blk hq fun hm=>?_,{ v with pc:=p',cc:=c',yc:=y' },?_,?_⟩
    ·rcases List.mem_append.1 hq with hq|hq
     ·simp at hq;subst hq;simp
     ·exact .inr (rowL_ge h2.c13y q hq)
    ·rcases List.mem_append.1 hm with hm|hm
     ·simp at hm;exact hq.ne h1 (by decide) hm
     ·exact rowL_nin (fun ho=>(h2.c13y ho).1) hq (by decide) hm
    ·simp only[pfCells,oneN,eC,List.length_append,e1,e2,e3,e4,e5,e6,e11,e7,e8,e9,e10,e12,e14];exact hb'
    ·exact { c1:=by rw[e1];exact h2.c1.keep hkk.size (kb _ (by decide) (by decide) (by decide)) (fun b t hh=>hh.mono ((kb _ (by decide) (by decide) (by decide)) _)),c2:=by rw[e2];exact h2.c2.keep hkk.size (kb _ (by decide) (by decide) (by decide)) (fun b t hh=>hh.mono ((kb _ (by decide) (by decide) (by decide)) _) kI (kJ _ (by decide) (by decide) (by decide)) (kJ _ (by decide) (by decide) (by decide))),c3:=by rw[e3];exact h2.c3.keep hkk.size (kb _ (by decide) (by decide) (by decide)) (fun b t hh=>hh.mono ((kb _ (by decide) (by decide) (by decide)) _)),c4:=by rw[e4];exact h2.c4.keep hkk.size (kb _ (by decide) (by decide) (by decide)) (fun b t hh=>hh.mono ((kb _ (by decide) (by decide) (by decide)) _) (fun b cs hb hk=>⟨(kb _ (by decide) (by decide) (by decide)) _ _ hk,hb⟩)),c5:=by rw[e5];exact h2.c5.keep hkk.size (kb _ (by decide) (by decide) (by decide)) (fun b t hh=>hh.mono ((kb _ (by decide) (by decide) (by decide)) _)),c6:=by rw[e6];exact h2.c6.keep (kb _ (by decide) (by decide) (by decide)),c11:=by rw[e11];exact h2.c11.imp id fun ⟨b,h0,h1,h2,h3,h4⟩=>⟨b,h0,h1,h2.mono (kb _ (by decide) (by decide) (by decide) _),h3,h4⟩,c13:=by rw[eC,List.length_append,List.map_append];exact hO',c13y:=fun ho=>⟨hy' ho,by
       rcases hr' ho with ⟨e1,e2⟩|e
       ·rw[e2];exact (h2.c13y e1).2
       ·exact Nat.le_trans hBs e⟩,c13c:=hc' }
   ·rw[hk]at hgf;cases hgf
    exact sc 14 17 _ hk pf14_s (by omega) rfl (by decide) (by decide) fun n hn=>by
     have NE:∀j,(14:Nat)≠j→fkey f≠j:=fun j hj e=>hj (by rw[← hk,e])
     have eg:gv nC (pre++[f])=gv nC pre:=by
      rw[if_neg (NE 13 (by decide))]at eC'
      rw[eC,eC',List.append_nil]
     have e1:cnt 1 (pre++[f])=cnt 1 pre:=cnt_no (NE 1 (by decide))
     have e2:cnt 2 (pre++[f])=cnt 2 pre:=cnt_no (NE 2 (by decide))
     have e3:cnt 3 (pre++[f])=cnt 3 pre:=cnt_no (NE 3 (by decide))
     have e4:cnt 4 (pre++[f])=cnt 4 pre:=cnt_no (NE 4 (by decide))
     have e5:cnt 5 (pre++[f])=cnt 5 pre:=cnt_no (NE 5 (by decide))
     have e6:cnt 6 (pre++[f])=cnt 6 pre:=cnt_no (NE 6 (by decide))
     have e11:cnt 11 (pre++[f])=cnt 11 pre:=cnt_no (NE 11 (by decide))
     have e7:oneF 7 0 (pre++[f])=oneF 7 0 pre:=one_no (NE 7 (by decide))
     have e8:oneF 8 0 (pre++[f])=oneF 8 0 pre:=one_no (NE 8 (by decide))
     have e9:oneF 9 0 (pre++[f])=oneF 9 0 pre:=one_no (NE 9 (by decide))
     have e10:oneF 10 0 (pre++[f])=oneF 10 0 pre:=one_no (NE 10 (by decide))
     have e12:oneF 12 0 (pre++[f])=oneF 12 0 pre:=one_no (NE 12 (by decide))
     have eS:oneF 14 0 (pre++[f])=n:=by rw[one_yes hk,hn];rfl
     simp only[pfCells,oneN,eg,eS,e1,e2,e3,e4,e5,e6,e11,e7,e8,e9,e10,e12]
     rfl
   ·rw[List.getElem?_eq_none (by simpa using hk)]at hgf;cases hgf
 ·obtain ⟨rfl,w1,hf1,h0⟩:=h
  obtain ⟨v,h1,h2⟩:=h0.st
  have c1:cnt 1 (flds m)=x.types.length:=by rw[s1.cnt,l1]
  have c2:cnt 2 (flds m)=x.samples.length:=by rw[s2.cnt,l2]
  have c3:cnt 3 (flds m)=x.mappings.length:=by rw[s3.cnt,l3]
  have c4:cnt 4 (flds m)=x.locs.length:=by rw[s4.cnt,l4]
  have c5:cnt 5 (flds m)=x.funcs.length:=by rw[s5.cnt,l5]
  have e:∀{n:Nat} {z:Int},IntKind.i64.wrap (n:Nat)=z→vI n=.int .i64 z:=fun h=>by rw[← h]
  have kB:∀b,w1.heap.size≤b→w.heap.size≤b:=fun b hb=>Nat.le_trans hf1.size hb
  have gl:∀{α:Type} {pT:Nat} {p:Option Addr} {l c:Nat} {bs:List Nat} {xs:List α} {φ ψ:Nat→α→Prop},Grp pT w1.heap.size w' p l c bs xs φ→(∀b x,φ b x→ψ b x)→Grp pT w.heap.size w' p l c bs xs ψ:=fun h k=>⟨h.row.mono fun b cs hb hk=>⟨hk,kB b hb⟩,h.each.mono k,h.nd,fun b hb=>⟨kB b (h.fresh b hb).1,(h.fresh b hb).2⟩⟩
  have h3:=h2.c1;have h4:=h2.c2;have h5:=h2.c3;have h7:=h2.c4;have h8:=h2.c5;have h9:=h2.c6;have h10:=h2.c13
  rw[c1,List.take_length]at h3
  rw[c2,List.take_length]at h4
  rw[c3,List.take_length]at h5
  rw[c4,List.take_length]at h7
  rw[c5,List.take_length]at h8
  rw[h6,List.take_length]at h9
  refine ⟨rfl,h0.kx.afterF hf1,v,nC.flatten.map fun n:Nat=>IntKind.i64.wrap (n:Nat),_,_,_,?_,gl h3 (fun _ _ h=>h),gl h4 (fun b t hh=>hh.mono (fun _ h=>h) (fun b cs hb hk=>⟨hk,kB b hb.1⟩) (fun b cs hb hk=>⟨hk,kB b hb.1⟩) (fun b cs hb hk=>⟨hk,kB b hb.1⟩)),gl h5 (fun _ _ h=>h),gl h7 (fun b t hh=>hh.mono (fun _ h=>h) (fun b cs hb hk=>⟨hk,kB b hb.1,hb.2⟩)),gl h8 (fun _ _ h=>h),h9.mono fun b cs hb hk=>⟨hk,kB b hb⟩,?_,?_,atW hI.drop hl,atW hI.keep hl,atW hI.dfl hl,?_⟩
  ·simp only[pfCells,oneN,c1,c2,c3,c4,c5,h6,hC.all]at h1
   rw[e hI.time,e hI.dur,e hI.period]at h1
   rw[List.length_map]
   exact h1
  ·rw[hC.all]at h10
   rw[List.length_map,List.map_map]
   exact ⟨v.yc,h10,fun ho=>⟨(h2.c13y ho).1,kB _ (h2.c13y ho).2⟩⟩
  ·refine ⟨by rw[List.length_map];exact hCl,fun i s z hs hz=>?_⟩
   rw[List.getElem?_map]at hz
   obtain ⟨n,hn,rfl⟩:=Option.map_eq_some_iff.1 hz
   exact atW (hCe.2 i s n hs hn) hl
  ·rcases h2.c11 with ⟨q1,q2⟩|⟨b,q0,q1,q2,q3,q4⟩
   ·left
    refine ⟨q2,e11 ?_⟩
    rw[s11.cnt]at q1
    exact List.eq_nil_of_length_eq_zero q1
   ·exact .inr ⟨b,q1,q2,kB b q3,q4⟩
structure RawP (B:Nat) (T:List ByteArray) (x:PProf) (g:G) (vp:Value) (w:World):Prop where
 prof:∃pt ct ps cs pm cm pl cl pf cf pst cst pc cc cx dx kx sx,Blk w g.pb tProf [.slice pt x.types.length ct,.string eB,.slice ps x.samples.length cs,.slice pm x.mappings.length cm,.slice pl x.locs.length cl,.slice pf x.funcs.length cf,.slice none 0 0,.string eB,.string eB,.int .i64 x.time,.int .i64 x.dur,vp,.int .i64 x.period,.slice pc x.comments.length cc,.int .i64 dx,.int .i64 kx,.slice pst T.length cst,.int .i64 sx]∧
  OS pVT 1 w (.slice pt x.types.length ct) (g.types.map ptr)∧OS pSam 1 w (.slice ps x.samples.length cs) (g.sams.map ptr)∧OS pMap 1 w (.slice pm x.mappings.length cm) (g.maps.map ptr)∧OS pLoc 1 w (.slice pl x.locs.length cl) (g.locs.map ptr)∧OS pFun 1 w (.slice pf x.funcs.length cf) (g.funs.map ptr)∧
  OS tStr 1 w (.slice pst T.length cst) (T.map .string)∧OS tI64 1 w (.slice pc x.comments.length cc) (cx.map (.int .i64))∧(Al2 x.comments cx fun s n=>At T n s)∧At T dx x.drop∧At T kx x.keep∧At T sx x.deflt
 per:(vp=.pointer none∧x.per=⟨eB,eB⟩)∨(vp=ptr g.per∧rVT T w g.per x.per∧B≤g.per∧g.per∉g.types)
 types:Each g.types x.types (rVT T w)
 maps:Each g.maps x.mappings (rMp T w)
 funs:Each g.funs x.funcs (rFn T w)
 locs:Each g.locs x.locs fun b l=>rLc x (LP B g.locs b) w b l
 sams:Each g.sams x.samples (rSm x T (fun b=>B≤b) w)
 ntypes:g.types.Nodup
 nmaps:g.maps.Nodup
 nfuns:g.funs.Nodup
 nlocs:g.locs.Nodup
 nsams:g.sams.Nodup
 fresh:(∀b∈g.types,B≤b)∧(∀b∈g.maps,B≤b)∧(∀b∈g.funs,B≤b)∧(∀b∈g.locs,B≤b)∧∀b∈g.sams,B≤b
theorem UOut.raw {x:PProf} {T:List ByteArray} {bb pb:Nat} (h:UOut x T bb pb w w') (hB:B≤w.heap.size):∃g vp,g.pb=pb∧RawP B T x g vp w':=by
 obtain ⟨v,cx,dx,kx,sx,h1,g1,g2,g3,g4,g5,h6,h7,h8,h9,h10,h11,h12⟩:=h.st
 have hcl:cx.length=x.comments.length:=h8.1
 rw[hcl]at h1 h7
 have lo:∀{n:Nat},w.heap.size≤n→B≤n:=fun h=>Nat.le_trans hB h
 have locs:Each v.los x.locs fun b l=>rLc x (LP B v.los b) w' b l:=g4.each.mono fun b l hh=>hh.mono (fun _ h=>h) fun rb cs hb hk=>⟨hk,lo hb.1,hb.2⟩
 have sams:Each v.sas x.samples (rSm x T (fun b=>B≤b) w'):=g2.each.mono fun b l hh=>hh.mono (fun _ h=>h) (fun rb cs hb hk=>⟨hk,lo hb⟩) (fun rb cs hb hk=>⟨hk,lo hb⟩) (fun rb cs hb hk=>⟨hk,lo hb⟩)
 have fresh:=And.intro (fun b hb=>lo (g1.fresh b hb).1) (And.intro (fun b hb=>lo (g3.fresh b hb).1) (And.intro (fun b hb=>lo (g5.fresh b hb).1) (And.intro (fun b hb=>lo (g4.fresh b hb).1) (fun b hb=>lo (g2.fresh b hb).1))))
 rcases h12 with ⟨e1,e2⟩|⟨b,e1,e2,e3,e4⟩
 ·exact ⟨⟨pb,0,v.tys,v.mas,v.fus,v.los,v.sas⟩,v.vp,rfl,⟨v.pt,v.ct,v.ps,v.cs,v.pm,v.cm,v.pl,v.cl,v.pf,v.cf,v.pst,v.cst,v.pc,v.cc,cx,dx,kx,sx,h1,g1.row.os,g2.row.os,g3.row.os,g4.row.os,g5.row.os,h6.os,h7.os,h8,h9,h10,h11⟩,.inl ⟨e1,e2⟩,g1.each,g3.each,g5.each,locs,sams,g1.nd,g3.nd,g5.nd,g4.nd,g2.nd,fresh⟩
 ·exact ⟨⟨pb,b,v.tys,v.mas,v.fus,v.los,v.sas⟩,v.vp,rfl,⟨v.pt,v.ct,v.ps,v.cs,v.pm,v.cm,v.pl,v.cl,v.pf,v.cf,v.pst,v.cst,v.pc,v.cc,cx,dx,kx,sx,h1,g1.row.os,g2.row.os,g3.row.os,g4.row.os,g5.row.os,h6.os,h7.os,h8,h9,h10,h11⟩,.inr ⟨e1,e2,lo e3,e4⟩,g1.each,g3.each,g5.each,locs,sams,g1.nd,g3.nd,g5.nd,g4.nd,g2.nd,fresh⟩
theorem RawP.fr {T:List ByteArray} {x:PProf} {vp:Value} (h:RawP B T x g vp w) (k:Fr 0 [] w w'):RawP B T x g vp w':=by
 have kb:∀(T:Nat) b cs,Blk w b T cs→Blk w' b T cs:=fun T b cs hb=>k.blk hb (.inr (by simp))
 obtain ⟨pt,ct,ps,cs,pm,cm,pl,cl,pf,cf,pst,cst,pc,cc,cx,dx,kx,sx,h1,h2,h3,h4,h5,h6,h7,h8,h9⟩:=h.prof
 exact { h with
  prof:=⟨pt,ct,ps,cs,pm,cm,pl,cl,pf,cf,pst,cst,pc,cc,cx,dx,kx,sx,kb _ _ _ h1,h2.mono (kb _),h3.mono (kb _),h4.mono (kb _),h5.mono (kb _),h6.mono (kb _),h7.mono (kb _),h8.mono (kb _),h9⟩
  per:=h.per.imp id fun ⟨e1,e2,e3⟩=>⟨e1,e2.mono (kb _ _),e3⟩
  types:=h.types.mono fun b t hh=>hh.mono (kb _ _)
  maps:=h.maps.mono fun b t hh=>hh.mono (kb _ _)
  funs:=h.funs.mono fun b t hh=>hh.mono (kb _ _)
  locs:=h.locs.mono fun b t hh=>hh.mono (kb _ _) fun b cs hb hk=>⟨kb _ _ _ hk,hb⟩
  sams:=h.sams.mono fun b t hh=>hh.mono (kb _ _) (fun b cs hb hk=>⟨kb _ _ _ hk,hb⟩) (fun b cs hb hk=>⟨kb _ _ _ hk,hb⟩) (fun b cs hb hk=>⟨kb _ _ _ hk,hb⟩) }
theorem hraw_fr {pb:Nat} {T:List ByteArray} {x:PProf} (h:∃g vp,g.pb=pb∧RawP B T x g vp w) (k:Fr 0 [] w w'):∃g vp,g.pb=pb∧RawP B T x g vp w':=by
 obtain ⟨g,vp,h1,h2⟩:=h
 exact ⟨g,vp,h1,h2.fr k⟩
set_option maxHeartbeats 1000000 in
theorem unmarshal_c (x:PProf) (T:List ByteArray) (hx:WellP x) (w:World) (b o c pb:Nat) (m:Msg) (hI:UIn x T m) (hB:Bys w b o c (mB m)) (hp:Blk w pb tProf zpf):
  Calls Tryz.prog 88 #[.slice (some ⟨b,o,none⟩) (mB m).length c,.iface ipf (ptr pb)] w (Ret fun v w'=>v=.nilIface∧(∃g vp,g.pb=pb∧RawP w.heap.size T x g vp w')∧KeepX [pb] w w'):=by
 have hlen:=hI.ok.len
 refine startJ (args:=[_,_]) [(0,_),(1,_)] 0 [] [] func88 rfl ntmps88 rfl rfl .nil ?_
 refine sQ fun K1=>cj_reg (jA (k:=K1 (sQ fun K2=>cj_reg (jM (k:=?_)))))
 refine j_val rfl (fun _ _ h=>r_build (cs:=[(.int .i64 0),_,(.int .u64 0),_,(.int .u8 0),(.int .u8 0),(.int .u8 0),(.int .u8 0),(.int .u8 0),(.int .u8 0),(.int .u8 0),(.int .u8 0),(.int .u8 0),(.int .u8 0),(.int .u8 0),(.int .u8 0),(.int .u8 0),(.int .u8 0),(.int .u8 0),(.int .u8 0)]) bt198 rfl rfl h) (j_allocA (zs:=[(.int .i64 0),(.int .i64 0),(.int .u64 0),(.slice none 0 0),(.int .u8 0),(.int .u8 0),(.int .u8 0),(.int .u8 0),(.int .u8 0),(.int .u8 0),(.int .u8 0),(.int .u8 0),(.int .u8 0),(.int .u8 0),(.int .u8 0),(.int .u8 0),(.int .u8 0),(.int .u8 0),(.int .u8 0),(.int .u8 0)]) zv198 rfl fun b5=>?_)
 refine j_storeW 0 rfl rfl rfl rfl so198 rfl rfl rfl rfl rfl ?_
 refine K2 (sQ fun K3=>cj_reg (jM (k:=?_)))
 refine j_callE (R:=fun w1 v w'=>v=.nilIface∧UOut x T b5 pb w1 w') call105 rfl rfl (fun w1 hH hf=>dPf_c x T hx w1 b5 pb 0 m hI (hf.blk hp (.inr (by simp))) ⟨by omega,b,o,c,_,hH.get (i:=0) rfl rfl,hB.keep hf⟩) fun w1 v w2 hH1 hf1 hR=>?_
 obtain ⟨rfl,hU⟩:=hR
 have h5:w.heap.size≤b5:=hH1.fresh (i:=0) rfl rfl rfl
 have hraw:=hU.raw (B:=w.heap.size) hf1.size
 have hkk:KeepX [pb] w w2:=(hU.kx.afterF hf1).drop fun q hq=>by
  simp only[List.mem_cons,List.mem_nil_iff,or_false]at hq⊢
  rcases hq with hq|hq
  ·right;omega
  ·exact .inl hq
 refine J.begin ⟨w2,0,[]⟩ [] ok_refl .nil ?_
 refine jA (k:=K3 (cj_ret ?_))
 exact ej_ret1 results88 rfl fun w' hH hf=>⟨rfl,hraw_fr hraw hf,hkk.thenF hf⟩
theorem getString_c (w:World) (pb T0 off:Nat) (cs:List Value) (T:List ByteArray) (n:Int) (s:ByteArray) (tv:Value) (hp:Blk w pb T0 cs) (hcs:cs[off]? =some (.int .i64 n)) (hn:At T n s) (ht:OS tStr 1 w tv (T.map .string)) (hTS:Nat.beq T0 tStr=false) (hl:T.length≤1000000000):
  Calls Tryz.prog 106 #[tv,.pointer (some ⟨pb,off,none⟩),.nilIface] w (Ret fun v w'=>v=.tuple #[.string s,.nilIface]∧Blk w' pb T0 (setL cs off [.int .i64 0])∧KeepX [pb] w w'):=by
 obtain ⟨k,rfl,hk⟩:=hn
 have hkl:=(List.getElem?_eq_some_iff.1 hk).1
 have hoff:=(List.getElem?_eq_some_iff.1 hcs).1
 obtain ⟨p,l,c,rfl,hll, -,hx⟩:=ht.openF
 obtain rfl:l=T.length:=by simpa using hll.symm
 obtain ⟨tb,rfl,hcell⟩:=hx (by omega)
 have hW:[T0].all (fun t=> !Nat.beq t tStr)=true:=by simp only[List.all_cons,hTS,Bool.not_false,List.all_nil,Bool.and_self]
 have hel:∀w',Fm.ok ⟨w,0,[T0]⟩ w'→w'.cell? ⟨tb,0+k*1,none⟩=some (.string s):=fun w' hf=>by
  have:=hcell ⟨w,0,[T0]⟩ rfl hW w' hf k (.string s) (by rw[List.getElem?_map,hk];rfl)
  simpa using this
 refine startJ (args:=[_,_,_]) [(0,_),(1,_),(2,_)] 0 [T0] _ func106 rfl ntmps106 rfl rfl (Hp.one hp (Nat.zero_le _) (by simp)) ?_
 refine sQ fun K1=>cj_reg (jA (k:=jA (k:=K1 (sQ fun K2=>sQ fun K3=>cj_reg (jM (k:=?_))))))
 refine j_val rfl (fun _ _ h=>r_inil ud61 rfl h) (K3 (cj_if_f rfl (cj_skip (K2 (sQ fun K4=>cj_reg (jM (k:=jN (k:=?_))))))))
 refine j_valw rfl (fun a w ha hH hf=>r_ldH 0 rfl rfl ag2 rfl hcs ha hH) (jA (k:=K4 (sQ fun K5=>sQ fun K6=>cj_reg (jM (k:=jS (k:=?_))))))
 refine j_eqv (u:=.bool false) (congrArg Value.bool (decide_eq_false (by omega))) ?_
 refine jM (k:=?_)
 refine j_gt rfl rfl (jM (k:=?_))
 refine j_gt rfl rfl (jM (k:=?_))
 refine j_gt rfl rfl (jE ru27 (k:=?_))
 refine j_gt rfl rfl (j_val rfl (fun _ _ h=>r_geq rfl rfl h) ?_)
 refine j_eqv (u:=.bool false) (congrArg Value.bool (decide_eq_false (by omega))) ?_
 refine jK (k:=K6 (CJ.t [(0,_),(1,_),(8,_),(22,_)] (k:=?_)))
 refine cj_if_f rfl (cj_skip (K5 (sQ fun K7=>cj_reg (jM (k:=jN (k:=?_))))))
 refine j_store (y:=⟨pb,T0,cs,true,true,none⟩) (o:=off) 0 rfl rfl rfl rfl so2 rfl rfl rfl rfl (Nat.ble_eq_true_of_le (show off+1≤cs.length by omega)) ?_
 refine K7 (sQ fun K8=>cj_reg (jM (k:=jM (k:=?_))))
 refine j_val rfl (fun _ _ h=>r_idx (i:=k) ru27 so9 rfl rfl hkl h) (j_valw rfl (fun a w ha hH hf=>r_load ag9 rfl (hel w hf) ha) (jA (k:=jA (k:=K8 (cj_ret ?_)))))
 exact ej_ret2 results106 rfl rfl fun w' hH hf=>⟨rfl,hH.get (i:=0) rfl rfl,Hp.keepX (f:=⟨w,0,[T0]⟩) (hH.drop 0) hf⟩
structure LMd {α:Type} (T:Nat) (enc:α→Value) (B:Nat) (w:World) (mb:Nat) (f:ByteArray→List α) (ms:List (ByteArray×Value)) (es:List MapEntry) (ck:Nat) (row:ByteArray→Ent):Prop where
 hm:w.heap[mb]? =some (.map es.toArray ck)
 hM:MEnc Value.string ms es ck
 yes:∀k v,mget ms k=some v→f k≠[]∧∃p c,v=.slice p (f k).length c∧Own T 1 (row k) p (f k).length c ((f k).map enc)∧Blk w (row k).b T (row k).cs∧B≤(row k).b
 no:∀k,mget ms k=none→f k=[]
 ne:∀k k' v v',mget ms k=some v→mget ms k'=some v'→k≠k'→(row k).b≠(row k').b
def LM {α:Type} (T:Nat) (enc:α→Value) (B:Nat) (w:World) (mb:Nat) (f:ByteArray→List α):Prop:=∃ms es ck row,LMd T enc B w mb f ms es ck row
theorem LM.nil {α:Type} {enc:α→Value} (h:w.heap[mb]? =some (.map (List.toArray []) ck)):LM T enc B w mb fun _=>[]:=
 ⟨[],[],ck,fun _=>nilE T,h,MEnc.nil',fun k v h=>by simp[mget_nil]at h,fun _ _=>rfl,fun k k' v v' h=>by simp[mget_nil]at h⟩
theorem LMd.keep {α:Type} {enc:α→Value} {f:ByteArray→List α} {ms:List (ByteArray×Value)} {row:ByteArray→Ent} (h:LMd T enc B w mb f ms es ck row) (km:w'.heap[mb]? =some (.map es.toArray ck)) (kr:∀b cs,B≤b→Blk w b T cs→Blk w' b T cs):LMd T enc B w' mb f ms es ck row:=
 ⟨km,h.hM,fun k v hk=>by
  obtain ⟨h1,p,c,h2,h3,h4,h5⟩:=h.yes k v hk
  exact ⟨h1,p,c,h2,h3,kr _ _ h5 h4,h5⟩,h.no,h.ne⟩
theorem LMd.look {α:Type} {enc:α→Value} {f:ByteArray→List α} {ms:List (ByteArray×Value)} {row:ByteArray→Ent} (h:LMd T enc B w mb f ms es ck row) (k:ByteArray):
  ∃y p c,(mget ms k).getD (.slice none 0 0)=.slice p (f k).length c∧Own T 1 y p (f k).length c ((f k).map enc)∧(y.on=true→Blk w y.b T y.cs∧B≤y.b)∧∀k' v',mget ms k'=some v'→k'≠k→y.on=true→(row k').b≠y.b:=by
 cases hg:mget ms k with
 |none=>
  refine ⟨nilE T,none,0,?_,?_,fun h=>by simp[nilE]at h,fun _ _ _ _ h=>by simp[nilE]at h⟩
  ·rw[h.no k hg];rfl
  ·rw[h.no k hg];exact Own.nil
 |some v=>
  obtain ⟨h1,p,c,h2,h3,h4,h5⟩:=h.yes k v hg
  exact ⟨row k,p,c,h2,h3,fun _=>⟨h4,h5⟩,fun k' v' hk' hne _=>h.ne k' k v' v hk' hg hne⟩
theorem LMd.step {α:Type} {enc:α→Value} {f:ByteArray→List α} {ms:List (ByteArray×Value)} {es':List MapEntry} {ck':Nat} {row:ByteArray→Ent} (h:LMd T enc B w mb f ms es ck row) (k:ByteArray) (v:α) {y8:Ent} {p8:Option Addr} {c8:Nat}
  (hy:y.on=true→Blk w y.b T y.cs∧B≤y.b) (hyn:∀k' v',mget ms k'=some v'→k'≠k→y.on=true→(row k').b≠y.b) (hBw:B≤w.heap.size)
  (hm':w'.heap[mb]? =some (.map es'.toArray ck')) (hM':MEnc Value.string (mset ms k (.slice p8 ((f k).length+1) c8)) es' ck') (hO8:Own T 1 y8 p8 ((f k).length+1) c8 ((f k).map enc++[enc v])) (hb8:Blk w' y8.b T y8.cs) (hr8:(y.on=true∧y8.b=y.b)∨w.heap.size≤y8.b)
  (kr:∀k' v',mget ms k'=some v'→k'≠k→Blk w (row k').b T (row k').cs→Blk w' (row k').b T (row k').cs):LM T enc B w' mb fun j=>if k=j then f j++[v] else f j:=by
 refine ⟨_,es',ck',fun j=>if k=j then y8 else row j,hm',hM',fun j u hj=>?_,fun j hj=>?_,fun j j' u u' hj hj' hne=>?_⟩
 ·rw[mget_mset]at hj
  by_cases e:k=j
  ·subst e
   rw[if_pos rfl]at hj
   cases hj
   simp only[if_pos]
   refine ⟨by simp,p8,c8,by simp,by simpa using hO8,hb8,?_⟩
   rcases hr8 with ⟨h1,h2⟩|h1
   ·rw[h2];exact (hy h1).2
   ·omega
  ·have e':¬j=k:=fun h=>e h.symm
   rw[if_neg e']at hj
   simp only[if_neg e]
   obtain ⟨h1,p,c,h2,h3,h4,h5⟩:=h.yes j u hj
   exact ⟨h1,p,c,h2,h3,kr j u hj e' h4,h5⟩
 ·rw[mget_mset]at hj
  by_cases e:j=k
  ·rw[if_pos e]at hj;cases hj
  ·rw[if_neg e]at hj
   rw[if_neg fun h=>e h.symm]
   exact h.no j hj
 ·rw[mget_mset]at hj hj'
  have key:∀j u,mget ms j=some u→j≠k→y8.b≠(row j).b:=fun j u hj hne=>by
   rcases hr8 with ⟨h1,h2⟩|h1
   ·rw[h2];exact (hyn j u hj hne h1).symm
   ·obtain ⟨_,_,_,_,_,h4,_⟩:=h.yes j u hj
    have:=h4.lt
    omega
  by_cases e:k=j
  ·subst e
   have e2:¬j'=k:=fun h=>hne h.symm
   rw[if_neg e2]at hj'
   simp only[if_pos,if_neg hne]
   exact key j' u' hj' e2
  ·rw[if_neg fun h=>e h.symm]at hj
   simp only[if_neg e]
   by_cases e2:k=j'
   ·subst e2
    simp only[if_pos]
    exact (key j u hj fun h=>e h.symm).symm
   ·rw[if_neg fun h=>e2 h.symm]at hj'
    simp only[if_neg e2]
    exact h.ne j j' u u' hj hj' hne
def LabF {α:Type} (T:Nat) (enc:α→Value) (w:World) (v:Value) (f:ByteArray→List α):Prop:=
 (v=.map none∧∀k,f k=[])∨∃b ms es ck,v=.map (some b)∧w.heap[b]? =some (.map (List.toArray es) ck)∧MEnc Value.string ms es ck∧(∀k u,mget ms k=some u→f k≠[]∧OS T 1 w u ((f k).map enc))∧∀k,mget ms k=none→f k=[]
theorem LM.lab {α:Type} {enc:α→Value} {f:ByteArray→List α} (h:LM T enc B w mb f):LabF T enc w (.map (some mb)) f:=by
 obtain ⟨ms,es,ck,row,h⟩:=h
 refine .inr ⟨mb,ms,es,ck,rfl,h.hm,h.hM,fun k u hk=>?_,h.no⟩
 obtain ⟨h1,p,c,h2,h3,h4,h5⟩:=h.yes k u hk
 exact ⟨h1,row k,p,_,c,h2,h3,fun _=>h4⟩
theorem LabF.mono {α:Type} {enc:α→Value} {f:ByteArray→List α} (h:LabF T enc w v f) (kr:∀b cs,Blk w b T cs→Blk w' b T cs) (km:∀(b:Nat) (es:Array MapEntry) (ck:Nat),w.heap[b]? =some (.map es ck)→w'.heap[b]? =some (.map es ck)):LabF T enc w' v f:=by
 rcases h with h|⟨b,ms,es,ck,h1,h2,h3,h4,h5⟩
 ·exact .inl h
 ·exact .inr ⟨b,ms,es,ck,h1,km _ _ _ h2,h3,fun k u hk=>⟨(h4 k u hk).1,(h4 k u hk).2.mono kr⟩,h5⟩
theorem LabF.congr {α:Type} {enc:α→Value} {f f':ByteArray→List α} (h:LabF T enc w v f) (e:∀k,f k=f' k):LabF T enc w v f':=by
 have:f=f':=funext e
 subst this;exact h
def fT (s:PSample) (k:ByteArray):List ByteArray:=((s.texts.find? fun t=>t.key=k).map (·.list)).getD []
def fN (s:PSample) (k:ByteArray):List Int:=((s.nums.find? fun t=>t.key=k).map (·.list)).getD []
theorem LbsS.ft {es:List LE} (h:LbsS es s) (k:ByteArray):keyT es k=fT s k:=by
 unfold fT
 cases hf:s.texts.find? fun t=>t.key=k with
 |some t=>
  have h1:=List.find?_some hf
  have h2:=List.mem_of_find?_eq_some hf
  simp only[decide_eq_true_eq]at h1
  rw[← h1];exact h.t t h2
 |none=>
  simp only[Option.map_none,Option.getD_none]
  unfold keyT
  rw[List.filterMap_eq_nil_iff]
  intro e he
  split
  ·next hk=>
   cases hv:e.2.1 with
   |none=>rfl
   |some v=>
    obtain ⟨t,ht,hte⟩:=List.mem_map.1 (h.tk e he v hv)
    have:=List.find?_eq_none.1 hf t ht
    simp only[decide_eq_true_eq]at this
    exact absurd (hte.trans hk) this
  ·rfl
theorem LbsS.fn {es:List LE} (h:LbsS es s) (k:ByteArray):keyN es k=fN s k:=by
 unfold fN
 cases hf:s.nums.find? fun t=>t.key=k with
 |some t=>
  have h1:=List.find?_some hf
  have h2:=List.mem_of_find?_eq_some hf
  simp only[decide_eq_true_eq]at h1
  rw[← h1];exact h.n t h2
 |none=>
  simp only[Option.map_none,Option.getD_none]
  unfold keyN
  rw[List.filterMap_eq_nil_iff]
  intro e he
  split
  ·next hk=>
   obtain ⟨t,ht,hte⟩:=List.mem_map.1 (h.nk e he hk.2)
   have:=List.find?_eq_none.1 hf t ht
   simp only[decide_eq_true_eq]at this
   exact absurd (hte.trans hk.1) this
  ·rfl
def idM (ids:List Int) (bs:List Nat):List (Int×Value):=ids.zip (bs.map ptr)
structure MapId (w:World) (mb:Nat) (ids:List Int) (bs:List Nat):Prop where
 ex:∃es ck,w.heap[mb]? =some (.map (List.toArray es) ck)∧MEnc (Value.int .u64) (idM ids bs) es ck
theorem MapId.keep (h:MapId w mb ids bs) (k:∀es ck,w.heap[mb]? =some (.map es ck)→w'.heap[mb]? =some (.map es ck)):MapId w' mb ids bs:=by
 obtain ⟨es,ck,h1,h2⟩:=h.ex
 exact ⟨es,ck,k _ _ h1,h2⟩
theorem idM_keys (h:ids.length=bs.length):(idM ids bs).map (·.1)=ids:=by
 unfold idM;rw[List.map_fst_zip];simp;omega
theorem idM_push {id:Int} (h:ids.length=bs.length):idM (ids++[id]) (bs++[b])=idM ids bs++[(id,ptr b)]:=by
 unfold idM
 rw[List.map_append,List.zip_append (by simpa using h)];rfl
theorem idM_mset {id:Int} (h:ids.length=bs.length) (hn:id∉ids):mset (idM ids bs) id (ptr b)=idM (ids++[id]) (bs++[b]):=by
 rw[idM_push h,msetNew]
 rw[idM_keys h];exact hn
theorem mget_mem' {κ:Type} [DecidableEq κ]:∀{ms:List (κ×Value)} {k:κ} {v:Value},(ms.map (·.1)).Nodup→(k,v)∈ms→mget ms k=some v
 |[],_,_,_,h=>by cases h
 |(k',u)::r,k,v,hn,h=>by
     rw[mget_cons]
     have hn':=List.nodup_cons.1 (by simpa using hn:(k'::r.map (·.1)).Nodup)
     rcases List.mem_cons.1 h with h|h
     ·cases h;simp
     ·have:¬k=k':=fun e=>hn'.1 (by rw[← e];exact List.mem_map_of_mem (f:=(·.1)) h)
      have:¬k'=k:=fun e=>this e.symm
      first
       |rw[if_neg this];exact mget_mem' hn'.2 h
       |rw[if_neg ‹¬k=k'›];exact mget_mem' hn'.2 h
theorem idM_get (hl:ids.length=bs.length) (h0:(0:Int)∉ids) (hn:ids.Nodup) (hz:z<ids.length):(mget (idM ids bs) (idAt ids z)).getD (.pointer none)=ptrAt bs z:=by
 unfold idAt ptrAt
 by_cases h:0≤z
 ·rw[if_pos h,if_pos h]
  have hk:z.toNat<ids.length:=by omega
  rw[List.getD_eq_getElem?_getD,List.getElem?_eq_getElem hk,Option.getD_some]
  have hm:(ids[z.toNat],ptr bs[z.toNat])∈idM ids bs:=by
   have:(idM ids bs)[z.toNat]? =some (ids[z.toNat],ptr bs[z.toNat]):=by
    unfold idM
    rw[List.getElem?_zip_eq_some]
    exact ⟨List.getElem?_eq_getElem hk,by rw[List.getElem?_map,List.getElem?_eq_getElem (by omega)];rfl⟩
   exact List.mem_of_getElem? this
  rw[mget_mem' (by rw[idM_keys hl];exact hn) hm,Option.getD_some,List.getElem?_eq_getElem (by omega)]
  rfl
 ·rw[if_neg h,if_neg h]
  have:mget (idM ids bs) 0=none:=mget_none.2 (by rw[idM_keys hl];exact h0)
  rw[this];rfl
def SamQ (w:World) (locs:List Nat) (b:Nat) (s:PSample):Prop:=∃ls vs lm nm iv xv,Blk w b tSam [ls,vs,lm,nm,.map none,iv,xv]∧OS pLoc 1 w ls (s.stack.map (ptrAt locs))∧OS tI64 1 w vs (s.values.map (.int .i64))∧LabF tStr .string w lm (fT s)∧LabF tI64 (.int .i64) w nm (fN s)∧scal iv=true∧scal xv=true
theorem SamQ.mono {locs:List Nat} (h:SamQ w locs b s) (k:∀cs,Blk w b tSam cs→Blk w' b tSam cs) (k1:∀b cs,Blk w b pLoc cs→Blk w' b pLoc cs) (k2:∀b cs,Blk w b tI64 cs→Blk w' b tI64 cs) (k3:∀b cs,Blk w b tStr cs→Blk w' b tStr cs) (km:∀(b:Nat) (es:Array MapEntry) (ck:Nat),w.heap[b]? =some (.map es ck)→w'.heap[b]? =some (.map es ck)):SamQ w' locs b s:=by
 obtain ⟨ls,vs,lm,nm,iv,xv,h1,h2,h3,h4,h5,h6⟩:=h
 exact ⟨ls,vs,lm,nm,iv,xv,k _ h1,h2.mono k1,h3.mono k2,h4.mono k3 km,h5.mono k2 km,h6⟩
def LocQ (B:Nat) (w:World) (g:G) (b:Nat) (l:PLoc):Prop:=∃p c,Blk w b tLoc (cLoc g.maps l (.slice p l.lines.length c))∧Rw (LP B g.locs b) tLine 3 w p l.lines.length c (l.lines.flatMap (cLine g.funs))
theorem LocQ.mono {l:PLoc} (h:LocQ B w g b l) (k:∀cs,Blk w b tLoc cs→Blk w' b tLoc cs) (k2:∀r cs,LP B g.locs b r→Blk w r tLine cs→Blk w' r tLine cs):LocQ B w' g b l:=by
 obtain ⟨p,c,h1,h2⟩:=h
 exact ⟨p,c,k _ h1,h2.mono fun r cs hr hk=>⟨k2 r cs hr hk,hr⟩⟩
theorem LocQ.p {l:PLoc} (h:LocQ B w g b l):LocP w g.maps g.funs b l:=by
 obtain ⟨p,c,h1,h2⟩:=h
 exact ⟨_,h1,h2.os⟩
structure QS (B:Nat) (w0:World) (T:List ByteArray) (x:PProf) (g:G) (n1 n2 n3 n4 n5:Nat) (w:World):Prop where
 fr:Fr B wP w0 w
 pt:Pg n1 g.types x.types (φT w) (rVT T w)
 ps:Pg n2 g.sams x.samples (SamQ w g.locs) (rSm x T (fun b=>B≤b) w)
 pm:Pg n3 g.maps x.mappings (φM w) (rMp T w)
 pl:Pg n4 g.locs x.locs (LocQ B w g) (fun b l=>rLc x (LP B g.locs b) w b l)
 pf:Pg n5 g.funs x.funcs (φF w) (rFn T w)
 pe:∀cs,g.per∉g.types→Blk w0 g.per tVT cs→Blk w g.per tVT cs
theorem QS.keep {T:List ByteArray} {x:PProf} {n2:Nat} (h:QS B w0 T x g n1 n2 n3 n4 n5 w) (k:KeepX [] w w'):QS B w0 T x g n1 n2 n3 n4 n5 w':=by
 have kb:∀(T:Nat) b cs,Blk w b T cs→Blk w' b T cs:=fun T b cs hb=>k.blk hb (by simp)
 have km:∀(b:Nat) (es:Array MapEntry) (ck:Nat),w.heap[b]? =some (.map es ck)→w'.heap[b]? =some (.map es ck):=fun b es ck hb=>k.keep _ _ hb (by simp)
 exact ⟨frK h.fr k (by simp),h.pt.mono (fun b x hh=>kb _ _ _ hh) (fun b x hh=>hh.mono (kb _ _)),
  h.ps.mono (fun b x hh=>hh.mono (kb _ _) (kb _) (kb _) (kb _) km) (fun b x hh=>hh.mono (kb _ _) (fun b cs hb hk=>⟨kb _ _ _ hk,hb⟩) (fun b cs hb hk=>⟨kb _ _ _ hk,hb⟩) (fun b cs hb hk=>⟨kb _ _ _ hk,hb⟩)),
  h.pm.mono (fun b x hh=>kb _ _ _ hh) (fun b x hh=>hh.mono (kb _ _)),h.pl.mono (fun b x hh=>hh.mono (kb _ _) fun r cs _=>kb _ r cs) (fun b x hh=>hh.mono (kb _ _) (fun b cs hb hk=>⟨kb _ _ _ hk,hb⟩)),
  h.pf.mono (fun b x hh=>kb _ _ _ hh) (fun b x hh=>hh.mono (kb _ _)),fun cs hn hb=>kb _ _ _ (h.pe cs hn hb)⟩
theorem QS.init {T:List ByteArray} {x:PProf} {vp:Value} (h:RawP B T x g vp w0) (k:Fr 0 [] w0 w):QS B w0 T x g 0 0 0 0 0 w:=
 QS.keep (w:=w0) ⟨Fr.refl _ _ _,fun i b y hb hy=>⟨fun h=>by omega,fun _=>h.types.2 i b y hb hy⟩,fun i b y hb hy=>⟨fun h=>by omega,fun _=>h.sams.2 i b y hb hy⟩,fun i b y hb hy=>⟨fun h=>by omega,fun _=>h.maps.2 i b y hb hy⟩,fun i b y hb hy=>⟨fun h=>by omega,fun _=>h.locs.2 i b y hb hy⟩,fun i b y hb hy=>⟨fun h=>by omega,fun _=>h.funs.2 i b y hb hy⟩,fun _ _ hb=>hb⟩ (KeepX.of k)
def Tn (w0 u:World) (b:Nat) (L:List Nat):Prop:=∀c∈L,c=b∨(w0.heap.size≤c∧∃es ck,u.heap[c]? =some (.map es ck))
theorem Tn.other {Tc:Nat} {L:List Nat} (h:Tn w0 u b L) (hbk:Blk u b Tc cs) (k:KeepX L u w'):∀T0,T0≠Tc→∀c ds,Blk u c T0 ds→Blk w' c T0 ds:=fun T0 hT c ds hc=>k.blk hc fun hm=>by
 rcases h c hm with rfl|⟨-,es,ck,hmap⟩
 ·exact (hc.ne hbk hT) rfl
 ·have h1:u.heap[c]? =some (.cells ds.toArray T0 (0,0)):=hc
  rw[hmap]at h1;cases h1
theorem Tn.same {Tc:Nat} {L:List Nat} (h:Tn w0 u b L) (k:KeepX L u w'):∀c ds,c≠b→Blk u c Tc ds→Blk w' c Tc ds:=fun c ds hne hc=>k.blk hc fun hm=>by
 rcases h c hm with rfl|⟨-,es,ck,hmap⟩
 ·exact hne rfl
 ·have h1:u.heap[c]? =some (.cells ds.toArray Tc (0,0)):=hc
  rw[hmap]at h1;cases h1
theorem Tn.fr {Tc:Nat} {L:List Nat} (h:Tn w0 u b L) (hf:Fr B wP w0 u) (hbk:Blk u b Tc cs) (hB:B≤b) (hT:Tc∈wP) (k:KeepX L u w'):Fr B wP w0 w':=frK hf k fun c hc=>by
 rcases h c hc with rfl|⟨h1, -⟩
 ·exact .inr ⟨hB,tag_row hbk hT⟩
 ·exact .inl h1
theorem QS.s1 {T:List ByteArray} {x:PProf} {t:PType} {L:List Nat} (h:QS B w0 T x g n1 0 n3 n4 n5 u) (hn:g.types.Nodup) (hb:g.types[n1]? =some b) (hx:x.types[n1]? =some t) (hB:B≤b) (hbk:Blk u b tVT cs) (k:KeepX L u w') (hL:Tn w0 u b L) (hφ:φT w' b t):QS B w0 T x g (n1+1) 0 n3 n4 n5 w':=by
 have kO:=hL.other hbk k
 have kS:=hL.same (Tc:=tVT) k
 exact ⟨hL.fr h.fr hbk hB (by decide) k,h.pt.step hn hb hx (fun c y hne hh=>kS _ _ hne hh) (fun c y hne hh=>hh.mono fun cs=>kS _ cs hne) hφ,fun i c y hc hy=>⟨fun hi=>by omega,fun hi=>((h.ps i c y hc hy).2 hi).mono (kO _ (by decide) _) (fun b cs hb hk=>⟨kO _ (by decide) _ _ hk,hb⟩) (fun b cs hb hk=>⟨kO _ (by decide) _ _ hk,hb⟩) (fun b cs hb hk=>⟨kO _ (by decide) _ _ hk,hb⟩)⟩,h.pm.mono (fun c y hh=>kO _ (by decide) _ _ hh) (fun c y hh=>hh.mono (kO _ (by decide) _)),
  h.pl.mono (fun c y hh=>hh.mono (kO _ (by decide) _) fun r cs _=>kO _ (by decide) r cs) (fun c y hh=>hh.mono (kO _ (by decide) _) (fun b cs hb hk=>⟨kO _ (by decide) _ _ hk,hb⟩)),h.pf.mono (fun c y hh=>kO _ (by decide) _ _ hh) (fun c y hh=>hh.mono (kO _ (by decide) _)),fun cs hn' hb'=>kS _ _ (fun e=>hn' (e▸List.mem_of_getElem? hb)) (h.pe cs hn' hb')⟩
theorem QS.s3 {T:List ByteArray} {x:PProf} {t:PMapping} {L:List Nat} (h:QS B w0 T x g n1 0 n3 n4 n5 u) (hn:g.maps.Nodup) (hb:g.maps[n3]? =some b) (hx:x.mappings[n3]? =some t) (hB:B≤b) (hbk:Blk u b tMap cs) (k:KeepX L u w') (hL:Tn w0 u b L) (hφ:φM w' b t):QS B w0 T x g n1 0 (n3+1) n4 n5 w':=by
 have kO:=hL.other hbk k
 have kS:=hL.same (Tc:=tMap) k
 exact ⟨hL.fr h.fr hbk hB (by decide) k,h.pt.mono (fun c y hh=>kO _ (by decide) _ _ hh) (fun c y hh=>hh.mono (kO _ (by decide) _)),fun i c y hc hy=>⟨fun hi=>by omega,fun hi=>((h.ps i c y hc hy).2 hi).mono (kO _ (by decide) _) (fun b cs hb hk=>⟨kO _ (by decide) _ _ hk,hb⟩) (fun b cs hb hk=>⟨kO _ (by decide) _ _ hk,hb⟩) (fun b cs hb hk=>⟨kO _ (by decide) _ _ hk,hb⟩)⟩,h.pm.step hn hb hx (fun c y hne hh=>kS _ _ hne hh) (fun c y hne hh=>hh.mono fun cs=>kS _ cs hne) hφ,
  h.pl.mono (fun c y hh=>hh.mono (kO _ (by decide) _) fun r cs _=>kO _ (by decide) r cs) (fun c y hh=>hh.mono (kO _ (by decide) _) (fun b cs hb hk=>⟨kO _ (by decide) _ _ hk,hb⟩)),h.pf.mono (fun c y hh=>kO _ (by decide) _ _ hh) (fun c y hh=>hh.mono (kO _ (by decide) _)),fun cs hn' hb'=>kO _ (by decide) _ _ (h.pe cs hn' hb')⟩
theorem QS.s5 {T:List ByteArray} {x:PProf} {t:PFunc} {L:List Nat} (h:QS B w0 T x g n1 0 n3 n4 n5 u) (hn:g.funs.Nodup) (hb:g.funs[n5]? =some b) (hx:x.funcs[n5]? =some t) (hB:B≤b) (hbk:Blk u b tFun cs) (k:KeepX L u w') (hL:Tn w0 u b L) (hφ:φF w' b t):QS B w0 T x g n1 0 n3 n4 (n5+1) w':=by
 have kO:=hL.other hbk k
 have kS:=hL.same (Tc:=tFun) k
 exact ⟨hL.fr h.fr hbk hB (by decide) k,h.pt.mono (fun c y hh=>kO _ (by decide) _ _ hh) (fun c y hh=>hh.mono (kO _ (by decide) _)),fun i c y hc hy=>⟨fun hi=>by omega,fun hi=>((h.ps i c y hc hy).2 hi).mono (kO _ (by decide) _) (fun b cs hb hk=>⟨kO _ (by decide) _ _ hk,hb⟩) (fun b cs hb hk=>⟨kO _ (by decide) _ _ hk,hb⟩) (fun b cs hb hk=>⟨kO _ (by decide) _ _ hk,hb⟩)⟩,h.pm.mono (fun c y hh=>kO _ (by decide) _ _ hh) (fun c y hh=>hh.mono (kO _ (by decide) _)),
  h.pl.mono (fun c y hh=>hh.mono (kO _ (by decide) _) fun r cs _=>kO _ (by decide) r cs) (fun c y hh=>hh.mono (kO _ (by decide) _) (fun b cs hb hk=>⟨kO _ (by decide) _ _ hk,hb⟩)),h.pf.step hn hb hx (fun c y hne hh=>kS _ _ hne hh) (fun c y hne hh=>hh.mono fun cs=>kS _ cs hne) hφ,fun cs hn' hb'=>kO _ (by decide) _ _ (h.pe cs hn' hb')⟩
theorem QS.s4 {T:List ByteArray} {x:PProf} {rb:Nat} {t:PLoc} {L:List Nat} (h:QS B w0 T x g n1 0 n3 n4 n5 u) (hn:g.locs.Nodup) (hb:g.locs[n4]? =some b) (hx:x.locs[n4]? =some t) (hB:B≤b) (hbk:Blk u b tLoc cs) (hrow:∀c∈L,c≠b→(w0.heap.size≤c∧∃es ck,u.heap[c]? =some (.map es ck))∨(c=rb∧(∃ds,Blk u c tLine ds)∧B≤c∧b≤c∧∀b'∈g.locs,b<b'→c<b')) (k:KeepX L u w')
  (hφ:LocQ B w' g b t):QS B w0 T x g n1 0 n3 (n4+1) n5 w':=by
 have kO:∀T0,T0≠tLoc→T0≠tLine→∀c ds,Blk u c T0 ds→Blk w' c T0 ds:=fun T0 h1 h2 c ds hc=>k.blk hc fun hm=>by
  by_cases e:c=b
  ·subst e;exact (hc.ne hbk h1) rfl
  ·rcases hrow c hm e with ⟨-,es,ck,hmap⟩|⟨-,⟨ds',hd⟩, -⟩
   ·have h3:u.heap[c]? =some (.cells ds.toArray T0 (0,0)):=hc
    rw[hmap]at h3;cases h3
   ·exact (hc.ne hd h2) rfl
 have kS:∀c ds,c≠b→Blk u c tLoc ds→Blk w' c tLoc ds:=fun c ds hne hc=>k.blk hc fun hm=>by
  rcases hrow c hm hne with ⟨-,es,ck,hmap⟩|⟨-,⟨ds',hd⟩, -⟩
  ·have h3:u.heap[c]? =some (.cells ds.toArray tLoc (0,0)):=hc
   rw[hmap]at h3;cases h3
  ·exact (hc.ne hd (by decide)) rfl
 refine ⟨frK h.fr k fun c hc=>?_,h.pt.mono (fun c y hh=>kO _ (by decide) (by decide) _ _ hh) (fun c y hh=>hh.mono (kO _ (by decide) (by decide) _)),fun i c y hc hy=>⟨fun hi=>by omega,fun hi=>((h.ps i c y hc hy).2 hi).mono (kO _ (by decide) (by decide) _) (fun b cs hb hk=>⟨kO _ (by decide) (by decide) _ _ hk,hb⟩) (fun b cs hb hk=>⟨kO _ (by decide) (by decide) _ _ hk,hb⟩) (fun b cs hb hk=>⟨kO _ (by decide) (by decide) _ _ hk,hb⟩)⟩,h.pm.mono (fun c y hh=>kO _ (by decide) (by decide) _ _ hh) (fun c y hh=>hh.mono (kO _ (by decide) (by decide) _)),fun i c y hc hy=>?_,h.pf.mono (fun c y hh=>kO _ (by decide) (by decide) _ _ hh) (fun c y hh=>hh.mono (kO _ (by decide) (by decide) _)),fun cs hn' hb'=>kO _ (by decide) (by decide) _ _ (h.pe cs hn' hb')⟩
 ·by_cases e:c=b
  ·subst e;exact .inr ⟨hB,tag_row hbk (by decide)⟩
  ·rcases hrow c hc e with ⟨h1, -⟩|⟨-,⟨ds',hd⟩,h1, -⟩
   ·exact .inl h1
   ·exact .inr ⟨h1,tag_row hd (by decide)⟩
 ·have key:i≠n4→c≠b∧∀r ds,LP B g.locs c r→Blk u r tLine ds→Blk w' r tLine ds:=fun hi=>by
   have hne:c≠b:=fun e=>by
    subst e
    have l1:=(List.getElem?_eq_some_iff.1 hc).1
    have l2:=(List.getElem?_eq_some_iff.1 hb).1
    rw[List.getElem?_eq_getElem l1]at hc
    rw[List.getElem?_eq_getElem l2]at hb
    exact hi (nodup_ix hn l1 l2 (by simp at hc hb;rw[hc,hb]))
   refine ⟨hne,fun r ds hr hk=>k.blk hk fun hm=>?_⟩
   by_cases e:r=b
   ·subst e;exact (hk.ne hbk (by decide)) rfl
   ·rcases hrow r hm e with ⟨-,es,ck,hmap⟩|⟨-, -, -,h4,h5⟩
    ·have h3:u.heap[r]? =some (.cells ds.toArray tLine (0,0)):=hk
     rw[hmap]at h3;cases h3
    ·obtain ⟨-,h6,h7⟩:=hr
     rcases Nat.lt_trichotomy b c with h8|h8|h8
     ·have:=h5 c (List.mem_of_getElem? hc) h8;omega
     ·exact hne h8.symm
     ·have:=h7 b (List.mem_of_getElem? hb) h8;omega
  refine ⟨fun hi=>?_,fun hi=>?_⟩
  ·by_cases e:i=n4
   ·subst e
    rw[hb]at hc;rw[hx]at hy
    cases hc;cases hy
    exact hφ
   ·obtain ⟨hne,hr⟩:=key e
    exact ((h.pl i c y hc hy).1 (by omega)).mono (fun cs=>kS _ cs hne) hr
  ·obtain ⟨hne,hr⟩:=key (by omega)
   exact ((h.pl i c y hc hy).2 (by omega)).mono (fun cs=>kS _ cs hne) fun r ds h1 h2=>⟨hr r ds h1 h2,h1⟩
theorem QS.s2 {T:List ByteArray} {x:PProf} {n2:Nat} {t:PSample} (h:QS B w0 T x g n1 n2 n3 n4 n5 u) (hn:g.sams.Nodup) (hb:g.sams[n2]? =some b) (hx:x.samples[n2]? =some t) (hB:B≤b) (hbk:Blk u b tSam cs) (k:KeepX [b] u w') (hφ:SamQ w' g.locs b t):QS B w0 T x g n1 (n2+1) n3 n4 n5 w':=by
 have kO:∀T0,T0≠tSam→∀c ds,Blk u c T0 ds→Blk w' c T0 ds:=fun T0 hT c ds hc=>k.blk hc (by simpa using hc.ne hbk hT)
 have km:∀(c:Nat) (es:Array MapEntry) (ck:Nat),u.heap[c]? =some (.map es ck)→w'.heap[c]? =some (.map es ck):=fun c es ck hc=>k.keep _ _ hc fun hm=>by
  simp at hm
  subst hm
  have h1:u.heap[c]? =some (.cells cs.toArray tSam (0,0)):=hbk
  rw[hc]at h1;cases h1
 have kS:∀c ds,c≠b→Blk u c tSam ds→Blk w' c tSam ds:=fun c ds hne hc=>k.blk hc (by simpa using hne)
 exact ⟨frK h.fr k fun c hc=>by simp at hc;subst hc;exact .inr ⟨hB,tag_row hbk (by decide)⟩,h.pt.mono (fun c y hh=>kO _ (by decide) _ _ hh) (fun c y hh=>hh.mono (kO _ (by decide) _)),
  h.ps.step hn hb hx (fun c y hne hh=>hh.mono (fun cs=>kS _ cs hne) (kO _ (by decide)) (kO _ (by decide)) (kO _ (by decide)) km) (fun c y hne hh=>hh.mono (fun cs=>kS _ cs hne) (fun b cs hb hk=>⟨kO _ (by decide) _ _ hk,hb⟩) (fun b cs hb hk=>⟨kO _ (by decide) _ _ hk,hb⟩) (fun b cs hb hk=>⟨kO _ (by decide) _ _ hk,hb⟩)) hφ,
  h.pm.mono (fun c y hh=>kO _ (by decide) _ _ hh) (fun c y hh=>hh.mono (kO _ (by decide) _)),h.pl.mono (fun c y hh=>hh.mono (kO _ (by decide) _) fun r cs _=>kO _ (by decide) r cs) (fun c y hh=>hh.mono (kO _ (by decide) _) (fun b cs hb hk=>⟨kO _ (by decide) _ _ hk,hb⟩)),
  h.pf.mono (fun c y hh=>kO _ (by decide) _ _ hh) (fun c y hh=>hh.mono (kO _ (by decide) _)),fun cs hn' hb'=>kO _ (by decide) _ _ (h.pe cs hn' hb')⟩
end Go.Proofs.YtifdadlhmlhfiaaGreatDoor
namespace Go.Fw
open Go
variable {y:Ent} {W:List Nat} {xs:List Value} {T c j l o sz:Nat} {p:Option Addr} {v:Value}
section
variable {P:Program} {c:Code} {Q:Exit→Act→World→Prop} {n:Nat} {e:Env}
theorem CJ.turnW {ws:World} {H:Heap} (hH:Hp ⟨ws,0,W⟩ ws H) (h:CJ P c Q n ⟨ws,0,W⟩ e H):CJ P c Q n ⟨ws,0,[]⟩ e []:=fun w _ hf=>h w (hH.fr hf) (hf.quiet 0 W)
end
theorem osCellX {w w1:World} {B:Nat} {W1:List Nat} {b:Nat} {k:Nat} (hF:Fr B W w w1) (hW:W.all (fun t=> !Nat.beq t T)=true) (hW1:W1.all (fun t=> !Nat.beq t T)=true) (hc:∀f:Fm,f.ws=w→f.W.all (fun t=> !Nat.beq t T)=true→∀w',f.ok w'→∀(j:Nat) (u:Value),xs[j]? =some u→w'.cell? ⟨b,j,none⟩=some u) (hv:xs[k]? =some v):
  ∀w',Fm.ok ⟨w1,0,W1⟩ w'→∀(j:Nat) (u:Value),[v][j]? =some u→w'.cell? ⟨b,0+k*1+j,none⟩=some u:=fun w' kp j u hu=>by
 cases j with
 |zero=>
  simp at hu;subst hu
  have h1:Fm.ok ⟨w,0,W++W1⟩ w':=Fr.trans (hF.mono (.inr ⟨Nat.zero_le _,fun _ h=>List.mem_append_left _ h⟩)) (Fr.mono kp (B':=0) (W':=W++W1) (.inr ⟨Nat.le_refl _,fun _ h=>List.mem_append_right _ h⟩)) (.inr ⟨Nat.le_refl _,fun _ h=>h⟩)
  simpa using hc ⟨w,0,W++W1⟩ rfl (by simp only[List.all_append,hW,hW1,Bool.and_self]) w' h1 k v hv
 |succ j=>simp at hu
theorem setL_get {cs:List Value} (h:o<cs.length):(setL cs o [v])[j]? =if j=o then some v else cs[j]? :=by
 have:setL cs o [v]=cs.set o v:=by
  simp only[setL]
 rw[this,List.getElem?_set]
 by_cases e:o=j
 ·subst e;simp[h]
 ·rw[if_neg e,if_neg (Ne.symm e)]
theorem Own.put (h:Own T sz y p l c xs) (ho:o<xs.length):Own T sz ⟨y.b,y.T,setL y.cs o [v],true,true,none⟩ p l c (xs.set o v):=by
 obtain ⟨h1,h2,h3⟩:=h.sl
 have hl:0<l:=by
  rcases Nat.eq_zero_or_pos l with e|e
  ·subst e;simp at h1;rw[h1]at ho;simp at ho
  ·exact e
 rcases h3 with ⟨h4,h5,⟨ex,h6⟩,h7⟩|⟨h4, -,h7⟩
 ·have hs:setL y.cs o [v]=xs.set o v++ex:=by
   have:setL y.cs o [v]=y.cs.set o v:=by simp only[setL]
   rw[this,h6,List.set_append_left _ _ ho]
  exact ⟨h.hT,rfl,rfl,by simpa using h1,h2,.inl ⟨rfl,h5,⟨ex,hs⟩,by rw[hs,List.length_append,List.length_set, ← List.length_append, ← h6];exact h7⟩⟩
 ·omega
theorem Own.at_ (h:Own T sz y p l c xs) {u:Value} (hj:xs[j]? =some u):y.on=true∧p=some ⟨y.b,0,none⟩∧y.cs[j]? =some u:=by
 have hl:=(List.getElem?_eq_some_iff.1 hj).1
 obtain ⟨h1,h2,h3⟩:=h.sl
 rcases h3 with ⟨h4,h5,⟨ex,h6⟩,h7⟩|⟨h4, -,h7⟩
 ·exact ⟨h4,h5,by rw[h6,List.getElem?_append_left hl];exact hj⟩
 ·subst h7;have:l=0:=by omega
  subst this;simp at h1;rw[h1]at hl;simp at hl
end Go.Fw
namespace Go.Proofs.YtifdadlhmlhfiaaGreatDoor
open Go Go.Fw Go.Proofs Go.Proofs.Tryz
variable {y:Ent} {g:G} {z:Int} {T':List ByteArray} {ids:List Int} {bs:List Nat} {cs:List Value} {B T b i j mb n1 n3 n4 n5:Nat} {v:Value} {u w w' w0:World}
theorem MapId.step {k:Nat} {id:Int} (hl:bs.length=ids.length) (hn:ids.Nodup) (hi:ids[k]? =some id) (hb:bs[k]? =some b) {es':List MapEntry} {ck':Nat} (hm:w'.heap[mb]? =some (.map es'.toArray ck')) (hM:MEnc (Value.int .u64) (mset (idM (ids.take k) (bs.take k)) id (ptr b)) es' ck'):MapId w' mb (ids.take (k+1)) (bs.take (k+1)):=by
 have hk:=(List.getElem?_eq_some_iff.1 hi).1
 have hkb:=(List.getElem?_eq_some_iff.1 hb).1
 rw[idM_mset (by simp[hl]) (fun hm=>by
  obtain ⟨j,hj,e⟩:=List.mem_take_iff_getElem.1 hm
  have h1:=(List.getElem?_eq_some_iff.1 hi).2
  have:=nodup_ix hn (by omega) hk (e.trans h1.symm)
  omega)]at hM
 refine ⟨es',ck',hm,?_⟩
 rw[← List.take_append_getElem hk, ← List.take_append_getElem hkb,(List.getElem?_eq_some_iff.1 hi).2,(List.getElem?_eq_some_iff.1 hb).2]
 exact hM
theorem MapId.lt (h:MapId w mb ids bs):mb<w.heap.size:=by
 obtain ⟨es,ck,h1, -⟩:=h.ex
 exact (Array.getElem?_eq_some_iff.1 h1).1
theorem MapId.other {L:List Nat} (h:MapId w mb ids bs) (k:KeepX L w w') (hL:mb∉L):MapId w' mb ids bs:=h.keep fun es ck hm=>k.keep _ _ hm hL
theorem MapId.neB (h:MapId w mb ids bs) (hb:Blk w b T cs):mb≠b:=fun e=>by
 obtain ⟨es,ck,h1, -⟩:=h.ex
 have h2:w.heap[b]? =some (.cells cs.toArray T (0,0)):=hb
 rw[← e,h1]at h2;cases h2
theorem MapId.has (h:MapId w mb ids bs) (hl:ids.length=bs.length) (h0:(0:Int)∉ids) (hn:ids.Nodup) (hz:z<ids.length):MapHas (Value.int .u64) mb (idAt ids z) (.pointer none) (ptrAt bs z) w:=by
 obtain ⟨es,ck,h1,h2⟩:=h.ex
 exact ⟨_,es,ck,h1,h2,idM_get hl h0 hn hz⟩
section
variable {ops:Array Oper} {Q:Exit→Act→World→Prop} {n:Nat} {f:Fm} {e:Env} {H:Heap} {rest:List Oper} {d ty:Nat} {pos:String} {af:Array Edge}
theorem j_put {t:Nat} {x z:Operand} {o:Nat} (i:Nat) (hy:H[i]? =some y) (ho:y.on=true) (hob:y.ob=none) (hwr:y.wr=true) (hsz:∀w,(sizeOf t).run Tryz.prog w=.ok 1 w) (hx:ev e x=some (.pointer (some ⟨y.b,o,none⟩))) (hz:ev e z=some v) (hc:v.cells= #[v]) (hs:scal v=true) (hl:o<y.cs.length)
  (k:J Tryz.prog ops Q n f e (putH H i ⟨y.b,y.T,setL y.cs o [v],true,true,none⟩) rest):J Tryz.prog ops Q n f e H (⟨none,.store t x z,ty,pos,af,none⟩::rest):=by
 refine j_store i hy ho hob hwr hsz hx hz (by rw[hc];rfl) (by rw[hc];simp[hs]) (by rw[hc];exact Nat.ble_eq_true_of_le (show o+1≤y.cs.length from hl)) ?_
 rw[hc,setH_put hy,hwr,ho,hob]
 exact k
theorem j_getSg {args:Array Operand} {tys:Array TypeId} {off:Nat} {m:Int} {s:ByteArray} {T:List ByteArray} {tv:Value} (i:Nat) (hy:H[i]? =some y) (ho:y.on=true) (hob:y.ob=none) (hwr:y.wr=true) (hcs:y.cs[off]? =some (.int .i64 m)) (hn:At T m s) (ht:∀w,Hp f w H→f.ok w→OS tStr 1 w tv (T.map .string)) (hTS:Nat.beq y.T tStr=false) (hl:T.length≤1000000000)
  (hargs:evL e args.toList=some [tv,.pointer (some ⟨y.b,off,none⟩),.nilIface]) (hd:Nat.blt d n=true)
  (k:J Tryz.prog ops Q n f ((d,.tuple #[.string s,.nilIface])::e) (putH H i ⟨y.b,y.T,setL y.cs off [.int .i64 0],true,true,none⟩) rest):
  J Tryz.prog ops Q n f e H (⟨some d,.call ⟨.value (.func 106),args,tys⟩,ty,pos,af,none⟩::rest):=
 j_callX (φ:=fun v cs'=>v=.tuple #[.string s,.nilIface]∧cs'=setL y.cs off [.int .i64 0]) i hy ho hob hwr Tryz.call106 hargs hd
  (fun w hH hf=>Calls.mono (getString_c w y.b y.T off y.cs T m s tv (hH.get hy ho) hcs hn (ht w hH hf) hTS hl) (Ret.mono fun _ _ h=>⟨_,⟨h.1,rfl⟩,h.2.1,h.2.2⟩))
  fun v cs' ⟨h1,h2⟩=>by subst h1;subst h2;exact k
theorem j_getS {args:Array Operand} {tys:Array TypeId} {off:Nat} {m:Int} {s:ByteArray} {T:List ByteArray} {tv:Value} (i:Nat) (hy:H[i]? =some y) (ho:y.on=true) (hob:y.ob=none) (hwr:y.wr=true) (hcs:y.cs[off]? =some (.int .i64 m)) (hn:At T m s) (ht:OS tStr 1 f.ws tv (T.map .string)) (hW:f.W.all (fun t=> !Nat.beq t tStr)=true) (hTS:Nat.beq y.T tStr=false) (hl:T.length≤1000000000)
  (hargs:evL e args.toList=some [tv,.pointer (some ⟨y.b,off,none⟩),.nilIface]) (hd:Nat.blt d n=true)
  (k:J Tryz.prog ops Q n f ((d,.tuple #[.string s,.nilIface])::e) (putH H i ⟨y.b,y.T,setL y.cs off [.int .i64 0],true,true,none⟩) rest):
  J Tryz.prog ops Q n f e H (⟨some d,.call ⟨.value (.func 106),args,tys⟩,ty,pos,af,none⟩::rest):=
 j_getSg i hy ho hob hwr hcs hn (fun _ _ hf=>ht.mono fun _ _ hb=>ok_blk hf hb hW) hTS hl hargs hd k
end
def lnsA (x:PProf) (funs:List Nat) (ls:List PLine) (j:Nat):List Value:=(ls.take j).flatMap (cLine funs)++(ls.drop j).flatMap (cLnR x)
theorem cLine_len (funs:List Nat) (ls:List PLine):(ls.flatMap (cLine funs)).length=ls.length*3:=by
 induction ls with
 |nil=>rfl
 |cons a r ih=>rw[List.flatMap_cons,List.length_append,ih,List.length_cons];simp[cLine];omega
theorem lnsA_zero {x:PProf} {funs:List Nat} {ls:List PLine}:lnsA x funs ls 0=ls.flatMap (cLnR x):=by simp[lnsA]
theorem lnsA_full {x:PProf} {funs:List Nat} {ls:List PLine} (h:ls.length≤j):lnsA x funs ls j=ls.flatMap (cLine funs):=by
 unfold lnsA;rw[List.take_of_length_le h,List.drop_eq_nil_of_le h];simp
theorem lnsA_split {x:PProf} {funs:List Nat} {ls:List PLine} (h:j<ls.length):lnsA x funs ls j=(ls.take j).flatMap (cLine funs)++(cLnR x ls[j]++(ls.drop (j+1)).flatMap (cLnR x)):=by
 unfold lnsA;rw[List.drop_eq_getElem_cons h,List.flatMap_cons]
theorem lnsA_next {x:PProf} {funs:List Nat} {ls:List PLine} (h:j<ls.length):lnsA x funs ls (j+1)=(ls.take j).flatMap (cLine funs)++(cLine funs ls[j]++(ls.drop (j+1)).flatMap (cLnR x)):=by
 unfold lnsA;rw[← List.take_append_getElem h,List.flatMap_append];simp
theorem lnsA_pre {funs:List Nat} {ls:List PLine} (h:j<ls.length):((ls.take j).flatMap (cLine funs)).length=j*3:=by
 rw[cLine_len,List.length_take,Nat.min_eq_left (Nat.le_of_lt h)]
theorem lnsA_get {x:PProf} {funs:List Nat} {ls:List PLine} {u:Value} (h:j<ls.length) (hu:(cLnR x ls[j])[i]? =some u):(lnsA x funs ls j)[j*3+i]? =some u:=by
 have hi:=(List.getElem?_eq_some_iff.1 hu).1
 rw[lnsA_split h,List.getElem?_append_right (by rw[lnsA_pre h];omega),lnsA_pre h,List.getElem?_append_left (by omega),Nat.add_sub_cancel_left]
 exact hu
theorem lnsA_set {x:PProf} {funs:List Nat} {ls:List PLine} (h:j<ls.length):((lnsA x funs ls j).set (j*3) (ptrAt funs ls[j].fn)).set (j*3+2) (.int .u64 0)=lnsA x funs ls (j+1):=by
 rw[lnsA_split h,lnsA_next h,List.set_append_right _ _ (by rw[lnsA_pre h];omega),lnsA_pre h,Nat.sub_self,List.set_append_right _ _ (by rw[lnsA_pre h];omega),lnsA_pre h,Nat.add_sub_cancel_left]
 rfl
theorem lnsA_same {x:PProf} {funs:List Nat} {ls:List PLine} (h:j<ls.length) (h0:(0:Int)∉x.funcs.map (·.id)) (hf:ls[j].fn<x.funcs.length) (hz:fnid x ls[j].fn=0):lnsA x funs ls j=lnsA x funs ls (j+1):=by
 rw[lnsA_split h,lnsA_next h]
 have hn:¬(0≤ls[j].fn):=fun hp=>by
  unfold fnid idAt at hz
  rw[if_pos hp,List.getD_eq_getElem?_getD,List.getElem?_eq_getElem (by simp;omega),Option.getD_some]at hz
  exact h0 (hz▸List.getElem_mem _)
 have e1:cLnR x ls[j]=cLine funs ls[j]:=by
  unfold cLnR cLine ptrAt
  rw[if_neg hn,hz]
 rw[e1]
theorem fn_pos {x:PProf} (hz:fnid x z≠0):0≤z:=by
 rcases Int.lt_or_le z 0 with h|h
 ·exact absurd (by unfold fnid idAt;rw[if_neg (by omega)]) hz
 ·exact h
theorem ptrAt_get (h0:0≤z) (h:z<bs.length):∃b,ptrAt bs z=ptr b:=⟨bs[z.toNat]'(by omega),by unfold ptrAt;rw[if_pos h0,List.getElem?_eq_getElem (by omega)];rfl⟩
theorem kR {S T:List ByteArray} {l W0:List Nat} (k:KeepX l u w') (ht:Tab u mb S T) (hl:∀c∈l,c=mb∨∃T0 cs0,T0∈W0∧Blk u c T0 cs0):∀(c Tt:Nat) (cs:List Value),Tt∉W0→Blk u c Tt cs→Blk w' c Tt cs:=fun c Tt cs hT hb=>k.blk hb fun hm=>by
 rcases hl c hm with rfl|⟨T0,cs0,h0,h1⟩
 ·obtain ⟨es,ck,h2, -⟩:=ht.ex
  have h3:u.heap[c]? =some (.cells cs.toArray Tt (0,0)):=hb
  rw[h2]at h3;cases h3
 ·have h2:u.heap[c]? =some (.cells cs.toArray Tt (0,0)):=hb
  have h3:u.heap[c]? =some (.cells cs0.toArray T0 (0,0)):=h1
  rw[h2]at h3
  have:Tt=T0:=by injection h3 with h3;injection h3
  exact hT (this▸h0)
theorem kB {S T:List ByteArray} (k:KeepX [b,mb] u w') (ht:Tab u mb S T):∀(c Tt:Nat) (cs:List Value),c≠b→Blk u c Tt cs→Blk w' c Tt cs:=fun c Tt cs hT hb=>k.blk hb fun hm=>by
 simp at hm
 rcases hm with hm|rfl
 ·exact hT hm
 ·obtain ⟨es,ck,h2, -⟩:=ht.ex
  have h3:u.heap[c]? =some (.cells cs.toArray Tt (0,0)):=hb
  rw[h2]at h3;cases h3
theorem Full.line {x:PProf} {lines:List PLine} (h:Full x w v lines) (k:∀b cs,Blk w b tLine cs→Blk w' b tLine cs) (hL:LRel (fidV x g) w0 w) (hv:OS tLine 3 w0 v (lines.flatMap (cLine g.funs))):Full x w' v lines:=h.keep k hL hv (by rw[flatMap_len (sz:=3) (fun _=>rfl)];exact Nat.le_refl _)
theorem PS.s1 {x:PProf} {n2:Nat} {T:List ByteArray} {t:PType} (h:PS B w0 mb x g n1 n2 n3 n4 n5 T u) (hmb:w0.heap.size≤mb) (hBb:B≤b) (hn:g.types.Nodup) (hb:g.types[n1]? =some b) (hx:x.types[n1]? =some t) (hp:g.per≠b) (hbk:Blk u b tVT cs) (k:KeepX [b,mb] u w') (p:T<+:T') (tab:Tab w' mb (allS x) T') (hφ:φ1 T' w' b t):PS B w0 mb x g (n1+1) n2 n3 n4 n5 T' w':=by
 have kr:=kR (W0:=[tVT]) k h.tab (fun c hc=>by
  simp at hc
  rcases hc with rfl|rfl
  ·exact .inr ⟨_,_,by simp,hbk⟩
  ·exact .inl rfl)
 exact ⟨tab,prefix_get p h.zero,frK h.fr k (fun c hc=>by
  simp at hc
  rcases hc with rfl|rfl
  ·exact .inr ⟨hBb,tag_row hbk (by simp)⟩
  ·exact .inl hmb),
  h.pt.step hn hb hx (fun b x hne hh=>hh.mono p fun cs=>kB k h.tab _ _ cs hne) (fun b x hne hh=>(fun cs=>kB k h.tab _ _ cs hne) _ hh) hφ,
  h.ps.mono (fun b x hh=>hh.mono p (fun cs=>kr _ _ cs (by decide)) (fun c cs=>kr _ _ cs (by decide)) (fun c cs=>kr _ _ cs (by decide))) (fun b x hh=>hh.mono (fun cs=>kr _ _ cs (by decide))),
  h.pm.mono (fun b x hh=>hh.mono p fun cs=>kr _ _ cs (by decide)) (fun b x hh=>(fun cs=>kr _ _ cs (by decide)) _ hh),
  h.pl.mono (fun b x hh=>hh.mono (fun cs=>kr _ _ cs (by decide)) fun v hv hf=>hf.line (fun b cs=>kr _ _ cs (by decide)) h.lines hv) (fun b x hh=>hh.mono (fun cs=>kr _ _ cs (by decide))),
  h.pf.mono (fun b x hh=>hh.mono p fun cs=>kr _ _ cs (by decide)) (fun b x hh=>(fun cs=>kr _ _ cs (by decide)) _ hh),
  kB k h.tab _ _ _ hp h.per,h.lines.keep fun b cs=>kr _ _ cs (by decide)⟩
theorem PS.s2 {x:PProf} {n2:Nat} {T:List ByteArray} {t:PSample} (h:PS B w0 mb x g n1 n2 n3 n4 n5 T u) (hmb:w0.heap.size≤mb) (hBb:B≤b) (hn:g.sams.Nodup) (hb:g.sams[n2]? =some b) (hx:x.samples[n2]? =some t) (hbk:Blk u b tSam cs) (k:KeepX [b,mb] u w') (p:T<+:T') (tab:Tab w' mb (allS x) T') (hφ:φ2 w0 T' x w' b t):PS B w0 mb x g n1 (n2+1) n3 n4 n5 T' w':=by
 have kr:=kR (W0:=[tSam]) k h.tab (fun c hc=>by
  simp at hc
  rcases hc with rfl|rfl
  ·exact .inr ⟨_,_,by simp,hbk⟩
  ·exact .inl rfl)
 exact ⟨tab,prefix_get p h.zero,frK h.fr k (fun c hc=>by
  simp at hc
  rcases hc with rfl|rfl
  ·exact .inr ⟨hBb,tag_row hbk (by simp)⟩
  ·exact .inl hmb),
  h.pt.mono (fun b x hh=>hh.mono p fun cs=>kr _ _ cs (by decide)) (fun b x hh=>(fun cs=>kr _ _ cs (by decide)) _ hh),
  h.ps.step hn hb hx (fun b x hne hh=>hh.mono p (fun cs=>kB k h.tab _ _ cs hne) (fun c cs=>kr _ _ cs (by decide)) (fun c cs=>kr _ _ cs (by decide))) (fun b x hne hh=>hh.mono (fun cs=>kB k h.tab _ _ cs hne)) hφ,
  h.pm.mono (fun b x hh=>hh.mono p fun cs=>kr _ _ cs (by decide)) (fun b x hh=>(fun cs=>kr _ _ cs (by decide)) _ hh),
  h.pl.mono (fun b x hh=>hh.mono (fun cs=>kr _ _ cs (by decide)) fun v hv hf=>hf.line (fun b cs=>kr _ _ cs (by decide)) h.lines hv) (fun b x hh=>hh.mono (fun cs=>kr _ _ cs (by decide))),
  h.pf.mono (fun b x hh=>hh.mono p fun cs=>kr _ _ cs (by decide)) (fun b x hh=>(fun cs=>kr _ _ cs (by decide)) _ hh),
  kr _ _ _ (by decide) h.per,h.lines.keep fun b cs=>kr _ _ cs (by decide)⟩
theorem PS.s3 {x:PProf} {n2:Nat} {T:List ByteArray} {t:PMapping} (h:PS B w0 mb x g n1 n2 n3 n4 n5 T u) (hmb:w0.heap.size≤mb) (hBb:B≤b) (hn:g.maps.Nodup) (hb:g.maps[n3]? =some b) (hx:x.mappings[n3]? =some t) (hbk:Blk u b tMap cs) (k:KeepX [b,mb] u w') (p:T<+:T') (tab:Tab w' mb (allS x) T') (hφ:φ3 T' w' b t):PS B w0 mb x g n1 n2 (n3+1) n4 n5 T' w':=by
 have kr:=kR (W0:=[tMap]) k h.tab (fun c hc=>by
  simp at hc
  rcases hc with rfl|rfl
  ·exact .inr ⟨_,_,by simp,hbk⟩
  ·exact .inl rfl)
 exact ⟨tab,prefix_get p h.zero,frK h.fr k (fun c hc=>by
  simp at hc
  rcases hc with rfl|rfl
  ·exact .inr ⟨hBb,tag_row hbk (by simp)⟩
  ·exact .inl hmb),
  h.pt.mono (fun b x hh=>hh.mono p fun cs=>kr _ _ cs (by decide)) (fun b x hh=>(fun cs=>kr _ _ cs (by decide)) _ hh),
  h.ps.mono (fun b x hh=>hh.mono p (fun cs=>kr _ _ cs (by decide)) (fun c cs=>kr _ _ cs (by decide)) (fun c cs=>kr _ _ cs (by decide))) (fun b x hh=>hh.mono (fun cs=>kr _ _ cs (by decide))),
  h.pm.step hn hb hx (fun b x hne hh=>hh.mono p fun cs=>kB k h.tab _ _ cs hne) (fun b x hne hh=>(fun cs=>kB k h.tab _ _ cs hne) _ hh) hφ,
  h.pl.mono (fun b x hh=>hh.mono (fun cs=>kr _ _ cs (by decide)) fun v hv hf=>hf.line (fun b cs=>kr _ _ cs (by decide)) h.lines hv) (fun b x hh=>hh.mono (fun cs=>kr _ _ cs (by decide))),
  h.pf.mono (fun b x hh=>hh.mono p fun cs=>kr _ _ cs (by decide)) (fun b x hh=>(fun cs=>kr _ _ cs (by decide)) _ hh),
  kr _ _ _ (by decide) h.per,h.lines.keep fun b cs=>kr _ _ cs (by decide)⟩
theorem PS.s5 {x:PProf} {n2:Nat} {T:List ByteArray} {t:PFunc} (h:PS B w0 mb x g n1 n2 n3 n4 n5 T u) (hmb:w0.heap.size≤mb) (hBb:B≤b) (hn:g.funs.Nodup) (hb:g.funs[n5]? =some b) (hx:x.funcs[n5]? =some t) (hbk:Blk u b tFun cs) (k:KeepX [b,mb] u w') (p:T<+:T') (tab:Tab w' mb (allS x) T') (hφ:φ5 T' w' b t):PS B w0 mb x g n1 n2 n3 n4 (n5+1) T' w':=by
 have kr:=kR (W0:=[tFun]) k h.tab (fun c hc=>by
  simp at hc
  rcases hc with rfl|rfl
  ·exact .inr ⟨_,_,by simp,hbk⟩
  ·exact .inl rfl)
 exact ⟨tab,prefix_get p h.zero,frK h.fr k (fun c hc=>by
  simp at hc
  rcases hc with rfl|rfl
  ·exact .inr ⟨hBb,tag_row hbk (by simp)⟩
  ·exact .inl hmb),
  h.pt.mono (fun b x hh=>hh.mono p fun cs=>kr _ _ cs (by decide)) (fun b x hh=>(fun cs=>kr _ _ cs (by decide)) _ hh),
  h.ps.mono (fun b x hh=>hh.mono p (fun cs=>kr _ _ cs (by decide)) (fun c cs=>kr _ _ cs (by decide)) (fun c cs=>kr _ _ cs (by decide))) (fun b x hh=>hh.mono (fun cs=>kr _ _ cs (by decide))),
  h.pm.mono (fun b x hh=>hh.mono p fun cs=>kr _ _ cs (by decide)) (fun b x hh=>(fun cs=>kr _ _ cs (by decide)) _ hh),
  h.pl.mono (fun b x hh=>hh.mono (fun cs=>kr _ _ cs (by decide)) fun v hv hf=>hf.line (fun b cs=>kr _ _ cs (by decide)) h.lines hv) (fun b x hh=>hh.mono (fun cs=>kr _ _ cs (by decide))),
  h.pf.step hn hb hx (fun b x hne hh=>hh.mono p fun cs=>kB k h.tab _ _ cs hne) (fun b x hne hh=>(fun cs=>kB k h.tab _ _ cs hne) _ hh) hφ,
  kr _ _ _ (by decide) h.per,h.lines.keep fun b cs=>kr _ _ cs (by decide)⟩
def LS (fid:Value→Int) (cs0 cs cs':List Value):Prop:=∀(j:Nat),cs'[j]? =cs[j]? ∨(j%3=2∧∃v,cs0[j - 2]? =some v∧cs'[j]? =some (.int .u64 (fid v)))
theorem LS.refl {fid:Value→Int} {cs0:List Value}:LS fid cs0 cs cs:=fun _=>.inl rfl
theorem LS.set {fid:Value→Int} {cs0 cs':List Value} (h:LS fid cs0 cs cs') (hv:cs0[i*3]? =some v) (hl:i*3+2<cs'.length):LS fid cs0 cs (cs'.set (i*3+2) (.int .u64 (fid v))):=fun j=>by
 by_cases he:i*3+2=j
 ·subst he
  exact .inr ⟨by omega,v,by simpa using hv,by rw[List.getElem?_set_self hl]⟩
 ·rw[List.getElem?_set_ne he];exact h j
theorem cLine_at {funs:List Nat}:∀{lines:List PLine} {i:Nat} {n:PLine},lines[i]? =some n→(lines.flatMap (cLine funs))[i*3]? =some (ptrAt funs n.fn):=fun {lines i n} h=>by
 have:=flatMap_get (c:=cLine funs) (sz:=3) (fun _=>rfl) h 0 (ptrAt funs n.fn) rfl
 simpa using this
theorem Full.step {x:PProf} {lines:List PLine} (h:Full x u v lines) (hv:OS tLine 3 w0 v (lines.flatMap (cLine g.funs))) (hfid:∀n∈lines,fidV x g (ptrAt g.funs n.fn)=fnid x n.fn) (hL:LRel (fidV x g) w0 u)
  (hrow:∀(c:Nat) cs0 cs,Blk w0 c tLine cs0→Blk u c tLine cs→∃cs',Blk w' c tLine cs'∧LS (fidV x g) cs0 cs cs'):Full x w' v lines:=by
 intro p l c rb e1 e2 i n hn
 have h1:=h p l c rb e1 e2 i n hn
 obtain ⟨y,p',l',c',e3,hO,hy⟩:=hv
 rw[e1]at e3
 cases e3
 have hlen:(lines.flatMap (cLine g.funs)).length=lines.length*3:=flatMap_len (sz:=3) (fun _=>rfl) _
 have hll:0<l:=by
  have:=hO.sl.1
  have:=(List.getElem?_eq_some_iff.1 hn).1
  omega
 obtain ⟨hon,hp⟩:=hO.pos hll
 rw[e2]at hp
 obtain rfl:rb=y.b:=by cases hp;rfl
 obtain ⟨cs1,h2, -⟩:=hL _ _ (hy hon)
 obtain ⟨cs',h3,h4⟩:=hrow _ _ _ (hy hon) h2
 rw[h2.cell]at h1
 rw[h3.cell]
 rcases h4 (i*3+2) with h5|⟨-,z,h5,h6⟩
 ·rw[h5];exact h1
 ·rw[h6]
  obtain ⟨-, -,q⟩:=hO.sl
  rcases q with ⟨-, -,⟨ex,q⟩, -⟩|⟨q, -⟩
  ·rw[q,show i*3+2 - 2=i*3 by omega,List.getElem?_append_left (by rw[hlen];have:=(List.getElem?_eq_some_iff.1 hn).1;omega),cLine_at hn]at h5
   cases h5
   rw[hfid n (List.mem_of_getElem? hn)]
  ·rw[hon]at q;cases q
theorem PS.s4 {x:PProf} {n2:Nat} {T:List ByteArray} {t:PLoc} {l:List Nat} (h:PS B w0 mb x g n1 n2 n3 n4 n5 T u) (hBl:∀c∈l,B≤c) (hn:g.locs.Nodup) (hb:g.locs[n4]? =some b) (hx:x.locs[n4]? =some t) (hbk:Blk u b tLoc cs) (k:KeepX l u w')
  (hl:∀c∈l,c=b∨∃cs0,Blk u c tLine cs0) (hfid:∀l∈x.locs,∀n∈l.lines,fidV x g (ptrAt g.funs n.fn)=fnid x n.fn)
  (hrow:∀(c:Nat) cs0 cs,Blk w0 c tLine cs0→Blk u c tLine cs→∃cs',Blk w' c tLine cs'∧LS (fidV x g) cs0 cs cs') (hL:LRel (fidV x g) w0 w') (hφ:φ4 w0 x g w' b t):PS B w0 mb x g n1 n2 n3 (n4+1) n5 T w':=by
 have p:=List.prefix_refl T
 have hl':∀c∈l,∃T0 cs0,T0∈[tLoc,tLine]∧Blk u c T0 cs0:=fun c hc=>by
  rcases hl c hc with rfl|⟨cs0,h0⟩
  ·exact ⟨_,_,by simp,hbk⟩
  ·exact ⟨_,_,by simp,h0⟩
 have kr:=kR (W0:=[tLoc,tLine]) k h.tab (fun c hc=>.inr (hl' c hc))
 have kb:∀(c:Nat) (cs:List Value),c≠b→Blk u c tLoc cs→Blk w' c tLoc cs:=fun c cs hne hc=>k.blk hc fun hm=>by
  rcases hl c hm with hm|⟨cs0,h0⟩
  ·exact hne hm
  ·exact absurd rfl (Blk.ne hc h0 (by decide))
 have hmap:∀es ck,u.heap[mb]? =some (.map es ck)→w'.heap[mb]? =some (.map es ck):=fun es ck hm=>k.keep _ _ hm fun hmm=>by
  obtain ⟨T0,cs0, -,h0⟩:=hl' _ hmm
  have h3:u.heap[mb]? =some (.cells cs0.toArray T0 (0,0)):=h0
  rw[hm]at h3;cases h3
 have hPl:Pg n4 g.locs x.locs (fun b t=>φ4 w0 x g u b t∧t∈x.locs) (ψ4 B w0 g u):=fun i b t hb ht=>⟨fun hi=>⟨(h.pl i b t hb ht).1 hi,List.mem_of_getElem? ht⟩,(h.pl i b t hb ht).2⟩
 exact ⟨h.tab.keep hmap,h.zero,frK h.fr k (fun c hc=>by
  obtain ⟨T0,cs0,h0,h1⟩:=hl' c hc
  exact .inr ⟨hBl c hc,tag_row h1 (by simp at h0;rcases h0 with rfl|rfl<;>simp)⟩),
  h.pt.mono (fun b x hh=>hh.mono p fun cs=>kr _ _ cs (by decide)) (fun b x hh=>(fun cs=>kr _ _ cs (by decide)) _ hh),
  h.ps.mono (fun b x hh=>hh.mono p (fun cs=>kr _ _ cs (by decide)) (fun c cs=>kr _ _ cs (by decide)) (fun c cs=>kr _ _ cs (by decide))) (fun b x hh=>hh.mono (fun cs=>kr _ _ cs (by decide))),
  h.pm.mono (fun b x hh=>hh.mono p fun cs=>kr _ _ cs (by decide)) (fun b x hh=>(fun cs=>kr _ _ cs (by decide)) _ hh),
  hPl.step hn hb hx (fun b t hne hh=>hh.1.mono (fun cs=>kb _ cs hne) fun v hv hf=>hf.step hv (hfid _ hh.2) h.lines hrow) (fun b t hne hh=>hh.mono fun cs=>kb _ cs hne) hφ,
  h.pf.mono (fun b x hh=>hh.mono p fun cs=>kr _ _ cs (by decide)) (fun b x hh=>(fun cs=>kr _ _ cs (by decide)) _ hh),
  kr _ _ _ (by decide) h.per,hL⟩
theorem Blk.same' {ds:List Value} (h:Blk w b T cs) (k:Blk w b T ds):cs=ds:=by
 have q1:w.heap[b]? =some (.cells cs.toArray T (0,0)):=h
 have q2:w.heap[b]? =some (.cells ds.toArray T (0,0)):=k
 rw[q1]at q2
 simpa using q2
structure PreE (B:Nat) (w0 w':World) (x:PProf) (g:G) (T:List ByteArray):Prop where
 zero:T[0]? =some eB
 sub:∀s∈T,s∈allS x
 nd:T.Nodup
 fr:Fr B (tProf::wP) w0 w'
 prof:∃ty sa ma lo fu co dx kx sx,Blk w' g.pb tProf [ty,.string x.deflt,sa,ma,lo,fu,co,.string x.drop,.string x.keep,.int .i64 x.time,.int .i64 x.dur,ptr g.per,.int .i64 x.period,.slice none 0 0,.int .i64 dx,.int .i64 kx,sx,.int .i64 0]∧
  OS pVT 1 w0 ty (g.types.map ptr)∧OS pSam 1 w0 sa (g.sams.map ptr)∧OS pMap 1 w0 ma (g.maps.map ptr)∧OS pLoc 1 w0 lo (g.locs.map ptr)∧OS pFun 1 w0 fu (g.funs.map ptr)∧OS tStr 1 w' sx (T.map .string)∧At T dx x.drop∧At T kx x.keep
 per:φ1 T w' g.per x.per
 types:Each g.types x.types (φ1 T w')
 sams:Each g.sams x.samples (φ2 w0 T x w')
 maps:Each g.maps x.mappings (φ3 T w')
 locs:Each g.locs x.locs (φ4 w0 x g w')
 funs:Each g.funs x.funcs (φ5 T w')
 lines:LRel (fidV x g) w0 w'
end Go.Proofs.YtifdadlhmlhfiaaGreatDoor
