/-
  Part 4 of the proof. Conditions: as each lemma states them.
-/
import Derived.Test.YtifdadlhmlhfiaaGreatDoorX3
namespace Go.Fw
open Go
variable {y:Ent} {xs:List Value} {T c l:Nat} {p:Option Addr}
section
variable {P:Program} {Q:Exit→Act→World→Prop} {n:Nat} {f:Fm} {e:Env} {H:ko} {ops:Array Oper} {rest:List Oper} {d ty:Nat} {pos:String} {af:Array Edge}
theorem YH {g:FuncId} {args:Array Operand} {vs:List Value} {tys:Array TypeId} {φ:Value→List Value→Prop} (i:Nat) (hy:H[i]? =some y) (ho:y.on=true) (hob:y.ob=none) (hwr:y.wr=true) (hg:∀(az:Array Value) (w:World),(callFunc g az).run P w=.ok (.enter g az) w)
  (hargs:evL e args.toList=some vs) (hd:Nat.blt d n=true) (hc:∀w,Hp f w H→f.ok w→Calls P g vs.toArray w (Ret fun v w'=>∃cs',φ v cs'∧Blk w' y.b y.T cs'∧jv [y.b] w w'))
  (k:∀v cs',φ v cs'→J P ops Q n f ((d,v)::e) (yn H i ⟨y.b,y.T,cs',true,true,none⟩) rest):J P ops Q n f e H (⟨some d,.call ⟨.value (.func g),args,tys⟩,ty,pos,af,none⟩::rest):=
 kQ hg hargs hd hc fun w v w' hH hf hR=>by
  obtain ⟨cs',h1,h2,h3⟩:=hR
  have hm:=hH.may (mG hy) ho hwr
  have hex:y.ex=true:=by simp[Ent.ex,ho]
  refine k v cs' h1 w' (hH.putX hy hex rfl (fun _ _=>hm) h3 ⟨fun _=>h2,fun o h=>by cases h⟩) (okK hf h3 hm fun o ho2=>?_)
  have h4:w.heap[y.b]? =some (.cells y.cs.toArray y.T (0,0)):=hH.get hy ho
  rw[ho2]at h4;cases h4;rfl
end
theorem Own.full (h:Own T 1 y p l c xs):(y.on=true∧p=some ⟨y.b,0,none⟩∧y.cs.length=c)∨(y.on=false∧p=none∧c=0):=by
 obtain ⟨-, -,h3⟩:=h.sl
 rcases h3 with ⟨a,b, -,d⟩|⟨a,b,d⟩
 ·exact .inl ⟨a,b,by omega⟩
 ·exact .inr ⟨a,b,d⟩
theorem Own.pre (h:Own T 1 y p l c xs) {j:Nat} {u:Value} (hj:xs[j]? =some u):y.on=true∧y.cs[j]? =some u:=by
 have hl:=(List.getElem?_eq_some_iff.1 hj).1
 obtain ⟨h1, -,h3⟩:=h.sl
 rcases h3 with ⟨a,b,⟨ex,d⟩, -⟩|⟨a,b,d⟩
 ·exact ⟨a,by rw[d,aq hl];exact hj⟩
 ·have:=h.sl.2.1;omega
theorem jv.more {l m:List Nat} {a b c:World} (h:jv m a b) (k:jv l b c) (hl:∀q∈l,q∈m∨a.heap.size≤q):jv m a c:=(h.trans k).drop fun q hq=>by
 rcases mA hq with hq|hq
 ·exact .inl hq
 ·exact hl q hq
theorem KO {pb n:Nat} {y':Ent} (h:y'.on=true→(y.on=true∧y'.b=y.b)∨n≤y'.b):∀q∈[pb]++qG y',q∈[pb]++qG y∨n≤q:=fun q hq=>by
 rcases mA hq with hq|hq
 ·exact .inl (List.mem_append.2 (.inl hq))
 ·unfold qG at hq
  split at hq
  ·next ho=>
   simp at hq
   subst hq
   rcases h ho with ⟨h1,h2⟩|h1
   ·left;rw[h2];simp[qG,h1]
   ·exact .inr h1
  ·cases hq
end Go.Fw
namespace Go.Proofs.YtifdadlhmlhfiaaGreatDoor
open Go Go.Fw Go.Proofs Go.Proofs.Tryz
variable {y:Ent} {g:G} {z:Int} {fs:List Fld} {ids:List Int} {es:List MapEntry} {L W bs:List Nat} {cs xs:List Value} {B T b bb c ck l mb n n1 n3 n4 n5 sz:Nat} {φ:Nat→Prop} {s:ku} {v:Value} {u w w' w0:World}
theorem Ve (h1: -9223372036854775808≤z) (h2:z<9223372036854775808):IntKind.i64.wrap z=z:=by
 simp[IntKind.wrap,IntKind.bits,IntKind.signed];omega
theorem YD (h:∀(j:Nat) u,xs[j]? =some u→cs[j]? =some u):∃ex,cs=xs++ex:=by
 refine ⟨cs.drop xs.length,?_⟩
 have:cs.take xs.length=xs:=by
  apply List.ext_getElem?
  intro j
  rw[List.getElem?_take]
  by_cases hj:j<xs.length
  ·rw[if_pos hj,gE hj]
   exact h j _ (gE hj)
  ·rw[if_neg hj,List.getElem?_eq_none ox]
 conv=>rhs;rw[← this]
 rw[this]
 conv=>lhs;rw[← List.take_append_drop xs.length cs,this]
structure zj (T2:Nat) (val:Nat→Value) (w w':World) (pb T off:Nat) (cs:List Value) (y:Ent) (l:Nat) (xs:List Value) (ns:List Nat):Prop where
 ex:∃y' p' c',Own T2 1 y' p' (l+ns.length) c' (xs++ns.map val)∧c'<9223372036854775808∧(y'.on=true→Blk w' y'.b T2 y'.cs)∧(y'.on=true→(y.on=true∧y'.b=y.b)∨w.heap.size≤y'.b)∧Blk w' pb T (kH cs off [.slice p' (l+ns.length) c'])
 kx:jv ([pb]++qG y) w w'
theorem zj.fr {T2:Nat} {val:Nat→Value} {w3:World} {pb off:Nat} {ns:List Nat} (h:zj T2 val w w' pb T off cs y l xs ns) (k0:Fr 0 [] w0 w) (k1:Fr 0 [] w' w3):zj T2 val w0 w3 pb T off cs y l xs ns:=by
 obtain ⟨⟨y',p',c',h1,h2,h3,h4,h5⟩,h6⟩:=h
 exact ⟨⟨y',p',c',h1,h2,fun ho=>k1.blk (h3 ho) (.inr zp),fun ho=>(h4 ho).imp_right fun h=>Nat.le_trans k0.size h,k1.blk h5 (.inr zp)⟩,(h6.afterF k0).thenF k1⟩
theorem qgR (w:World) (b o c:Nat) (ns B:List Nat) (hV:Vs ns B) (h:Bys w b o c B) (hc:B.length≤1000000000000):
  Calls Tryz.prog 218 #[.slice (some ⟨b,o,none⟩) B.length c] w (Ret fun v w'=>v=.int .i64 (ns.length:Nat)∧Fr 0 [] w w'):=by
 have hns:=Vs.len hV
 refine jr (args:=[_]) [(0,_)] 0 [] [] Tryz.func218 rfl Tryz.ntmps218 rfl rfl .nil ?_
 refine sQ fun K1=>jb (jA (k:=K1 (sQ fun K2=>jh ?_)))
 intro w1 hH1 hf1
 refine vk (σ:=List Nat×List Nat×Nat×Nat×Nat) (fun s=>[(0,.slice (some ⟨b,s.2.2.1,none⟩) s.2.1.length s.2.2.2.1),(2,.int .i64 (s.2.2.2.2:Nat))]) (fun s w'=>Vs s.1 s.2.1∧Bys w' b s.2.2.1 s.2.2.2.1 s.2.1∧s.2.1.length≤1000000000000∧s.2.2.2.2+s.1.length=ns.length∧Fr 0 [] w w') (fun s=>s.1.length) (ns,B,o,c,0) ⟨rfl,rfl,trivial⟩ ⟨hV,h.keep hf1,hc,Nat.zero_add _,hf1⟩ ?_
 rintro ⟨ms,D,o1,c1,k⟩ w2 ⟨hV2,hB2,hl2,hk2,hf2⟩ KL hKL
 try dsimp only at hV2 hB2 hl2 hk2
 refine C.begin ⟨w2,0,[]⟩ [] jx .nil ?_
 try dsimp only
 refine sQ fun K3=>sQ fun K4=>jb (jM (k:=jE vY (k:=jG (k:=K4 ?_))))
 refine jq rfl (fun h6=>?_) (fun h6=>?_)
 ·obtain ⟨n,ms,rfl⟩:∃n r,ms=n::r:=by
   cases ms with
   |nil=>have:D=[]:=hV2;subst this;simp at h6
   |cons n r=>exact ⟨n,r,rfl⟩
  obtain ⟨bs,R,rfl,hv,hn,hr⟩:=hV2
  have hvp:=hv.pos
  have hB3:Bys w2 b (cut o1 c1 bs.length 1) (c1 - bs.length) R:=by
   have:=hB2.drop (i:=bs.length) zp
   rwa [List.drop_left]at this
  simp only[List.length_cons]at hk2
  refine jg (K3 (sQ fun K5=>jh (sQ fun K6=>jb (jA (k:=K6 (sQ fun K7=>jb (jM (k:=?_))))))))
  refine kg (φ:=fun v=>v=.tuple #[.int .u64 (n:Nat),.slice (some ⟨b,cut o1 c1 bs.length 1,none⟩) R.length (c1 - bs.length),.nilIface]) Tryz.call143 rfl rfl (fun w3 hH hf=>zb w3 b o1 c1 n bs R hv hn (hB2.keep hf) hl2) fun v hv=>?_
  subst hv
  refine jM (k:=jX (k:=jX (k:=jX (k:=jA (k:=jA (k:=K7 (CJ.t [(0,_),(2,_),(3,_)] (k:=sQ fun K8=>jb (jM (k:=?_))))))))))
  refine jn rfl (fun _ _ h=>xl Jr rfl h) (K8 (jO rfl (jg (K5 (jb (jM (k:=jI (k:=jA (k:=jw (ji ?_))))))))))
  exact fun w' hH hf=>hKL (ms,R,cut o1 c1 bs.length 1,c1 - bs.length,k+1) _ w' ⟨hr,hB3.keep hf,by simp only[lA]at hl2;show R.length≤_;omega,by show k+1+ms.length=_;omega,frQ hf2 hf⟩ zp ⟨rfl,rfl,trivial⟩
 ·refine jt (K2 (sQ fun K9=>jb (jM (k:=jA (k:=K9 (jj ?_))))))
  exact je Tryz.results218 rfl fun w' hH hf=>⟨by
   have h0:D.length=0:=by omega
   have:=Vs.len hV2
   rw[show k=ns.length by omega],frQ hf2 hf⟩
theorem qjC (w:World) (y:Ent) (p:Option Addr) (l c n:Nat) (xs:List Value) (hO:Own qd 1 y p l c xs) (hy:y.on=true→Blk w y.b qd y.cs) (hc:c<9223372036854775808) (hn:l+n≤100000000000):
  Calls Tryz.prog 219 #[.slice p l c,.int .i64 (n:Nat)] w (Ret fun v w'=>(∃y' p' c',v=.slice p' l c'∧Own qd 1 y' p' l c' xs∧c'<9223372036854775808∧(y'.on=true→Blk w' y'.b qd y'.cs)∧(y'=y∨w.heap.size≤y'.b))∧Fr 0 [] w w'):=by
 have hlc:=hO.sl.2.1
 refine jr (args:=[_,_]) [(0,_),(1,_)] 0 [] [] Tryz.func219 rfl Tryz.ntmps219 rfl rfl .nil ?_
 refine sQ fun K1=>jb (jA (k:=K1 (sQ fun K2=>sQ fun K3=>jb (jM (k:=jS (k:=?_))))))
 refine jV (u:=.bool false) (congrArg Value.bool (decide_eq_false ox)) ?_
 refine K3 (jO rfl (jg (K2 (sQ fun K4=>sQ fun K5=>jb (jM (k:=jM (k:=?_)))))))
 refine jn rfl (fun _ _ h=>qek xI rfl h) (jM (k:=jE xI (k:=?_)))
 refine jn rfl (fun _ _ h=>QQ rfl rfl h) ?_
 refine jV (u:=.int .i64 ((c:Int) - (l:Int))) (congrArg (Value.int .i64) (Ve ox ox)) ?_
 refine jn rfl (fun _ _ h=>QQ rfl rfl h) ?_
 refine jV (u:=.int .i64 ((n:Int) - ((c:Int) - (l:Int)))) (congrArg (Value.int .i64) (Ve ox ox)) ?_
 refine jA (k:=K5 (CJ.t [(0,_),(1,_)] (k:=sQ fun K6=>jb (jM (k:=jG (k:=K6 ?_))))))
 refine jq rfl (fun h16=>?_) (fun h16=>?_)
 ·refine jb (jM (k:=jM (k:=?_)))
  refine jn rfl (fun _ _ h=>qek xI rfl h) (jn rfl (fun _ _ h=>QR xI so2 rfl rfl ox h) (jM (k:=?_)))
  refine jV (u:=.int .i64 ((n+l - c:Nat):Int)) (congrArg (Value.int .i64) ox) ?_
  refine qhD (y:=y) (m:=n+l - c) xI ru3 el2 rfl rfl rfl (fun w1 hH hf ho=>hf.blk (hy ho) (.inr zp)) hO.full ox ox rfl fun b5 cs5 c5 h5l h5c h59 h5p=>?_
  refine jM (k:=jE xI (k:=?_))
  refine jn rfl (fun _ _ h=>QR (i:=l) xI so2 rfl rfl ox h) (jA (k:=K4 (CJ.t [(0,_)] (k:=sQ fun K7=>jb (jM (k:=jA (k:=K7 (jj ?_))))))))
  first
  |exact je Tryz.results219 rfl fun w' hH hf=>⟨⟨⟨b5,qd,cs5,true,true,none⟩,_,c5,rfl,⟨rfl,rfl,rfl,hO.sl.1,by omega,.inl ⟨rfl,rfl,YD fun j u hj=>h5p j u (hO.pre hj).1 (hO.pre hj).2,by simpa using h5l⟩⟩,h59,fun _=>hH.get (i:=0) rfl rfl,.inr (hH.fresh (i:=0) rfl rfl rfl)⟩,hf⟩
  |exact je Tryz.results219 rfl fun w' hH hf=>⟨⟨y,p,c,rfl,hO,hc,fun ho=>hf.blk (hy ho) (.inr zp),.inl rfl⟩,hf⟩
 ·refine jg (K4 (sQ fun K8=>jb (jM (k:=jA (k:=K8 (jj ?_))))))
  first
  |exact je Tryz.results219 rfl fun w' hH hf=>⟨⟨⟨b5,qd,cs5,true,true,none⟩,_,c5,rfl,⟨rfl,rfl,rfl,hO.sl.1,by omega,.inl ⟨rfl,rfl,YD fun j u hj=>h5p j u (hO.pre hj).1 (hO.pre hj).2,by simpa using h5l⟩⟩,h59,fun _=>hH.get (i:=0) rfl rfl,.inr (hH.fresh (i:=0) rfl rfl rfl)⟩,hf⟩
  |exact je Tryz.results219 rfl fun w' hH hf=>⟨⟨y,p,c,rfl,hO,hc,fun ho=>hf.blk (hy ho) (.inr zp),.inl rfl⟩,hf⟩
theorem qky (w:World) (bb pb T off k n:Nat) (cs tmp:List Value) (y:Ent) (p:Option Addr) (l c:Nat) (xs:List Value) (hb:Blk w bb qx (yg (k:Nat) 0 n (.slice none 0 0) tmp)) (hp:Blk w pb T cs) (hcs:cs[off]? =some (.slice p l c)) (hO:Own qd 1 y p l c xs)
  (hy:y.on=true→Blk w y.b qd y.cs) (hc:c<9223372036854775808) (hTB:Nat.beq T qx=false) (hTR:T≠qd) (hn:l+1≤100000000000):
  Calls Tryz.prog 212 #[ptr bb,.pointer (some ⟨pb,off,none⟩)] w (Ret fun v w'=>v=.nilIface∧zj qd vI w w' pb T off cs y l xs [n]):=by
 have hW:[T,qd].all (fun t=> !Nat.beq t qx)=true:=by simp only[List.all_cons,hTB,Bool.not_false,List.all_nil,Bool.and_true,Bool.true_and];rfl
 have hc0:=mc (f:=⟨w,0,[T,qd]⟩) hb hW
 have hoff:=(List.getElem?_eq_some_iff.1 hcs).1
 refine jr (args:=[_,_]) [(0,_),(1,_)] 0 [T,qd] _ Tryz.func212 rfl Tryz.ntmps212 rfl rfl (Hp.two hp hO (fun ho=>⟨hy ho,Nat.zero_le _⟩) (Nat.zero_le _) zp zp hTR) ?_
 refine sQ fun K1=>jb (jA (k:=K1 ?_))
 refine qP fun K2 hK2=>sQ fun K3=>jb (jM (k:=jN (k:=jF 1 qh so3 (k:=jL ag3 hc0 1 (k:=jQ (k:=?_))))))
 refine jV (u:=.bool false) rfl ?_
 refine K3 (jO rfl (jg (ji (hK2 _ _ _ (sQ fun K4=>jb (Xr zv2 rfl rfl fun b9=>K4 (sQ fun K5=>sQ fun K6=>jb (jM (k:=?_)))))))))
 refine YH (y:=⟨b9,qd,_,true,true,none⟩) (φ:=fun v cs'=>v=.nilIface∧cs'=[vI n]) 0 rfl rfl rfl rfl Tryz.call205 rfl rfl (fun w1 hH hf=>Calls.mono (qcN w1 bb b9 qd 0 _ _ _ _ _ (jk hf hW _ _ hb) (hH.get (i:=0) rfl rfl) rfl zp) (Ret.mono fun v w' h=>⟨_,⟨h.1,rfl⟩,h.2.1,h.2.2⟩)) fun v cs9 hv=>?_
 obtain ⟨rfl,rfl⟩:=hv
 refine jA (k:=K6 (CJ.t [(1,_),(9,_),(10,_)] (k:=sQ fun K7=>jb (jM (k:=?_)))))
 refine jn rfl (fun _ _ h=>xl Jr rfl h) (K7 (jO rfl (jg (K5 (sQ fun K8=>jC 8 (lts [0,1,2,3,4]++(5,false)::((6,false)::(lts [7]++(8,false)::[]))) [0,1] rfl (by kernel_rfl) (by kernel_rfl) (dM [0,1] (k:=dM [0,1] (k:=dN [0,1] (k:=?_)))))))))
 refine vV rfl rfl (jd [0,1] rfl) (fun a w ha hS=>zx 1 rfl rfl KC rfl hcs ha hS) (dH [0,1] 0 ag2 (k:=dE (h:=fun Kd=>?_)))
 refine kj xI so2 zv2 rfl rfl rfl rfl rfl fun b63=>Kd (sb [1,2]) (dE (h:=fun Kd=>?_))
 refine zo 2 rfl hO xI el2 rfl rfl rfl rfl hn rfl fun y8 p8 c8 hO8 hc8 hr8=>?_
 refine Kd (sb [0,1]) (dN [0,1] (k:=dE (h:=fun Kd=>?_)))
 refine vj (y:=⟨pb,T,cs,true,true,none⟩) (o:=off) 1 rfl rfl rfl rfl Jt rfl rfl rfl rfl (Nat.ble_eq_true_of_le (show off+1≤cs.length by omega)) ?_
 refine Kd (.inl rfl) (K8 (CJ.t [] (k:=sQ fun K9=>jb (jA (k:=K9 (jj ?_))))))
 exact je Tryz.results212 rfl fun w' hH hf=>⟨rfl,⟨⟨y8,p8,c8,hO8,by omega,fun ho=>by have:=hH.get (i:=2) rfl ho;rwa [hO8.hT]at this,fun _=>hr8,hH.get (i:=1) rfl rfl⟩,Hp.keepX (f:=⟨w,0,[T,qd]⟩) (((hH.drop 0).drop 0).drop 0) hf⟩⟩
set_option maxHeartbeats 1000000 in
theorem qkz (w:World) (bb pb T off k b o cD:Nat) (cs tmp:List Value) (D ns:List Nat) (y:Ent) (p:Option Addr) (l c:Nat) (xs:List Value) (hb:Blk w bb qx (yg (k:Nat) 2 0 (.slice (some ⟨b,o,none⟩) D.length cD) tmp)) (hB:Bys w b o cD D) (hD:D.length≤1000000000000) (hV:Vs ns D) (hp:Blk w pb T cs) (hcs:cs[off]? =some (.slice p l c)) (hO:Own qd 1 y p l c xs)
  (hy:y.on=true→Blk w y.b qd y.cs) (hc:c<9223372036854775808) (hTB:Nat.beq T qx=false) (hT8:Nat.beq T tU8=false) (hTR:T≠qd) (hn:l+ns.length≤100000000000):
  Calls Tryz.prog 212 #[ptr bb,.pointer (some ⟨pb,off,none⟩)] w (Ret fun v w'=>v=.nilIface∧zj qd vI w w' pb T off cs y l xs ns):=by
 have hW:[T,qd].all (fun t=> !Nat.beq t qx)=true:=by simp only[List.all_cons,hTB,Bool.not_false,List.all_nil,Bool.and_true,Bool.true_and];rfl
 have hW8:[T,qd].all (fun t=> !Nat.beq t tU8)=true:=by simp only[List.all_cons,hT8,Bool.not_false,List.all_nil,Bool.and_true,Bool.true_and];rfl
 have hc0:=mc (f:=⟨w,0,[T,qd]⟩) hb hW
 have hoff:=(List.getElem?_eq_some_iff.1 hcs).1
 refine jr (args:=[_,_]) [(0,_),(1,_)] 0 [T,qd] _ Tryz.func212 rfl Tryz.ntmps212 rfl rfl (Hp.two hp hO (fun ho=>⟨hy ho,Nat.zero_le _⟩) (Nat.zero_le _) zp zp hTR) ?_
 refine sQ fun K1=>jb (jA (k:=K1 (sQ fun K2=>sQ fun K3=>jb (jM (k:=jN (k:=jF 1 qh so3 (k:=jL ag3 hc0 1 (k:=jQ (k:=?_)))))))))
 refine jV (u:=.bool true) rfl ?_
 refine K3 (ql rfl (sQ fun K4=>jb (jM (k:=jN (k:=jF 3 qh ye (k:=jL JN hc0 3 (k:=?_)))))))
 refine kg (φ:=fun v=>v=.int .i64 (ns.length:Nat)) Tryz.call218 rfl rfl (fun w2 hH hf=>qgR w2 b o cD ns D hV (hB.mono (jk hf hW8)) hD) fun v hv=>?_
 subst hv
 refine jA (k:=K4 (CJ.t [(0,_),(1,_),(5,_)] (k:=sQ fun K5=>jb (jM (k:=jM (k:=jN (k:=?_)))))))
 refine jp rfl (fun a w ha hH hf=>Jk 0 rfl rfl KC rfl hcs ha hH) (jM (k:=?_))
 refine kQ (R:=fun w1 v w'=>(∃y' p' c',v=.slice p' l c'∧Own qd 1 y' p' l c' xs∧c'<9223372036854775808∧(y'.on=true→Blk w' y'.b qd y'.cs)∧(y'=y∨w1.heap.size≤y'.b))∧Fr 0 [] w1 w') Tryz.call219 rfl rfl (fun w1 hH hf=>qjC w1 y p l c ns.length xs hO (fun ho=>by have:=hH.get (i:=1) rfl ho;rwa [hO.hT]at this) hc hn) fun w1 v w2 hH1 hf1 hR=>?_
 obtain ⟨⟨y1,p1,c1,rfl,hO1,hc1,hy1,hyy⟩,hf2⟩:=hR
 have hp2:Blk w2 pb T cs:=hf2.blk (hH1.get (i:=0) rfl rfl) (.inr zp)
 have hk2:jv ([pb]++qG y) w w2:=(Hp.keepX (f:=⟨w,0,[T,qd]⟩) ((hH1.drop 0).drop 0) hf1).thenF hf2
 have hb2:=hf2.blk (jk hf1 hW _ _ hb) (.inr zp)
 have hB2:Bys w2 b o cD D:=(hB.mono (jk hf1 hW8)).keep hf2
 have hc0:=mc (f:=⟨w2,0,[T,qd]⟩) hb2 hW
 have hr1:y1.on=true→(y.on=true∧y1.b=y.b)∨w.heap.size≤y1.b:=fun ho=>by
  rcases hyy with e|e
  ·left;rw[e]at ho⊢;exact ⟨ho,rfl⟩
  ·right;have:=hf1.size;exact Nat.le_trans this e
 refine J.begin ⟨w2,0,[T,qd]⟩ _ jx (Hp.two hp2 hO1 (fun ho=>⟨hy1 ho,Nat.zero_le _⟩) (Nat.zero_le _) zp zp hTR) ?_
 refine jN (k:=?_)
 refine vj (y:=⟨pb,T,cs,true,true,none⟩) (o:=off) 0 rfl rfl rfl rfl Jt rfl rfl rfl rfl (Nat.ble_eq_true_of_le (show off+1≤cs.length by omega)) ?_
 refine K5 (sQ fun K6=>jb (jM (k:=jN (k:=jF 3 qh ye (k:=jL JN hc0 3 (k:=jA (k:=K6 (CJ.t [(1,_),(6,_)] (k:=sQ fun K7=>jh ?_)))))))))
 intro w3 hH3 hf3
 refine vk (σ:=List Nat×List Nat×Nat×Nat×List Nat×Ent×Option Addr×Nat) (fun s=>[(1,.pointer (some ⟨pb,off,none⟩)),(6,.slice (some ⟨b,s.2.2.1,none⟩) s.2.1.length s.2.2.2.1)])
  (fun s w'=>Vs s.1 s.2.1∧Bys w' b s.2.2.1 s.2.2.2.1 s.2.1∧s.2.1.length≤1000000000000∧ns=s.2.2.2.2.1++s.1∧Own qd 1 s.2.2.2.2.2.1 s.2.2.2.2.2.2.1 (l+s.2.2.2.2.1.length) s.2.2.2.2.2.2.2 (xs++s.2.2.2.2.1.map vI)∧s.2.2.2.2.2.2.2<9223372036854775808∧(s.2.2.2.2.2.1.on=true→Blk w' s.2.2.2.2.2.1.b qd s.2.2.2.2.2.1.cs)∧(s.2.2.2.2.2.1.on=true→(y.on=true∧s.2.2.2.2.2.1.b=y.b)∨w.heap.size≤s.2.2.2.2.2.1.b)∧Blk w' pb T (kH cs off [.slice s.2.2.2.2.2.2.1 (l+s.2.2.2.2.1.length) s.2.2.2.2.2.2.2])∧jv ([pb]++qG y) w w')
  (fun s=>s.1.length) (ns,D,o,cD,[],y1,p1,c1) ⟨rfl,rfl,trivial⟩ ⟨hV,hB2.mono (jk hf3 hW8),hD,rfl,by simpa using hO1,hc1,fun ho=>by have:=hH3.get (i:=1) rfl ho;rwa [hO1.hT]at this,hr1,hH3.get (i:=0) rfl rfl,hk2.more (Hp.keepX (f:=⟨w2,0,[T,qd]⟩) ((hH3.drop 0).drop 0) hf3) (KO hr1)⟩ ?_
 rintro ⟨ms,D',o',c',dn,y',p',cc⟩ w4 ⟨hV4,hB4,hD4,hns4,hO4,hc4,hy4,hr4,hp4,hk4⟩ KL hKL
 try dsimp only at hV4 hB4 hD4 hns4 hO4 hc4 hy4 hr4 hp4
 have hcs4:(kH cs off [.slice p' (l+dn.length) cc])[off]? =some (.slice p' (l+dn.length) cc):=by simp only[kH];exact List.getElem?_set_self hoff
 have hl4:(kH cs off [.slice p' (l+dn.length) cc]).length=cs.length:=yi _ _ _
 refine C.begin ⟨w4,0,[T,qd]⟩ _ jx (Hp.two hp4 hO4 (fun ho=>⟨hy4 ho,Nat.zero_le _⟩) (Nat.zero_le _) zp zp hTR) ?_
 try dsimp only
 refine sQ fun K8=>sQ fun K9=>jb (jM (k:=jE vY (k:=jG (k:=K9 ?_))))
 refine jq rfl (fun h34=>?_) (fun h34=>?_)
 ·obtain ⟨n,ms,rfl⟩:∃n r,ms=n::r:=by
   cases ms with
   |nil=>have:D'=[]:=hV4;subst this;simp at h34
   |cons n r=>exact ⟨n,r,rfl⟩
  obtain ⟨bs,R,rfl,hv,hn5,hr⟩:=hV4
  have hvp:=hv.pos
  have hB5:Bys w4 b (cut o' c' bs.length 1) (c' - bs.length) R:=by
   have:=hB4.drop (i:=bs.length) zp
   rwa [List.drop_left]at this
  have hnl:ns.length=dn.length+(ms.length+1):=by rw[hns4];simp
  refine jg (K8 (jh (sQ fun K10=>jb (jA (k:=K10 (sQ fun K11=>jb (jA (k:=K11 (sQ fun K12=>sQ fun K13=>jb (jM (k:=?_)))))))))))
  refine kg (φ:=fun v=>v=.tuple #[.int .u64 (n:Nat),.slice (some ⟨b,cut o' c' bs.length 1,none⟩) R.length (c' - bs.length),.nilIface]) Tryz.call143 rfl rfl (fun w5 hH hf=>zb w5 b o' c' n bs R hv hn5 (hB4.mono (jk hf hW8)) hD4) fun v hv=>?_
  subst hv
  refine jM (k:=jX (k:=jX (k:=jX (k:=jA (k:=jA (k:=jA (k:=K13 (CJ.t [(1,_),(6,_),(7,_),(8,_)] (k:=sQ fun K14=>jb (jM (k:=?_)))))))))))
  refine jn rfl (fun _ _ h=>xl Jr rfl h) (K14 (jO rfl (jg (K12 (jb (jM (k:=jM (k:=jN (k:=?_)))))))))
  refine jp rfl (fun a w ha hH hf=>Jk 0 rfl rfl KC rfl hcs4 ha hH) (jM (k:=?_))
  refine jn rfl (fun _ _ h=>qO xu ru2 rfl h) (kj xI so2 zv2 rfl rfl rfl rfl rfl fun b50=>?_)
  refine zo 1 rfl hO4 xI el2 rfl rfl rfl rfl (show l+dn.length+1≤100000000000 by omega) rfl fun y8 p8 c8 hO8 hc8 hr8=>?_
  refine jN (k:=?_)
  refine vj (y:=⟨pb,T,kH cs off [.slice p' (l+dn.length) cc],true,true,none⟩) (o:=off) 0 rfl rfl rfl rfl Jt rfl rfl rfl rfl (Nat.ble_eq_true_of_le (show off+1≤(kH cs off [.slice p' (l+dn.length) cc]).length by omega)) ?_
  refine jw (Qq (ji ?_))
  exact fun w' hH hf=>hKL (ms,R,cut o' c' bs.length 1,c' - bs.length,dn++[n],y8,p8,c8) _ w' ⟨hr,hB5.mono (jk hf hW8),by simp only[lA]at hD4;show R.length≤_;omega,by rw[hns4];simp,by
    have h8:=hO8
    rw[List.append_assoc]at h8
    simp only[lA,List.length_singleton,List.map_append,List.map_cons,List.map_nil]
    exact h8,by show c8<_;omega,fun ho=>by have:=hH.get (i:=1) rfl ho;rwa [hO8.hT]at this,fun ho=>by
    rcases hr8 with ⟨e1,e2⟩|e
    ·rcases hr4 e1 with ⟨e3,e4⟩|e3
     ·exact .inl ⟨e3,e2.trans e4⟩
     ·right;show w.heap.size≤y8.b;rw[e2];exact e3
    ·right;exact Nat.le_trans hk4.size e,by
    have h9:=hH.get (i:=0) rfl rfl
    have e9:∀v u:Value,scal u=true→kH (kH cs off [v]) off u.cells.toList=kH cs off [u]:=fun v u hu=>by rw[JX hu];simp only[kH,List.set_set]
    rw[e9 _ _ rfl]at h9
    simp only[lA,List.length_singleton]
    exact h9,hk4.more (Hp.keepX (f:=⟨w4,0,[T,qd]⟩) ((hH.drop 0).drop 0) hf) (KO hr4)⟩ zp ⟨rfl,rfl,trivial⟩
 ·refine jt (K7 (CJ.t [] (k:=sQ fun K15=>jb (jA (k:=K15 (jj ?_))))))
  exact je Tryz.results212 rfl fun w' hH hf=>⟨rfl,by
   have hms:ms=[]:=by
    have h0:D'.length=0:=by omega
    have:=Vs.len hV4
    exact List.eq_nil_of_length_eq_zero ox
   subst hms
   rw[List.append_nil]at hns4
   subst hns4
   exact ⟨⟨y',p',cc,hO4,hc4,fun ho=>by have:=hH.get (i:=1) rfl ho;rwa [hO4.hT]at this,hr4,hH.get (i:=0) rfl rfl⟩,hk4.more (Hp.keepX (f:=⟨w4,0,[T,qd]⟩) ((hH.drop 0).drop 0) hf) (KO hr4)⟩⟩
theorem qjB (w:World) (y:Ent) (p:Option Addr) (l c n:Nat) (xs:List Value) (hO:Own vR 1 y p l c xs) (hy:y.on=true→Blk w y.b vR y.cs) (hc:c<9223372036854775808) (hn:l+n≤100000000000):
  Calls Tryz.prog 268 #[.slice p l c,.int .i64 (n:Nat)] w (Ret fun v w'=>(∃y' p' c',v=.slice p' l c'∧Own vR 1 y' p' l c' xs∧c'<9223372036854775808∧(y'.on=true→Blk w' y'.b vR y'.cs)∧(y'=y∨w.heap.size≤y'.b))∧Fr 0 [] w w'):=by
 have hlc:=hO.sl.2.1
 refine jr (args:=[_,_]) [(0,_),(1,_)] 0 [] [] Tryz.func268 rfl Tryz.ntmps268 rfl rfl .nil ?_
 refine sQ fun K1=>jb (jA (k:=K1 (sQ fun K2=>sQ fun K3=>jb (jM (k:=jS (k:=?_))))))
 refine jV (u:=.bool false) (congrArg Value.bool (decide_eq_false ox)) ?_
 refine K3 (jO rfl (jg (K2 (sQ fun K4=>sQ fun K5=>jb (jM (k:=jM (k:=?_)))))))
 refine jn rfl (fun _ _ h=>qek zm rfl h) (jM (k:=jE zm (k:=?_)))
 refine jn rfl (fun _ _ h=>QQ rfl rfl h) ?_
 refine jV (u:=.int .i64 ((c:Int) - (l:Int))) (congrArg (Value.int .i64) (Ve ox ox)) ?_
 refine jn rfl (fun _ _ h=>QQ rfl rfl h) ?_
 refine jV (u:=.int .i64 ((n:Int) - ((c:Int) - (l:Int)))) (congrArg (Value.int .i64) (Ve ox ox)) ?_
 refine jA (k:=K5 (CJ.t [(0,_),(1,_)] (k:=sQ fun K6=>jb (jM (k:=jG (k:=K6 ?_))))))
 refine jq rfl (fun h16=>?_) (fun h16=>?_)
 ·refine jb (jM (k:=jM (k:=?_)))
  refine jn rfl (fun _ _ h=>qek zm rfl h) (jn rfl (fun _ _ h=>QR zm kU rfl rfl ox h) (jM (k:=?_)))
  refine jV (u:=.int .i64 ((n+l - c:Nat):Int)) (congrArg (Value.int .i64) ox) ?_
  refine qhD (y:=y) (m:=n+l - c) zm ru3 qdI rfl rfl rfl (fun w1 hH hf ho=>hf.blk (hy ho) (.inr zp)) hO.full ox ox rfl fun b5 cs5 c5 h5l h5c h59 h5p=>?_
  refine jM (k:=jE zm (k:=?_))
  refine jn rfl (fun _ _ h=>QR (i:=l) zm kU rfl rfl ox h) (jA (k:=K4 (CJ.t [(0,_)] (k:=sQ fun K7=>jb (jM (k:=jA (k:=K7 (jj ?_))))))))
  first
  |exact je Tryz.results268 rfl fun w' hH hf=>⟨⟨⟨b5,vR,cs5,true,true,none⟩,_,c5,rfl,⟨rfl,rfl,rfl,hO.sl.1,by omega,.inl ⟨rfl,rfl,YD fun j u hj=>h5p j u (hO.pre hj).1 (hO.pre hj).2,by simpa using h5l⟩⟩,h59,fun _=>hH.get (i:=0) rfl rfl,.inr (hH.fresh (i:=0) rfl rfl rfl)⟩,hf⟩
  |exact je Tryz.results268 rfl fun w' hH hf=>⟨⟨y,p,c,rfl,hO,hc,fun ho=>hf.blk (hy ho) (.inr zp),.inl rfl⟩,hf⟩
 ·refine jg (K4 (sQ fun K8=>jb (jM (k:=jA (k:=K8 (jj ?_))))))
  first
  |exact je Tryz.results268 rfl fun w' hH hf=>⟨⟨⟨b5,vR,cs5,true,true,none⟩,_,c5,rfl,⟨rfl,rfl,rfl,hO.sl.1,by omega,.inl ⟨rfl,rfl,YD fun j u hj=>h5p j u (hO.pre hj).1 (hO.pre hj).2,by simpa using h5l⟩⟩,h59,fun _=>hH.get (i:=0) rfl rfl,.inr (hH.fresh (i:=0) rfl rfl rfl)⟩,hf⟩
  |exact je Tryz.results268 rfl fun w' hH hf=>⟨⟨y,p,c,rfl,hO,hc,fun ho=>hf.blk (hy ho) (.inr zp),.inl rfl⟩,hf⟩
theorem dUN_c (w:World) (bb pb T off k n:Nat) (cs tmp:List Value) (y:Ent) (p:Option Addr) (l c:Nat) (xs:List Value) (hb:Blk w bb qx (yg (k:Nat) 0 n (.slice none 0 0) tmp)) (hp:Blk w pb T cs) (hcs:cs[off]? =some (.slice p l c)) (hO:Own vR 1 y p l c xs)
  (hy:y.on=true→Blk w y.b vR y.cs) (hc:c<9223372036854775808) (hTB:Nat.beq T qx=false) (hTR:T≠vR) (hn:l+1≤100000000000):
  Calls Tryz.prog 265 #[ptr bb,.pointer (some ⟨pb,off,none⟩)] w (Ret fun v w'=>v=.nilIface∧zj vR vU w w' pb T off cs y l xs [n]):=by
 have hW:[T,vR].all (fun t=> !Nat.beq t qx)=true:=by simp only[List.all_cons,hTB,Bool.not_false,List.all_nil,Bool.and_true,Bool.true_and];rfl
 have hc0:=mc (f:=⟨w,0,[T,vR]⟩) hb hW
 have hoff:=(List.getElem?_eq_some_iff.1 hcs).1
 refine jr (args:=[_,_]) [(0,_),(1,_)] 0 [T,vR] _ Tryz.func265 rfl Tryz.ntmps265 rfl rfl (Hp.two hp hO (fun ho=>⟨hy ho,Nat.zero_le _⟩) (Nat.zero_le _) zp zp hTR) ?_
 refine sQ fun K1=>jb (jA (k:=K1 ?_))
 refine qP fun K2 hK2=>sQ fun K3=>jb (jM (k:=jN (k:=jF 1 qh so3 (k:=jL ag3 hc0 1 (k:=jQ (k:=?_))))))
 refine jV (u:=.bool false) rfl ?_
 refine K3 (jO rfl (jg (ji (hK2 _ _ _ (sQ fun K4=>jb (Xr qdg rfl rfl fun b9=>K4 (sQ fun K5=>sQ fun K6=>jb (jM (k:=?_)))))))))
 refine YH (y:=⟨b9,vR,_,true,true,none⟩) (φ:=fun v cs'=>v=.nilIface∧cs'=[vU n]) 0 rfl rfl rfl rfl Tryz.call233 rfl rfl (fun w1 hH hf=>Calls.mono (qaz w1 bb b9 vR 0 _ _ _ _ _ (jk hf hW _ _ hb) (hH.get (i:=0) rfl rfl) rfl zp) (Ret.mono fun v w' h=>⟨_,⟨h.1,rfl⟩,h.2.1,h.2.2⟩)) fun v cs9 hv=>?_
 obtain ⟨rfl,rfl⟩:=hv
 refine jA (k:=K6 (CJ.t [(1,_),(9,_),(10,_)] (k:=sQ fun K7=>jb (jM (k:=?_)))))
 refine jn rfl (fun _ _ h=>xl Jr rfl h) (K7 (jO rfl (jg (K5 (sQ fun K8=>jC 8 (lts [0,1,2,3,4]++(5,false)::((6,false)::(lts [7]++(8,false)::[]))) [0,1] rfl (by kernel_rfl) (by kernel_rfl) (dM [0,1] (k:=dM [0,1] (k:=dN [0,1] (k:=?_)))))))))
 refine vV rfl rfl (jd [0,1] rfl) (fun a w ha hS=>zx 1 rfl rfl qgf rfl hcs ha hS) (dH [0,1] 0 vy (k:=dE (h:=fun Kd=>?_)))
 refine kj zm kU qdg rfl rfl rfl rfl rfl fun b62=>Kd (sb [1,2]) (dE (h:=fun Kd=>?_))
 refine zo 2 rfl hO zm qdI rfl rfl rfl rfl hn rfl fun y8 p8 c8 hO8 hc8 hr8=>?_
 refine Kd (sb [0,1]) (dN [0,1] (k:=dE (h:=fun Kd=>?_)))
 refine vj (y:=⟨pb,T,cs,true,true,none⟩) (o:=off) 1 rfl rfl rfl rfl XH rfl rfl rfl rfl (Nat.ble_eq_true_of_le (show off+1≤cs.length by omega)) ?_
 refine Kd (.inl rfl) (K8 (CJ.t [] (k:=sQ fun K9=>jb (jA (k:=K9 (jj ?_))))))
 exact je Tryz.results265 rfl fun w' hH hf=>⟨rfl,⟨⟨y8,p8,c8,hO8,by omega,fun ho=>by have:=hH.get (i:=2) rfl ho;rwa [hO8.hT]at this,fun _=>hr8,hH.get (i:=1) rfl rfl⟩,Hp.keepX (f:=⟨w,0,[T,vR]⟩) (((hH.drop 0).drop 0).drop 0) hf⟩⟩
set_option maxHeartbeats 1000000 in
theorem dUB_c (w:World) (bb pb T off k b o cD:Nat) (cs tmp:List Value) (D ns:List Nat) (y:Ent) (p:Option Addr) (l c:Nat) (xs:List Value) (hb:Blk w bb qx (yg (k:Nat) 2 0 (.slice (some ⟨b,o,none⟩) D.length cD) tmp)) (hB:Bys w b o cD D) (hD:D.length≤1000000000000) (hV:Vs ns D) (hp:Blk w pb T cs) (hcs:cs[off]? =some (.slice p l c)) (hO:Own vR 1 y p l c xs)
  (hy:y.on=true→Blk w y.b vR y.cs) (hc:c<9223372036854775808) (hTB:Nat.beq T qx=false) (hT8:Nat.beq T tU8=false) (hTR:T≠vR) (hn:l+ns.length≤100000000000):
  Calls Tryz.prog 265 #[ptr bb,.pointer (some ⟨pb,off,none⟩)] w (Ret fun v w'=>v=.nilIface∧zj vR vU w w' pb T off cs y l xs ns):=by
 have hW:[T,vR].all (fun t=> !Nat.beq t qx)=true:=by simp only[List.all_cons,hTB,Bool.not_false,List.all_nil,Bool.and_true,Bool.true_and];rfl
 have hW8:[T,vR].all (fun t=> !Nat.beq t tU8)=true:=by simp only[List.all_cons,hT8,Bool.not_false,List.all_nil,Bool.and_true,Bool.true_and];rfl
 have hc0:=mc (f:=⟨w,0,[T,vR]⟩) hb hW
 have hoff:=(List.getElem?_eq_some_iff.1 hcs).1
 refine jr (args:=[_,_]) [(0,_),(1,_)] 0 [T,vR] _ Tryz.func265 rfl Tryz.ntmps265 rfl rfl (Hp.two hp hO (fun ho=>⟨hy ho,Nat.zero_le _⟩) (Nat.zero_le _) zp zp hTR) ?_
 refine sQ fun K1=>jb (jA (k:=K1 (sQ fun K2=>sQ fun K3=>jb (jM (k:=jN (k:=jF 1 qh so3 (k:=jL ag3 hc0 1 (k:=jQ (k:=?_)))))))))
 refine jV (u:=.bool true) rfl ?_
 refine K3 (ql rfl (sQ fun K4=>jb (jM (k:=jN (k:=jF 3 qh ye (k:=jL JN hc0 3 (k:=?_)))))))
 refine kg (φ:=fun v=>v=.int .i64 (ns.length:Nat)) Tryz.call218 rfl rfl (fun w2 hH hf=>qgR w2 b o cD ns D hV (hB.mono (jk hf hW8)) hD) fun v hv=>?_
 subst hv
 refine jA (k:=K4 (CJ.t [(0,_),(1,_),(5,_)] (k:=sQ fun K5=>jb (jM (k:=jM (k:=jN (k:=?_)))))))
 refine jp rfl (fun a w ha hH hf=>Jk 0 rfl rfl qgf rfl hcs ha hH) (jM (k:=?_))
 refine kQ (R:=fun w1 v w'=>(∃y' p' c',v=.slice p' l c'∧Own vR 1 y' p' l c' xs∧c'<9223372036854775808∧(y'.on=true→Blk w' y'.b vR y'.cs)∧(y'=y∨w1.heap.size≤y'.b))∧Fr 0 [] w1 w') Tryz.call268 rfl rfl (fun w1 hH hf=>qjB w1 y p l c ns.length xs hO (fun ho=>by have:=hH.get (i:=1) rfl ho;rwa [hO.hT]at this) hc hn) fun w1 v w2 hH1 hf1 hR=>?_
 obtain ⟨⟨y1,p1,c1,rfl,hO1,hc1,hy1,hyy⟩,hf2⟩:=hR
 have hp2:Blk w2 pb T cs:=hf2.blk (hH1.get (i:=0) rfl rfl) (.inr zp)
 have hk2:jv ([pb]++qG y) w w2:=(Hp.keepX (f:=⟨w,0,[T,vR]⟩) ((hH1.drop 0).drop 0) hf1).thenF hf2
 have hb2:=hf2.blk (jk hf1 hW _ _ hb) (.inr zp)
 have hB2:Bys w2 b o cD D:=(hB.mono (jk hf1 hW8)).keep hf2
 have hc0:=mc (f:=⟨w2,0,[T,vR]⟩) hb2 hW
 have hr1:y1.on=true→(y.on=true∧y1.b=y.b)∨w.heap.size≤y1.b:=fun ho=>by
  rcases hyy with e|e
  ·left;rw[e]at ho⊢;exact ⟨ho,rfl⟩
  ·right;have:=hf1.size;exact Nat.le_trans this e
 refine J.begin ⟨w2,0,[T,vR]⟩ _ jx (Hp.two hp2 hO1 (fun ho=>⟨hy1 ho,Nat.zero_le _⟩) (Nat.zero_le _) zp zp hTR) ?_
 refine jN (k:=?_)
 refine vj (y:=⟨pb,T,cs,true,true,none⟩) (o:=off) 0 rfl rfl rfl rfl XH rfl rfl rfl rfl (Nat.ble_eq_true_of_le (show off+1≤cs.length by omega)) ?_
 refine K5 (sQ fun K6=>jb (jM (k:=jN (k:=jF 3 qh ye (k:=jL JN hc0 3 (k:=jA (k:=K6 (CJ.t [(1,_),(6,_)] (k:=sQ fun K7=>jh ?_)))))))))
 intro w3 hH3 hf3
 refine vk (σ:=List Nat×List Nat×Nat×Nat×List Nat×Ent×Option Addr×Nat) (fun s=>[(1,.pointer (some ⟨pb,off,none⟩)),(6,.slice (some ⟨b,s.2.2.1,none⟩) s.2.1.length s.2.2.2.1)])
  (fun s w'=>Vs s.1 s.2.1∧Bys w' b s.2.2.1 s.2.2.2.1 s.2.1∧s.2.1.length≤1000000000000∧ns=s.2.2.2.2.1++s.1∧Own vR 1 s.2.2.2.2.2.1 s.2.2.2.2.2.2.1 (l+s.2.2.2.2.1.length) s.2.2.2.2.2.2.2 (xs++s.2.2.2.2.1.map vU)∧s.2.2.2.2.2.2.2<9223372036854775808∧(s.2.2.2.2.2.1.on=true→Blk w' s.2.2.2.2.2.1.b vR s.2.2.2.2.2.1.cs)∧(s.2.2.2.2.2.1.on=true→(y.on=true∧s.2.2.2.2.2.1.b=y.b)∨w.heap.size≤s.2.2.2.2.2.1.b)∧Blk w' pb T (kH cs off [.slice s.2.2.2.2.2.2.1 (l+s.2.2.2.2.1.length) s.2.2.2.2.2.2.2])∧jv ([pb]++qG y) w w')
  (fun s=>s.1.length) (ns,D,o,cD,[],y1,p1,c1) ⟨rfl,rfl,trivial⟩ ⟨hV,hB2.mono (jk hf3 hW8),hD,rfl,by simpa using hO1,hc1,fun ho=>by have:=hH3.get (i:=1) rfl ho;rwa [hO1.hT]at this,hr1,hH3.get (i:=0) rfl rfl,hk2.more (Hp.keepX (f:=⟨w2,0,[T,vR]⟩) ((hH3.drop 0).drop 0) hf3) (KO hr1)⟩ ?_
 rintro ⟨ms,D',o',c',dn,y',p',cc⟩ w4 ⟨hV4,hB4,hD4,hns4,hO4,hc4,hy4,hr4,hp4,hk4⟩ KL hKL
 try dsimp only at hV4 hB4 hD4 hns4 hO4 hc4 hy4 hr4 hp4
 have hcs4:(kH cs off [.slice p' (l+dn.length) cc])[off]? =some (.slice p' (l+dn.length) cc):=by simp only[kH];exact List.getElem?_set_self hoff
 have hl4:(kH cs off [.slice p' (l+dn.length) cc]).length=cs.length:=yi _ _ _
 refine C.begin ⟨w4,0,[T,vR]⟩ _ jx (Hp.two hp4 hO4 (fun ho=>⟨hy4 ho,Nat.zero_le _⟩) (Nat.zero_le _) zp zp hTR) ?_
 try dsimp only
 refine sQ fun K8=>sQ fun K9=>jb (jM (k:=jE vY (k:=jG (k:=K9 ?_))))
 refine jq rfl (fun h34=>?_) (fun h34=>?_)
 ·obtain ⟨n,ms,rfl⟩:∃n r,ms=n::r:=by
   cases ms with
   |nil=>have:D'=[]:=hV4;subst this;simp at h34
   |cons n r=>exact ⟨n,r,rfl⟩
  obtain ⟨bs,R,rfl,hv,hn5,hr⟩:=hV4
  have hvp:=hv.pos
  have hB5:Bys w4 b (cut o' c' bs.length 1) (c' - bs.length) R:=by
   have:=hB4.drop (i:=bs.length) zp
   rwa [List.drop_left]at this
  have hnl:ns.length=dn.length+(ms.length+1):=by rw[hns4];simp
  refine jg (K8 (jh (sQ fun K10=>jb (jA (k:=K10 (sQ fun K11=>jb (jA (k:=K11 (sQ fun K12=>sQ fun K13=>jb (jM (k:=?_)))))))))))
  refine kg (φ:=fun v=>v=.tuple #[.int .u64 (n:Nat),.slice (some ⟨b,cut o' c' bs.length 1,none⟩) R.length (c' - bs.length),.nilIface]) Tryz.call143 rfl rfl (fun w5 hH hf=>zb w5 b o' c' n bs R hv hn5 (hB4.mono (jk hf hW8)) hD4) fun v hv=>?_
  subst hv
  refine jM (k:=jX (k:=jX (k:=jX (k:=jA (k:=jA (k:=jA (k:=K13 (CJ.t [(1,_),(6,_),(7,_),(8,_)] (k:=sQ fun K14=>jb (jM (k:=?_)))))))))))
  refine jn rfl (fun _ _ h=>xl Jr rfl h) (K14 (jO rfl (jg (K12 (jb (jM (k:=jM (k:=jN (k:=?_)))))))))
  refine jp rfl (fun a w ha hH hf=>Jk 0 rfl rfl qgf rfl hcs4 ha hH) (jM (k:=?_))
  refine kj zm kU qdg rfl rfl rfl rfl rfl fun b49=>?_
  refine zo 1 rfl hO4 zm qdI rfl rfl rfl rfl (show l+dn.length+1≤100000000000 by omega) rfl fun y8 p8 c8 hO8 hc8 hr8=>?_
  refine jN (k:=?_)
  refine vj (y:=⟨pb,T,kH cs off [.slice p' (l+dn.length) cc],true,true,none⟩) (o:=off) 0 rfl rfl rfl rfl XH rfl rfl rfl rfl (Nat.ble_eq_true_of_le (show off+1≤(kH cs off [.slice p' (l+dn.length) cc]).length by omega)) ?_
  refine jw (Qq (ji ?_))
  exact fun w' hH hf=>hKL (ms,R,cut o' c' bs.length 1,c' - bs.length,dn++[n],y8,p8,c8) _ w' ⟨hr,hB5.mono (jk hf hW8),by simp only[lA]at hD4;show R.length≤_;omega,by rw[hns4];simp,by
    have h8:=hO8
    rw[List.append_assoc]at h8
    simp only[lA,List.length_singleton,List.map_append,List.map_cons,List.map_nil]
    exact h8,by show c8<_;omega,fun ho=>by have:=hH.get (i:=1) rfl ho;rwa [hO8.hT]at this,fun ho=>by
    rcases hr8 with ⟨e1,e2⟩|e
    ·rcases hr4 e1 with ⟨e3,e4⟩|e3
     ·exact .inl ⟨e3,e2.trans e4⟩
     ·right;show w.heap.size≤y8.b;rw[e2];exact e3
    ·right;exact Nat.le_trans hk4.size e,by
    have h9:=hH.get (i:=0) rfl rfl
    have e9:∀v u:Value,scal u=true→kH (kH cs off [v]) off u.cells.toList=kH cs off [u]:=fun v u hu=>by rw[JX hu];simp only[kH,List.set_set]
    rw[e9 _ _ rfl]at h9
    simp only[lA,List.length_singleton]
    exact h9,hk4.more (Hp.keepX (f:=⟨w4,0,[T,vR]⟩) ((hH.drop 0).drop 0) hf) (KO hr4)⟩ zp ⟨rfl,rfl,trivial⟩
 ·refine jt (K7 (sQ fun K15=>jb (jA (k:=K15 (CJ.t [(4,_)] (k:=jj ?_))))))
  exact je Tryz.results265 rfl fun w' hH hf=>⟨rfl,by
   have hms:ms=[]:=by
    have h0:D'.length=0:=by omega
    have:=Vs.len hV4
    exact List.eq_nil_of_length_eq_zero ox
   subst hms
   rw[List.append_nil]at hns4
   subst hns4
   exact ⟨⟨y',p',cc,hO4,hc4,fun ho=>by have:=hH.get (i:=1) rfl ho;rwa [hO4.hT]at this,hr4,hH.get (i:=0) rfl rfl⟩,hk4.more (Hp.keepX (f:=⟨w4,0,[T,vR]⟩) ((hH.drop 0).drop 0) hf) (KO hr4)⟩⟩
theorem Xv (T iT:Nat) (sch:Sch) (ds:List Value) (tb:Nat→Nat) (hTB:T≠qx) (hT8:T≠tU8) (hTD:T≠Jy) (hs:qaI T iT sch) (hds:ZT tb ds) (h1:∀(k:Nat) (g:FuncId),ds[k]? =some (Value.func (.func g) #[] #[])→∃off val,sch[k]? =some (some (g,off,val))) (h0:∀k,tb k=0→∀e,sch[k]? ≠some (some e)) (htb:∀k,tb k≤1)
    (w:World) (bb pb o k0:Nat) (m:Msg) (cs:List Value) (hm:MOK tb m) (hbuf:ya w bb (.bys k0 (mB m))) (hp:Blk w pb T cs) (hoff:∀(k:Nat) g off val,sch[k]? =some (some (g,off,val))→o+off<cs.length)
    (hdec:∀w',Blk w' pb T cs→VQ iT (.pointer (some ⟨pb,o,none⟩)) ds w'):
    Calls Tryz.prog 105 #[ptr bb,.iface iT (.pointer (some ⟨pb,o,none⟩))] w (Ret fun v w'=>v=.nilIface∧Blk w' pb T ((kV m).foldl (apS sch o) cs)∧jv [bb,pb] w w'∧vi w' bb):=by
  have hne:∀w' cs',vi w' bb→Blk w' pb T cs'→pb≠bb:=fun w' cs' hb hq=>by
    obtain ⟨f,t,u,dv,tmp,hb⟩:=hb
    exact hq.ne hb hTB
  refine Calls.mono (qby w bb pb iT T _ ds tb m k0 cs hm (fun k=>by have:=htb k;omega) hds hbuf hp hT8 hTD (fun w' hf=>hdec w' (hf.blk hp (.inr zp)))
    (fun w1 pre w'=>jv [bb,pb] w1 w'∧vi w' bb∧Blk w' pb T (pre.foldl (apS sch o) cs)) fun w1 hf1=>?_) (Ret.mono fun v w' h=>?_)
  · have hb1:vi w1 bb:=(ya.keep hbuf hf1).at_
    refine ⟨⟨.refl,hb1,hf1.blk hp (.inr zp)⟩,fun pre w' h=>h.1,fun pre w' h=>h.2.1,fun pre w2 w3 h k hb=>⟨h.1.trans' (k.mono zp),hb,k.blk h.2.2 (by simpa using hne _ _ h.2.1 h.2.2)⟩,fun pre f w2 hpf h ht=>?_,fun pre f w2 g hpf h hbf hw hg=>?_⟩
    · refine ⟨h.1,h.2.1,?_⟩
      rw[List.foldl_append]
      have:apS sch o (pre.foldl (apS sch o) cs) f=pre.foldl (apS sch o) cs:=by
        unfold apS
        split
        · next g off val he=>exact absurd he (h0 _ ht _)
        · rfl
      simpa[this]using h.2.2
    · obtain ⟨off,val,he⟩:=h1 _ _ hg
      cases f with
      |bys k D=>have:=htb k;simp only at hw;omega
      |num k n=>
       obtain ⟨hn,tmp,hbk⟩:=hbf
       refine Calls.mono (hs k g off val he w2 bb pb o k n _ tmp hn hbk h.2.2 (by rw[qcE];exact hoff k g off val he)) (Ret.mono fun v w3 hR=>?_)
       obtain ⟨rfl,h4,h5⟩:=hR
       refine ⟨rfl,h.1.trans' (h5.mono zp),h.2.1.keep fun cs' hk=>h5.blk hk (by simpa using (hne _ _ h.2.1 h.2.2).symm),?_⟩
       rw[List.foldl_append]
       have:∀X,apS sch o X (.num k n)=kH X (o+off) [val n]:=fun X=>by
          unfold apS
          rw[he];rfl
       simpa[this]using h4
  · obtain ⟨rfl,w1,hf1,h2,h3,h4⟩:=h
    exact ⟨rfl,h4,h2.afterF hf1,h3⟩
theorem KQ (k s:Nat) (f:Fld) (r:List Fld):jP k s (f::r)=jP k (if kn f=k then qfC f else s) r:=rfl
abbrev Ye:Sch:=[none,some (225,2,vI),some (226,3,vI)]
theorem qgl:qaI tVT ivt Ye:=fun k g off val h=>by
  rcases (by omega:k=0∨k=1∨k=2∨3≤k) with rfl|rfl|rfl|hk
  · cases h
  · cases h;exact vt1_s
  · cases h;exact vt2_s
  · rw[List.getElem?_eq_none (by simpa using hk)]at h;cases h
theorem qiw:ZT tb2 qaN:=⟨fun k h=>by
  rcases (by omega:k=0∨k=1∨k=2∨3≤k) with rfl|rfl|rfl|hk
  · exact absurd rfl h
  · exact ⟨_,rfl,call225⟩
  · exact ⟨_,rfl,call226⟩
  · exact absurd (by unfold tb2;rw[if_neg ox]) h,fun k h=>by
  rcases (by omega:k=0∨k=1∨k=2∨3≤k) with rfl|rfl|rfl|hk
  · exact .inr rfl
  · cases h
  · cases h
  · exact .inl (List.getElem?_eq_none (by simpa using hk)),by decide⟩
theorem qgn:∀(k:Nat) (g:FuncId),(qaN)[k]? =some (Value.func (.func g) #[] #[])→∃off val,(Ye)[k]? =some (some (g,off,val)):=fun k g h=>by
  rcases (by omega:k=0∨k=1∨k=2∨3≤k) with rfl|rfl|rfl|hk
  · cases h
  · cases h;exact ⟨_,_,rfl⟩
  · cases h;exact ⟨_,_,rfl⟩
  · rw[List.getElem?_eq_none (by simpa using hk)]at h;cases h
theorem qgm:∀k,tb2 k=0→∀e,(Ye)[k]? ≠some (some e):=fun k h e he=>by
  rcases (by omega:k=0∨k=1∨k=2∨3≤k) with rfl|rfl|rfl|hk
  · cases he
  · cases h
  · cases h
  · rw[List.getElem?_eq_none (by simpa using hk)]at he;cases he
theorem qgk:∀k,tb2 k≤1:=fun k=>by unfold tb2;split<;>omega
theorem qeU:∀(k:Nat) g off val,(Ye)[k]? =some (some (g,off,val))→off<4:=fun k g off val h=>by
  rcases (by omega:k=0∨k=1∨k=2∨3≤k) with rfl|rfl|rfl|hk
  · cases h
  · cases h;omega
  · cases h;omega
  · rw[List.getElem?_eq_none (by simpa using hk)]at h;cases h
theorem qdX:∀(fs:List Fld) (z0 z1:Value) (n1 n2:Nat),fs.foldl (apS Ye 0) [z0,z1,vI (n1),vI (n2)]=[z0,z1,vI (jP 1 n1 fs),vI (jP 2 n2 fs)]
  |[],_,_,_,_=>rfl
  |f::r,z0,z1,n1,n2=>by
    have key:=fun n1 n2=>qdX r z0 z1 n1 n2
    rw[List.foldl_cons]
    rcases (by omega:kn f=0∨kn f=1∨kn f=2∨3≤kn f) with hk|hk|hk|hk
    all_goals
      simp only[KQ,hk,apS,Ye,List.getElem?_cons_zero,List.getElem?_cons_succ,kH,List.set_cons_zero,List.set_cons_succ,Nat.zero_add,Nat.reduceEqDiff,if_true,if_false,Nat.reduceAdd]
      try first
        |exact key _ _
        |(have hne:∀j<3,¬kn f=j:=fun j hj=>by omega
          have hn:([none,some (225,2,vI),some (226,3,vI)]:Sch)[kn f]? =none:=List.getElem?_eq_none (by simpa using hk)
          rw[hn]
          simp only[if_neg (hne 1 ox),if_neg (hne 2 ox)]
          exact key _ _)
abbrev VM:Sch:=[none,some (273,0,vI),some (274,1,vI),some (275,2,vI)]
theorem qho:qaI vq ilb VM:=fun k g off val h=>by
  rcases (by omega:k=0∨k=1∨k=2∨k=3∨4≤k) with rfl|rfl|rfl|rfl|hk
  · cases h
  · cases h;exact lb1_s
  · cases h;exact lb2_s
  · cases h;exact lb3_s
  · rw[List.getElem?_eq_none (by simpa using hk)]at h;cases h
theorem qjt:ZT tb3 qbl:=⟨fun k h=>by
  rcases (by omega:k=0∨k=1∨k=2∨k=3∨4≤k) with rfl|rfl|rfl|rfl|hk
  · exact absurd rfl h
  · exact ⟨_,rfl,call273⟩
  · exact ⟨_,rfl,call274⟩
  · exact ⟨_,rfl,call275⟩
  · exact absurd (by unfold tb3;rw[if_neg ox]) h,fun k h=>by
  rcases (by omega:k=0∨k=1∨k=2∨k=3∨4≤k) with rfl|rfl|rfl|rfl|hk
  · exact .inr rfl
  · cases h
  · cases h
  · cases h
  · exact .inl (List.getElem?_eq_none (by simpa using hk)),by decide⟩
theorem qhq:∀(k:Nat) (g:FuncId),(qbl)[k]? =some (Value.func (.func g) #[] #[])→∃off val,(VM)[k]? =some (some (g,off,val)):=fun k g h=>by
  rcases (by omega:k=0∨k=1∨k=2∨k=3∨4≤k) with rfl|rfl|rfl|rfl|hk
  · cases h
  · cases h;exact ⟨_,_,rfl⟩
  · cases h;exact ⟨_,_,rfl⟩
  · cases h;exact ⟨_,_,rfl⟩
  · rw[List.getElem?_eq_none (by simpa using hk)]at h;cases h
theorem qhp:∀k,tb3 k=0→∀e,(VM)[k]? ≠some (some e):=fun k h e he=>by
  rcases (by omega:k=0∨k=1∨k=2∨k=3∨4≤k) with rfl|rfl|rfl|rfl|hk
  · cases he
  · cases h
  · cases h
  · cases h
  · rw[List.getElem?_eq_none (by simpa using hk)]at he;cases he
theorem qhn:∀k,tb3 k≤1:=fun k=>by unfold tb3;split<;>omega
theorem qas:∀(k:Nat) g off val,(VM)[k]? =some (some (g,off,val))→off<3:=fun k g off val h=>by
  rcases (by omega:k=0∨k=1∨k=2∨k=3∨4≤k) with rfl|rfl|rfl|rfl|hk
  · cases h
  · cases h;omega
  · cases h;omega
  · cases h;omega
  · rw[List.getElem?_eq_none (by simpa using hk)]at h;cases h
theorem qer:∀(fs:List Fld) (n1 n2 n3:Nat),fs.foldl (apS VM 0) [vI (n1),vI (n2),vI (n3)]=[vI (jP 1 n1 fs),vI (jP 2 n2 fs),vI (jP 3 n3 fs)]
  |[],_,_,_=>rfl
  |f::r,n1,n2,n3=>by
    have key:=fun n1 n2 n3=>qer r n1 n2 n3
    rw[List.foldl_cons]
    rcases (by omega:kn f=0∨kn f=1∨kn f=2∨kn f=3∨4≤kn f) with hk|hk|hk|hk|hk
    all_goals
      simp only[KQ,hk,apS,VM,List.getElem?_cons_zero,List.getElem?_cons_succ,kH,List.set_cons_zero,List.set_cons_succ,Nat.zero_add,Nat.reduceEqDiff,if_true,if_false,Nat.reduceAdd]
      try first
        |exact key _ _ _
        |(have hne:∀j<4,¬kn f=j:=fun j hj=>by omega
          have hn:([none,some (273,0,vI),some (274,1,vI),some (275,2,vI)]:Sch)[kn f]? =none:=List.getElem?_eq_none (by simpa using hk)
          rw[hn]
          simp only[if_neg (hne 1 ox),if_neg (hne 2 ox),if_neg (hne 3 ox)]
          exact key _ _ _)
abbrev Yk:Sch:=[none,some (232,0,vU),some (234,1,vU),some (235,2,vU),some (236,3,vU),some (237,10,vI),some (238,11,vI),some (239,6,vB),some (241,7,vB),some (242,8,vB),some (243,9,vB)]
theorem qgW:qaI vO imp Yk:=fun k g off val h=>by
  rcases (by omega:k=0∨k=1∨k=2∨k=3∨k=4∨k=5∨k=6∨k=7∨k=8∨k=9∨k=10∨11≤k) with rfl|rfl|rfl|rfl|rfl|rfl|rfl|rfl|rfl|rfl|rfl|hk
  · cases h
  · cases h;exact mp1_s
  · cases h;exact mp2_s
  · cases h;exact mp3_s
  · cases h;exact mp4_s
  · cases h;exact mp5_s
  · cases h;exact mp6_s
  · cases h;exact mp7_s
  · cases h;exact mp8_s
  · cases h;exact mp9_s
  · cases h;exact qlm
  · rw[List.getElem?_eq_none (by simpa using hk)]at h;cases h
theorem qiY:ZT qdj qbi:=⟨fun k h=>by
  rcases (by omega:k=0∨k=1∨k=2∨k=3∨k=4∨k=5∨k=6∨k=7∨k=8∨k=9∨k=10∨11≤k) with rfl|rfl|rfl|rfl|rfl|rfl|rfl|rfl|rfl|rfl|rfl|hk
  · exact absurd rfl h
  · exact ⟨_,rfl,call232⟩
  · exact ⟨_,rfl,call234⟩
  · exact ⟨_,rfl,call235⟩
  · exact ⟨_,rfl,call236⟩
  · exact ⟨_,rfl,call237⟩
  · exact ⟨_,rfl,call238⟩
  · exact ⟨_,rfl,call239⟩
  · exact ⟨_,rfl,call241⟩
  · exact ⟨_,rfl,call242⟩
  · exact ⟨_,rfl,call243⟩
  · exact absurd (by unfold qdj;rw[if_neg ox]) h,fun k h=>by
  rcases (by omega:k=0∨k=1∨k=2∨k=3∨k=4∨k=5∨k=6∨k=7∨k=8∨k=9∨k=10∨11≤k) with rfl|rfl|rfl|rfl|rfl|rfl|rfl|rfl|rfl|rfl|rfl|hk
  · exact .inr rfl
  · cases h
  · cases h
  · cases h
  · cases h
  · cases h
  · cases h
  · cases h
  · cases h
  · cases h
  · cases h
  · exact .inl (List.getElem?_eq_none (by simpa using hk)),by decide⟩
theorem qgY:∀(k:Nat) (g:FuncId),(qbi)[k]? =some (Value.func (.func g) #[] #[])→∃off val,(Yk)[k]? =some (some (g,off,val)):=fun k g h=>by
  rcases (by omega:k=0∨k=1∨k=2∨k=3∨k=4∨k=5∨k=6∨k=7∨k=8∨k=9∨k=10∨11≤k) with rfl|rfl|rfl|rfl|rfl|rfl|rfl|rfl|rfl|rfl|rfl|hk
  · cases h
  · cases h;exact ⟨_,_,rfl⟩
  · cases h;exact ⟨_,_,rfl⟩
  · cases h;exact ⟨_,_,rfl⟩
  · cases h;exact ⟨_,_,rfl⟩
  · cases h;exact ⟨_,_,rfl⟩
  · cases h;exact ⟨_,_,rfl⟩
  · cases h;exact ⟨_,_,rfl⟩
  · cases h;exact ⟨_,_,rfl⟩
  · cases h;exact ⟨_,_,rfl⟩
  · cases h;exact ⟨_,_,rfl⟩
  · rw[List.getElem?_eq_none (by simpa using hk)]at h;cases h
theorem qgX:∀k,qdj k=0→∀e,(Yk)[k]? ≠some (some e):=fun k h e he=>by
  rcases (by omega:k=0∨k=1∨k=2∨k=3∨k=4∨k=5∨k=6∨k=7∨k=8∨k=9∨k=10∨11≤k) with rfl|rfl|rfl|rfl|rfl|rfl|rfl|rfl|rfl|rfl|rfl|hk
  · cases he
  · cases h
  · cases h
  · cases h
  · cases h
  · cases h
  · cases h
  · cases h
  · cases h
  · cases h
  · cases h
  · rw[List.getElem?_eq_none (by simpa using hk)]at he;cases he
theorem qgV:∀k,qdj k≤1:=fun k=>by unfold qdj;split<;>omega
theorem qfj:∀(k:Nat) g off val,(Yk)[k]? =some (some (g,off,val))→off<12:=fun k g off val h=>by
  rcases (by omega:k=0∨k=1∨k=2∨k=3∨k=4∨k=5∨k=6∨k=7∨k=8∨k=9∨k=10∨11≤k) with rfl|rfl|rfl|rfl|rfl|rfl|rfl|rfl|rfl|rfl|rfl|hk
  · cases h
  · cases h;omega
  · cases h;omega
  · cases h;omega
  · cases h;omega
  · cases h;omega
  · cases h;omega
  · cases h;omega
  · cases h;omega
  · cases h;omega
  · cases h;omega
  · rw[List.getElem?_eq_none (by simpa using hk)]at h;cases h
theorem qeo:∀(fs:List Fld) (z4 z5:Value) (n1 n2 n3 n4 n5 n6 n7 n8 n9 n10:Nat),fs.foldl (apS Yk 0) [vU (n1),vU (n2),vU (n3),vU (n4),z4,z5,vB (n7),vB (n8),vB (n9),vB (n10),vI (n5),vI (n6)]=[vU (jP 1 n1 fs),vU (jP 2 n2 fs),vU (jP 3 n3 fs),vU (jP 4 n4 fs),z4,z5,vB (jP 7 n7 fs),vB (jP 8 n8 fs),vB (jP 9 n9 fs),vB (jP 10 n10 fs),vI (jP 5 n5 fs),vI (jP 6 n6 fs)]
  |[],_,_,_,_,_,_,_,_,_,_,_,_=>rfl
  |f::r,z4,z5,n1,n2,n3,n4,n5,n6,n7,n8,n9,n10=>by
    have key:=fun n1 n2 n3 n4 n5 n6 n7 n8 n9 n10=>qeo r z4 z5 n1 n2 n3 n4 n5 n6 n7 n8 n9 n10
    rw[List.foldl_cons]
    rcases (by omega:kn f=0∨kn f=1∨kn f=2∨kn f=3∨kn f=4∨kn f=5∨kn f=6∨kn f=7∨kn f=8∨kn f=9∨kn f=10∨11≤kn f) with hk|hk|hk|hk|hk|hk|hk|hk|hk|hk|hk|hk
    all_goals
      simp only[KQ,hk,apS,Yk,List.getElem?_cons_zero,List.getElem?_cons_succ,kH,List.set_cons_zero,List.set_cons_succ,Nat.zero_add,Nat.reduceEqDiff,if_true,if_false,Nat.reduceAdd]
      try first
        |exact key _ _ _ _ _ _ _ _ _ _
        |(have hne:∀j<11,¬kn f=j:=fun j hj=>by omega
          have hn:([none,some (232,0,vU),some (234,1,vU),some (235,2,vU),some (236,3,vU),some (237,10,vI),some (238,11,vI),some (239,6,vB),some (241,7,vB),some (242,8,vB),some (243,9,vB)]:Sch)[kn f]? =none:=List.getElem?_eq_none (by simpa using hk)
          rw[hn]
          simp only[if_neg (hne 1 ox),if_neg (hne 2 ox),if_neg (hne 3 ox),if_neg (hne 4 ox),if_neg (hne 5 ox),if_neg (hne 6 ox),if_neg (hne 7 ox),if_neg (hne 8 ox),if_neg (hne 9 ox),if_neg (hne 10 ox)]
          exact key _ _ _ _ _ _ _ _ _ _)
abbrev VL:Sch:=[none,some (281,2,vU),some (282,1,vI)]
theorem qhg:qaI kq iln VL:=fun k g off val h=>by
  rcases (by omega:k=0∨k=1∨k=2∨3≤k) with rfl|rfl|rfl|hk
  · cases h
  · cases h;exact ln1_s
  · cases h;exact ln2_s
  · rw[List.getElem?_eq_none (by simpa using hk)]at h;cases h
theorem qjg:ZT tb2 qbj:=⟨fun k h=>by
  rcases (by omega:k=0∨k=1∨k=2∨3≤k) with rfl|rfl|rfl|hk
  · exact absurd rfl h
  · exact ⟨_,rfl,call281⟩
  · exact ⟨_,rfl,call282⟩
  · exact absurd (by unfold tb2;rw[if_neg ox]) h,fun k h=>by
  rcases (by omega:k=0∨k=1∨k=2∨3≤k) with rfl|rfl|rfl|hk
  · exact .inr rfl
  · cases h
  · cases h
  · exact .inl (List.getElem?_eq_none (by simpa using hk)),by decide⟩
theorem qhi:∀(k:Nat) (g:FuncId),(qbj)[k]? =some (Value.func (.func g) #[] #[])→∃off val,(VL)[k]? =some (some (g,off,val)):=fun k g h=>by
  rcases (by omega:k=0∨k=1∨k=2∨3≤k) with rfl|rfl|rfl|hk
  · cases h
  · cases h;exact ⟨_,_,rfl⟩
  · cases h;exact ⟨_,_,rfl⟩
  · rw[List.getElem?_eq_none (by simpa using hk)]at h;cases h
theorem qhh:∀k,tb2 k=0→∀e,(VL)[k]? ≠some (some e):=fun k h e he=>by
  rcases (by omega:k=0∨k=1∨k=2∨3≤k) with rfl|rfl|rfl|hk
  · cases he
  · cases h
  · cases h
  · rw[List.getElem?_eq_none (by simpa using hk)]at he;cases he
theorem qhf:∀k,tb2 k≤1:=fun k=>by unfold tb2;split<;>omega
theorem qar:∀(k:Nat) g off val,(VL)[k]? =some (some (g,off,val))→off<3:=fun k g off val h=>by
  rcases (by omega:k=0∨k=1∨k=2∨3≤k) with rfl|rfl|rfl|hk
  · cases h
  · cases h;omega
  · cases h;omega
  · rw[List.getElem?_eq_none (by simpa using hk)]at h;cases h
theorem qeq:∀(fs:List Fld) (z0:Value) (n1 n2:Nat),fs.foldl (apS VL 0) [z0,vI (n2),vU (n1)]=[z0,vI (jP 2 n2 fs),vU (jP 1 n1 fs)]
  |[],_,_,_=>rfl
  |f::r,z0,n1,n2=>by
    have key:=fun n1 n2=>qeq r z0 n1 n2
    rw[List.foldl_cons]
    rcases (by omega:kn f=0∨kn f=1∨kn f=2∨3≤kn f) with hk|hk|hk|hk
    all_goals
      simp only[KQ,hk,apS,VL,List.getElem?_cons_zero,List.getElem?_cons_succ,kH,List.set_cons_zero,List.set_cons_succ,Nat.zero_add,Nat.reduceEqDiff,if_true,if_false,Nat.reduceAdd]
      try first
        |exact key _ _
        |(have hne:∀j<3,¬kn f=j:=fun j hj=>by omega
          have hn:([none,some (281,2,vU),some (282,1,vI)]:Sch)[kn f]? =none:=List.getElem?_eq_none (by simpa using hk)
          rw[hn]
          simp only[if_neg (hne 1 ox),if_neg (hne 2 ox)]
          exact key _ _)
abbrev Ym:Sch:=[none,some (248,0,vU),some (249,5,vI),some (250,6,vI),some (251,7,vI),some (252,4,vI)]
theorem qhN:qaI xi ifn Ym:=fun k g off val h=>by
  rcases (by omega:k=0∨k=1∨k=2∨k=3∨k=4∨k=5∨6≤k) with rfl|rfl|rfl|rfl|rfl|rfl|hk
  · cases h
  · cases h;exact fn1_s
  · cases h;exact fn2_s
  · cases h;exact fn3_s
  · cases h;exact fn4_s
  · cases h;exact fn5_s
  · rw[List.getElem?_eq_none (by simpa using hk)]at h;cases h
theorem qjF:ZT tb5 qbs:=⟨fun k h=>by
  rcases (by omega:k=0∨k=1∨k=2∨k=3∨k=4∨k=5∨6≤k) with rfl|rfl|rfl|rfl|rfl|rfl|hk
  · exact absurd rfl h
  · exact ⟨_,rfl,call248⟩
  · exact ⟨_,rfl,call249⟩
  · exact ⟨_,rfl,call250⟩
  · exact ⟨_,rfl,call251⟩
  · exact ⟨_,rfl,call252⟩
  · exact absurd (by unfold tb5;rw[if_neg ox]) h,fun k h=>by
  rcases (by omega:k=0∨k=1∨k=2∨k=3∨k=4∨k=5∨6≤k) with rfl|rfl|rfl|rfl|rfl|rfl|hk
  · exact .inr rfl
  · cases h
  · cases h
  · cases h
  · cases h
  · cases h
  · exact .inl (List.getElem?_eq_none (by simpa using hk)),by decide⟩
theorem qhP:∀(k:Nat) (g:FuncId),(qbs)[k]? =some (Value.func (.func g) #[] #[])→∃off val,(Ym)[k]? =some (some (g,off,val)):=fun k g h=>by
  rcases (by omega:k=0∨k=1∨k=2∨k=3∨k=4∨k=5∨6≤k) with rfl|rfl|rfl|rfl|rfl|rfl|hk
  · cases h
  · cases h;exact ⟨_,_,rfl⟩
  · cases h;exact ⟨_,_,rfl⟩
  · cases h;exact ⟨_,_,rfl⟩
  · cases h;exact ⟨_,_,rfl⟩
  · cases h;exact ⟨_,_,rfl⟩
  · rw[List.getElem?_eq_none (by simpa using hk)]at h;cases h
theorem qhO:∀k,tb5 k=0→∀e,(Ym)[k]? ≠some (some e):=fun k h e he=>by
  rcases (by omega:k=0∨k=1∨k=2∨k=3∨k=4∨k=5∨6≤k) with rfl|rfl|rfl|rfl|rfl|rfl|hk
  · cases he
  · cases h
  · cases h
  · cases h
  · cases h
  · cases h
  · rw[List.getElem?_eq_none (by simpa using hk)]at he;cases he
theorem qhM:∀k,tb5 k≤1:=fun k=>by unfold tb5;split<;>omega
theorem qfD:∀(k:Nat) g off val,(Ym)[k]? =some (some (g,off,val))→off<8:=fun k g off val h=>by
  rcases (by omega:k=0∨k=1∨k=2∨k=3∨k=4∨k=5∨6≤k) with rfl|rfl|rfl|rfl|rfl|rfl|hk
  · cases h
  · cases h;omega
  · cases h;omega
  · cases h;omega
  · cases h;omega
  · cases h;omega
  · rw[List.getElem?_eq_none (by simpa using hk)]at h;cases h
theorem qez:∀(fs:List Fld) (z1 z2 z3:Value) (n1 n2 n3 n4 n5:Nat),fs.foldl (apS Ym 0) [vU (n1),z1,z2,z3,vI (n5),vI (n2),vI (n3),vI (n4)]=[vU (jP 1 n1 fs),z1,z2,z3,vI (jP 5 n5 fs),vI (jP 2 n2 fs),vI (jP 3 n3 fs),vI (jP 4 n4 fs)]
  |[],_,_,_,_,_,_,_,_=>rfl
  |f::r,z1,z2,z3,n1,n2,n3,n4,n5=>by
    have key:=fun n1 n2 n3 n4 n5=>qez r z1 z2 z3 n1 n2 n3 n4 n5
    rw[List.foldl_cons]
    rcases (by omega:kn f=0∨kn f=1∨kn f=2∨kn f=3∨kn f=4∨kn f=5∨6≤kn f) with hk|hk|hk|hk|hk|hk|hk
    all_goals
      simp only[KQ,hk,apS,Ym,List.getElem?_cons_zero,List.getElem?_cons_succ,kH,List.set_cons_zero,List.set_cons_succ,Nat.zero_add,Nat.reduceEqDiff,if_true,if_false,Nat.reduceAdd]
      try first
        |exact key _ _ _ _ _
        |(have hne:∀j<6,¬kn f=j:=fun j hj=>by omega
          have hn:([none,some (248,0,vU),some (249,5,vI),some (250,6,vI),some (251,7,vI),some (252,4,vI)]:Sch)[kn f]? =none:=List.getElem?_eq_none (by simpa using hk)
          rw[hn]
          simp only[if_neg (hne 1 ox),if_neg (hne 2 ox),if_neg (hne 3 ox),if_neg (hne 4 ox),if_neg (hne 5 ox)]
          exact key _ _ _ _ _)
theorem ya.mono {f:Fld} (h:ya w bb f) (k1:∀cs,Blk w bb qx cs→Blk w' bb qx cs) (k2:∀b cs,Blk w b tU8 cs→Blk w' b tU8 cs):ya w' bb f:=by
 cases f with
 |num n m=>obtain ⟨h1,tmp,h⟩:=h;exact ⟨h1,tmp,k1 _ h⟩
 |bys n D=>obtain ⟨h1,b,o,c,tmp,h,h2⟩:=h;exact ⟨h1,b,o,c,tmp,k1 _ h,h2.mono k2⟩
theorem Vc {f:Fld} (k:Fm.ok ⟨w,0,W⟩ w') (h:ya w bb f) (h1:W.all (fun t=> !Nat.beq t qx)=true) (h2:W.all (fun t=> !Nat.beq t tU8)=true):ya w' bb f:=h.mono (fun cs=>jk k h1 _ cs) (jk k h2)
theorem vi.ne (h:vi w bb) (k:Blk w b T cs) (hT:T≠qx):b≠bb:=by
 obtain ⟨f,t,u,dv,tmp,h⟩:=h
 exact k.ne h hT
structure ZB (T2:Nat) (φ:World→Nat→Prop) (w w':World) (bb pb T off:Nat) (cs:List Value) (y:Ent) (l:Nat) (xs:List Value):Prop where
 ex:∃xb y' p' c',Own T2 1 y' p' (l+1) c' (xs++[ptr xb])∧(y'.on=true→Blk w' y'.b T2 y'.cs)∧(y'.on=true→(y.on=true∧y'.b=y.b)∨w.heap.size≤y'.b)∧Blk w' pb T (kH cs off [.slice p' (l+1) c'])∧w.heap.size≤xb∧φ w' xb
 kx:jv ([bb,pb]++qG y) w w'
 buf:vi w' bb
structure qis (T2 sz:Nat) (zs:List Value) (w w':World) (bb pb T off:Nat) (cs:List Value) (y:Ent) (l:Nat) (xs:List Value):Prop where
 ex:∃y' p' c',Own T2 sz y' p' (l+1) c' (xs++zs)∧(y'.on=true→Blk w' y'.b T2 y'.cs)∧(y'.on=true→(y.on=true∧y'.b=y.b)∨w.heap.size≤y'.b)∧Blk w' pb T (kH cs off [.slice p' (l+1) c'])
 kx:jv ([bb,pb]++qG y) w w'
 buf:vi w' bb
theorem yp {q T2:Nat} (hy:y.on=true→Blk w y.b T2 y.cs) (h:Blk w q T cs) (hT:T≠T2):q∉qG y:=fun hm=>by
 unfold qG at hm
 split at hm
 ·next ho=>simp at hm;exact h.ne (hy ho) hT hm
 ·cases hm
theorem sm1_l (w:World) (bb pb:Nat) (f:Fld) (ns:List Nat) (cs:List Value) (y:Ent) (p:Option Addr) (l c:Nat) (xs:List Value) (hf:ya w bb f) (hv:GV f ns) (hp:Blk w pb kY cs) (hcs:cs[5]? =some (.slice p l c)) (hO:Own vR 1 y p l c xs) (hy:y.on=true→Blk w y.b vR y.cs) (hc:c<9223372036854775808) (hn:l+ns.length≤100000000000):
  Calls Tryz.prog 264 #[ptr bb,.iface ism (ptr pb)] w (Ret fun v w'=>v=.nilIface∧zj vR vU w w' pb kY 5 cs y l xs ns):=by
 have hcall:∀w1,Fr 0 [] w w1→Calls Tryz.prog 265 #[ptr bb,.pointer (some ⟨pb,5,none⟩)] w1 (Ret fun v w'=>v=.nilIface∧zj vR vU w1 w' pb kY 5 cs y l xs ns):=fun w1 h=>by
  have hf:=hf.keep h
  have hy:=fun ho=>h.blk (hy ho) (.inr zp)
  have hp:=h.blk hp (.inr zp)
  cases f with
  |num k n=>
   obtain ⟨rfl,hn2⟩:=hv
   obtain ⟨-,tmp,hb⟩:=hf
   exact dUN_c w1 bb pb kY 5 k n cs tmp y p l c xs hb hp hcs hO hy hc rfl dq hn
  |bys k D=>
   obtain ⟨hD,b,o,c',tmp,hb,hB⟩:=hf
   exact dUB_c w1 bb pb kY 5 k b o c' cs tmp D ns y p l c xs hb hB hD hv hp hcs hO hy hc rfl rfl dq hn
 refine jr (args:=[_,_]) [(0,_),(1,_)] 0 [] [] func264 rfl ntmps264 rfl rfl .nil ?_
 refine sQ fun K1=>jb (jA (k:=K1 (sQ fun K2=>jb (jM (k:=jM (k:=?_))))))
 refine jn rfl (fun _ _ h=>xM qbZ rfl h) (jN (k:=jF 5 vl XH (k:=?_)))
 refine kQ (R:=fun w1 v w'=>v=.nilIface∧zj vR vU w1 w' pb kY 5 cs y l xs ns) call265 rfl rfl (fun w1 hH hf=>hcall w1 hf) fun w1 v w2 hH1 hf1 hR=>?_
 obtain ⟨rfl,hN⟩:=hR
 refine J.begin ⟨w2,0,[]⟩ [] jx .nil ?_
 refine jA (k:=K2 (jj ?_))
 exact je results264 rfl fun w' hH hf=>⟨rfl,hN.fr hf1 hf⟩
theorem sm2_l (w:World) (bb pb:Nat) (f:Fld) (ns:List Nat) (cs:List Value) (y:Ent) (p:Option Addr) (l c:Nat) (xs:List Value) (hf:ya w bb f) (hv:GV f ns) (hp:Blk w pb kY cs) (hcs:cs[1]? =some (.slice p l c)) (hO:Own qd 1 y p l c xs) (hy:y.on=true→Blk w y.b qd y.cs) (hc:c<9223372036854775808) (hn:l+ns.length≤100000000000):
  Calls Tryz.prog 266 #[ptr bb,.iface ism (ptr pb)] w (Ret fun v w'=>v=.nilIface∧zj qd vI w w' pb kY 1 cs y l xs ns):=by
 have hcall:∀w1,Fr 0 [] w w1→Calls Tryz.prog 212 #[ptr bb,.pointer (some ⟨pb,1,none⟩)] w1 (Ret fun v w'=>v=.nilIface∧zj qd vI w1 w' pb kY 1 cs y l xs ns):=fun w1 h=>by
  have hf:=hf.keep h
  have hy:=fun ho=>h.blk (hy ho) (.inr zp)
  have hp:=h.blk hp (.inr zp)
  cases f with
  |num k n=>
   obtain ⟨rfl,hn2⟩:=hv
   obtain ⟨-,tmp,hb⟩:=hf
   exact qky w1 bb pb kY 1 k n cs tmp y p l c xs hb hp hcs hO hy hc rfl dq hn
  |bys k D=>
   obtain ⟨hD,b,o,c',tmp,hb,hB⟩:=hf
   exact qkz w1 bb pb kY 1 k b o c' cs tmp D ns y p l c xs hb hB hD hv hp hcs hO hy hc rfl rfl dq hn
 refine jr (args:=[_,_]) [(0,_),(1,_)] 0 [] [] func266 rfl ntmps266 rfl rfl .nil ?_
 refine sQ fun K1=>jb (jA (k:=K1 (sQ fun K2=>jb (jM (k:=jM (k:=?_))))))
 refine jn rfl (fun _ _ h=>xM qbZ rfl h) (jN (k:=jF 1 vl Jt (k:=?_)))
 refine kQ (R:=fun w1 v w'=>v=.nilIface∧zj qd vI w1 w' pb kY 1 cs y l xs ns) call212 rfl rfl (fun w1 hH hf=>hcall w1 hf) fun w1 v w2 hH1 hf1 hR=>?_
 obtain ⟨rfl,hN⟩:=hR
 refine J.begin ⟨w2,0,[]⟩ [] jx .nil ?_
 refine jA (k:=K2 (jj ?_))
 exact je results266 rfl fun w' hH hf=>⟨rfl,hN.fr hf1 hf⟩
theorem qlh (w:World) (bb pb:Nat) (f:Fld) (ns:List Nat) (cs:List Value) (y:Ent) (p:Option Addr) (l c:Nat) (xs:List Value) (hf:ya w bb f) (hv:GV f ns) (hp:Blk w pb ju cs) (hcs:cs[13]? =some (.slice p l c)) (hO:Own qd 1 y p l c xs) (hy:y.on=true→Blk w y.b qd y.cs) (hc:c<9223372036854775808) (hn:l+ns.length≤100000000000):
  Calls Tryz.prog 211 #[ptr bb,.iface ipf (ptr pb)] w (Ret fun v w'=>v=.nilIface∧zj qd vI w w' pb ju 13 cs y l xs ns):=by
 have hcall:∀w1,Fr 0 [] w w1→Calls Tryz.prog 212 #[ptr bb,.pointer (some ⟨pb,13,none⟩)] w1 (Ret fun v w'=>v=.nilIface∧zj qd vI w1 w' pb ju 13 cs y l xs ns):=fun w1 h=>by
  have hf:=hf.keep h
  have hy:=fun ho=>h.blk (hy ho) (.inr zp)
  have hp:=h.blk hp (.inr zp)
  cases f with
  |num k n=>
   obtain ⟨rfl,hn2⟩:=hv
   obtain ⟨-,tmp,hb⟩:=hf
   exact qky w1 bb pb ju 13 k n cs tmp y p l c xs hb hp hcs hO hy hc rfl dq hn
  |bys k D=>
   obtain ⟨hD,b,o,c',tmp,hb,hB⟩:=hf
   exact qkz w1 bb pb ju 13 k b o c' cs tmp D ns y p l c xs hb hB hD hv hp hcs hO hy hc rfl rfl dq hn
 refine jr (args:=[_,_]) [(0,_),(1,_)] 0 [] [] func211 rfl ntmps211 rfl rfl .nil ?_
 refine sQ fun K1=>jb (jA (k:=K1 (sQ fun K2=>jb (jM (k:=jM (k:=?_))))))
 refine jn rfl (fun _ _ h=>xM QM rfl h) (jN (k:=jF 13 jz Jt (k:=?_)))
 refine kQ (R:=fun w1 v w'=>v=.nilIface∧zj qd vI w1 w' pb ju 13 cs y l xs ns) call212 rfl rfl (fun w1 hH hf=>hcall w1 hf) fun w1 v w2 hH1 hf1 hR=>?_
 obtain ⟨rfl,hN⟩:=hR
 refine J.begin ⟨w2,0,[]⟩ [] jx .nil ?_
 refine jA (k:=K2 (jj ?_))
 exact je results211 rfl fun w' hH hf=>⟨rfl,hN.fr hf1 hf⟩
abbrev zty:List Value:=[.string ⟨#[]⟩,.string ⟨#[]⟩,.int .i64 0,.int .i64 0]
theorem ty_m (w:World) (bb pb k l c:Nat) (M:List Nat) (cs:List Value) (y:Ent) (p:Option Addr) (xs:List Value) (φ:World→Nat→Prop) (hφ:∀w1 w2 b,φ w1 b→Fr 0 [] w1 w2→φ w2 b) (hfB:ya w bb (.bys k M)) (hp:Blk w pb ju cs) (hcs:cs[0]? =some (.slice p l c)) (hO:Own pVT 1 y p l c xs)
  (hy:y.on=true→Blk w y.b pVT y.cs) (hn:l+1≤100000000000) (hdm:∀w1 xb,Blk w1 xb tVT zty→ya w1 bb (.bys k M)→w.heap.size≤xb→Calls Tryz.prog 105 #[ptr bb,.iface ivt (ptr xb)] w1 (Ret fun v w'=>v=.nilIface∧φ w' xb∧jv [bb,xb] w1 w'∧vi w' bb)):
  Calls Tryz.prog 197 #[ptr bb,.iface ipf (ptr pb)] w (Ret fun v w'=>v=.nilIface∧ZB pVT φ w w' bb pb ju 0 cs y l xs):=by
 have hoff:=(List.getElem?_eq_some_iff.1 hcs).1
 refine jr (args:=[_,_]) [(0,_),(1,_)] 0 [ju,pVT] _ func197 rfl ntmps197 rfl rfl (Hp.two hp hO (fun ho=>⟨hy ho,Nat.zero_le _⟩) (Nat.zero_le _) zp zp dq) ?_
 refine sQ fun K1=>jb (jA (k:=K1 (sQ fun K2=>jb ?_)))
 refine jW (zs:=[(.string ⟨#[]⟩),(.string ⟨#[]⟩),(.int .i64 0),(.int .i64 0)]) qkc rfl fun b7=>jA (k:=K2 (sQ fun K3=>jb (jM (k:=?_))))
 refine jn rfl (fun _ _ h=>xM QM rfl h) (jA (k:=K3 (sQ fun K4=>jb (jM (k:=jM (k:=jN (k:=jF 0 jz JA (k:=?_))))))))
 refine jp rfl (fun a w ha hH hf=>Jk 1 rfl rfl Qx rfl hcs ha hH) (jM (k:=?_))
 refine kj zV yO qkd rfl rfl rfl rfl rfl fun b16=>?_
 refine zo 2 rfl hO zV qkt rfl rfl rfl rfl hn rfl fun y8 p8 c8 hO8 hc8 hr8=>?_
 refine jN (k:=jF 0 jz JA (k:=?_))
 refine vj (y:=⟨pb,ju,cs,true,true,none⟩) (o:=0) 1 rfl rfl rfl rfl JA rfl rfl rfl rfl (Nat.ble_eq_true_of_le (show 0+1≤cs.length by omega)) ?_
 refine K4 (CJ.t [(0,_),(5,_)] (k:=sQ fun K5=>jb (jM (k:=jM (k:=?_)))))
 refine jn rfl (fun _ _ h=>zK YZ rfl rfl h) ?_
 refine kQ (R:=fun w1 v w'=>v=.nilIface∧φ w' b7∧jv [bb,b7] w1 w'∧vi w' bb) call105 rfl rfl (fun w1 hH hf=>hdm w1 b7 (hH.get (i:=0) rfl rfl) (Vc hf hfB rfl rfl) (hH.fresh' (i:=0) rfl rfl)) fun w1 v w2 hH1 hf1 hR=>?_
 obtain ⟨rfl,hφ2,hk2,hb2⟩:=hR
 have hxb:w.heap.size≤b7:=hH1.fresh' (i:=0) rfl rfl
 have hka:jv ([pb]++qG y) w w1:=Hp.keepX (f:=⟨w,0,[ju,pVT]⟩) (((hH1.drop 0).drop 0).drop 0) hf1
 have hpb1:Blk w1 pb ju (kH cs 0 [.slice p8 (l+1) c8]):=hH1.get (i:=1) rfl rfl
 have hx1:Blk w1 b7 tVT zty:=hH1.get (i:=0) rfl rfl
 have hbf1:vi w1 bb:=(Vc hf1 hfB rfl rfl).at_
 have hpl:=hp.lt
 have hpb2:=hk2.blk hpb1 (by simp only[List.mem_cons,List.mem_nil_iff,or_false,not_or];exact ⟨hbf1.ne hpb1 dq,by omega⟩)
 have hy2:y8.on=true→Blk w2 y8.b pVT y8.cs:=fun ho=>by
  have h8:=hH1.get (i:=2) rfl ho
  rw[hO8.hT]at h8
  exact hk2.blk h8 (by simp only[List.mem_cons,List.mem_nil_iff,or_false,not_or];exact ⟨hbf1.ne h8 dq,h8.ne hx1 dq⟩)
 have hkk:jv ([bb,pb]++qG y) w w2:=(hka.trans hk2).drop fun q hq=>by
  simp only[List.mem_append,List.mem_cons,List.mem_nil_iff,or_false]at hq⊢
  rcases hq with (hq|hq)|hq|hq
  ·exact .inl (.inl (.inr hq))
  ·exact .inl (.inr hq)
  ·exact .inl (.inl (.inl hq))
  ·right;omega
 refine J.begin ⟨w2,0,[]⟩ [] jx .nil ?_
 refine jA (k:=K5 (jj ?_))
 exact je results197 rfl fun w' hH hf=>⟨rfl,⟨b7,y8,p8,c8,hO8,fun ho=>hf.blk (hy2 ho) (.inr zp),fun _=>hr8,hf.blk hpb2 (.inr zp),hxb,hφ _ _ _ hφ2 hf⟩,hkk.thenF hf,hb2.keep fun cs hk=>hf.blk hk (.inr zp)⟩
abbrev zsa:List Value:=[.slice none 0 0,.slice none 0 0,.map none,.map none,.map none,.slice none 0 0,.slice none 0 0]
theorem sa_m (w:World) (bb pb k l c:Nat) (M:List Nat) (cs:List Value) (y:Ent) (p:Option Addr) (xs:List Value) (φ:World→Nat→Prop) (hφ:∀w1 w2 b,φ w1 b→Fr 0 [] w1 w2→φ w2 b) (hfB:ya w bb (.bys k M)) (hp:Blk w pb ju cs) (hcs:cs[2]? =some (.slice p l c)) (hO:Own xS 1 y p l c xs)
  (hy:y.on=true→Blk w y.b xS y.cs) (hn:l+1≤100000000000) (hdm:∀w1 xb,Blk w1 xb kY zsa→ya w1 bb (.bys k M)→w.heap.size≤xb→Calls Tryz.prog 105 #[ptr bb,.iface ism (ptr xb)] w1 (Ret fun v w'=>v=.nilIface∧φ w' xb∧jv [bb,xb] w1 w'∧vi w' bb)):
  Calls Tryz.prog 198 #[ptr bb,.iface ipf (ptr pb)] w (Ret fun v w'=>v=.nilIface∧ZB xS φ w w' bb pb ju 2 cs y l xs):=by
 have hoff:=(List.getElem?_eq_some_iff.1 hcs).1
 refine jr (args:=[_,_]) [(0,_),(1,_)] 0 [ju,xS] _ func198 rfl ntmps198 rfl rfl (Hp.two hp hO (fun ho=>⟨hy ho,Nat.zero_le _⟩) (Nat.zero_le _) zp zp dq) ?_
 refine sQ fun K1=>jb (jA (k:=K1 (sQ fun K2=>jb ?_)))
 refine jW (zs:=[(.slice none 0 0),(.slice none 0 0),(.map none),(.map none),(.map none),(.slice none 0 0),(.slice none 0 0)]) zv147 rfl fun b7=>jA (k:=K2 (sQ fun K3=>jb (jM (k:=?_))))
 refine jn rfl (fun _ _ h=>xM QM rfl h) (jA (k:=K3 (sQ fun K4=>jb (jM (k:=jM (k:=jN (k:=jF 2 jz Jz (k:=?_))))))))
 refine jp rfl (fun a w ha hH hf=>Jk 1 rfl rfl VP rfl hcs ha hH) (jM (k:=?_))
 refine kj JB YT qkb rfl rfl rfl rfl rfl fun b16=>?_
 refine zo 2 rfl hO JB qhX rfl rfl rfl rfl hn rfl fun y8 p8 c8 hO8 hc8 hr8=>?_
 refine jN (k:=jF 2 jz Jz (k:=?_))
 refine vj (y:=⟨pb,ju,cs,true,true,none⟩) (o:=2) 1 rfl rfl rfl rfl Jz rfl rfl rfl rfl (Nat.ble_eq_true_of_le (show 2+1≤cs.length by omega)) ?_
 refine K4 (CJ.t [(0,_),(5,_)] (k:=sQ fun K5=>jb (jM (k:=jM (k:=?_)))))
 refine jn rfl (fun _ _ h=>zK qbZ rfl rfl h) ?_
 refine kQ (R:=fun w1 v w'=>v=.nilIface∧φ w' b7∧jv [bb,b7] w1 w'∧vi w' bb) call105 rfl rfl (fun w1 hH hf=>hdm w1 b7 (hH.get (i:=0) rfl rfl) (Vc hf hfB rfl rfl) (hH.fresh' (i:=0) rfl rfl)) fun w1 v w2 hH1 hf1 hR=>?_
 obtain ⟨rfl,hφ2,hk2,hb2⟩:=hR
 have hxb:w.heap.size≤b7:=hH1.fresh' (i:=0) rfl rfl
 have hka:jv ([pb]++qG y) w w1:=Hp.keepX (f:=⟨w,0,[ju,xS]⟩) (((hH1.drop 0).drop 0).drop 0) hf1
 have hpb1:Blk w1 pb ju (kH cs 2 [.slice p8 (l+1) c8]):=hH1.get (i:=1) rfl rfl
 have hx1:Blk w1 b7 kY zsa:=hH1.get (i:=0) rfl rfl
 have hbf1:vi w1 bb:=(Vc hf1 hfB rfl rfl).at_
 have hpl:=hp.lt
 have hpb2:=hk2.blk hpb1 (by simp only[List.mem_cons,List.mem_nil_iff,or_false,not_or];exact ⟨hbf1.ne hpb1 dq,by omega⟩)
 have hy2:y8.on=true→Blk w2 y8.b xS y8.cs:=fun ho=>by
  have h8:=hH1.get (i:=2) rfl ho
  rw[hO8.hT]at h8
  exact hk2.blk h8 (by simp only[List.mem_cons,List.mem_nil_iff,or_false,not_or];exact ⟨hbf1.ne h8 dq,h8.ne hx1 dq⟩)
 have hkk:jv ([bb,pb]++qG y) w w2:=(hka.trans hk2).drop fun q hq=>by
  simp only[List.mem_append,List.mem_cons,List.mem_nil_iff,or_false]at hq⊢
  rcases hq with (hq|hq)|hq|hq
  ·exact .inl (.inl (.inr hq))
  ·exact .inl (.inr hq)
  ·exact .inl (.inl (.inl hq))
  ·right;omega
 refine J.begin ⟨w2,0,[]⟩ [] jx .nil ?_
 refine jA (k:=K5 (jj ?_))
 exact je results198 rfl fun w' hH hf=>⟨rfl,⟨b7,y8,p8,c8,hO8,fun ho=>hf.blk (hy2 ho) (.inr zp),fun _=>hr8,hf.blk hpb2 (.inr zp),hxb,hφ _ _ _ hφ2 hf⟩,hkk.thenF hf,hb2.keep fun cs hk=>hf.blk hk (.inr zp)⟩
abbrev zma:List Value:=[.int .u64 0,.int .u64 0,.int .u64 0,.int .u64 0,.string ⟨#[]⟩,.string ⟨#[]⟩,.bool false,.bool false,.bool false,.bool false,.int .i64 0,.int .i64 0]
theorem ma_m (w:World) (bb pb k l c:Nat) (M:List Nat) (cs:List Value) (y:Ent) (p:Option Addr) (xs:List Value) (φ:World→Nat→Prop) (hφ:∀w1 w2 b,φ w1 b→Fr 0 [] w1 w2→φ w2 b) (hfB:ya w bb (.bys k M)) (hp:Blk w pb ju cs) (hcs:cs[3]? =some (.slice p l c)) (hO:Own xZ 1 y p l c xs)
  (hy:y.on=true→Blk w y.b xZ y.cs) (hn:l+1≤100000000000) (hdm:∀w1 xb,Blk w1 xb vO zma→ya w1 bb (.bys k M)→w.heap.size≤xb→Calls Tryz.prog 105 #[ptr bb,.iface imp (ptr xb)] w1 (Ret fun v w'=>v=.nilIface∧φ w' xb∧jv [bb,xb] w1 w'∧vi w' bb)):
  Calls Tryz.prog 199 #[ptr bb,.iface ipf (ptr pb)] w (Ret fun v w'=>v=.nilIface∧ZB xZ φ w w' bb pb ju 3 cs y l xs):=by
 have hoff:=(List.getElem?_eq_some_iff.1 hcs).1
 refine jr (args:=[_,_]) [(0,_),(1,_)] 0 [ju,xZ] _ func199 rfl ntmps199 rfl rfl (Hp.two hp hO (fun ho=>⟨hy ho,Nat.zero_le _⟩) (Nat.zero_le _) zp zp dq) ?_
 refine sQ fun K1=>jb (jA (k:=K1 (sQ fun K2=>jb ?_)))
 refine jW (zs:=[(.int .u64 0),(.int .u64 0),(.int .u64 0),(.int .u64 0),(.string ⟨#[]⟩),(.string ⟨#[]⟩),(.bool false),(.bool false),(.bool false),(.bool false),(.int .i64 0),(.int .i64 0)]) zv130 rfl fun b7=>jA (k:=K2 (sQ fun K3=>jb (jM (k:=?_))))
 refine jn rfl (fun _ _ h=>xM QM rfl h) (jA (k:=K3 (sQ fun K4=>jb (jM (k:=jM (k:=jN (k:=jF 3 jz zD (k:=?_))))))))
 refine jp rfl (fun a w ha hH hf=>Jk 1 rfl rfl KX rfl hcs ha hH) (jM (k:=?_))
 refine kj zn zT qbH rfl rfl rfl rfl rfl fun b16=>?_
 refine zo 2 rfl hO zn qhZ rfl rfl rfl rfl hn rfl fun y8 p8 c8 hO8 hc8 hr8=>?_
 refine jN (k:=jF 3 jz zD (k:=?_))
 refine vj (y:=⟨pb,ju,cs,true,true,none⟩) (o:=3) 1 rfl rfl rfl rfl zD rfl rfl rfl rfl (Nat.ble_eq_true_of_le (show 3+1≤cs.length by omega)) ?_
 refine K4 (CJ.t [(0,_),(5,_)] (k:=sQ fun K5=>jb (jM (k:=jM (k:=?_)))))
 refine jn rfl (fun _ _ h=>zK Qv rfl rfl h) ?_
 refine kQ (R:=fun w1 v w'=>v=.nilIface∧φ w' b7∧jv [bb,b7] w1 w'∧vi w' bb) call105 rfl rfl (fun w1 hH hf=>hdm w1 b7 (hH.get (i:=0) rfl rfl) (Vc hf hfB rfl rfl) (hH.fresh' (i:=0) rfl rfl)) fun w1 v w2 hH1 hf1 hR=>?_
 obtain ⟨rfl,hφ2,hk2,hb2⟩:=hR
 have hxb:w.heap.size≤b7:=hH1.fresh' (i:=0) rfl rfl
 have hka:jv ([pb]++qG y) w w1:=Hp.keepX (f:=⟨w,0,[ju,xZ]⟩) (((hH1.drop 0).drop 0).drop 0) hf1
 have hpb1:Blk w1 pb ju (kH cs 3 [.slice p8 (l+1) c8]):=hH1.get (i:=1) rfl rfl
 have hx1:Blk w1 b7 vO zma:=hH1.get (i:=0) rfl rfl
 have hbf1:vi w1 bb:=(Vc hf1 hfB rfl rfl).at_
 have hpl:=hp.lt
 have hpb2:=hk2.blk hpb1 (by simp only[List.mem_cons,List.mem_nil_iff,or_false,not_or];exact ⟨hbf1.ne hpb1 dq,by omega⟩)
 have hy2:y8.on=true→Blk w2 y8.b xZ y8.cs:=fun ho=>by
  have h8:=hH1.get (i:=2) rfl ho
  rw[hO8.hT]at h8
  exact hk2.blk h8 (by simp only[List.mem_cons,List.mem_nil_iff,or_false,not_or];exact ⟨hbf1.ne h8 dq,h8.ne hx1 dq⟩)
 have hkk:jv ([bb,pb]++qG y) w w2:=(hka.trans hk2).drop fun q hq=>by
  simp only[List.mem_append,List.mem_cons,List.mem_nil_iff,or_false]at hq⊢
  rcases hq with (hq|hq)|hq|hq
  ·exact .inl (.inl (.inr hq))
  ·exact .inl (.inr hq)
  ·exact .inl (.inl (.inl hq))
  ·right;omega
 refine J.begin ⟨w2,0,[]⟩ [] jx .nil ?_
 refine jA (k:=K5 (jj ?_))
 exact je results199 rfl fun w' hH hf=>⟨rfl,⟨b7,y8,p8,c8,hO8,fun ho=>hf.blk (hy2 ho) (.inr zp),fun _=>hr8,hf.blk hpb2 (.inr zp),hxb,hφ _ _ _ hφ2 hf⟩,hkk.thenF hf,hb2.keep fun cs hk=>hf.blk hk (.inr zp)⟩
abbrev zlo:List Value:=[.int .u64 0,.pointer none,.int .u64 0,.slice none 0 0,.bool false,.int .u64 0]
theorem lo_m (w:World) (bb pb k l c:Nat) (M:List Nat) (cs:List Value) (y:Ent) (p:Option Addr) (xs:List Value) (φ:World→Nat→Prop) (hφ:∀w1 w2 b,φ w1 b→Fr 0 [] w1 w2→φ w2 b) (hfB:ya w bb (.bys k M)) (hp:Blk w pb ju cs) (hcs:cs[4]? =some (.slice p l c)) (hO:Own vD 1 y p l c xs)
  (hy:y.on=true→Blk w y.b vD y.cs) (hn:l+1≤100000000000) (hdm:∀w1 xb,Blk w1 xb qH zlo→ya w1 bb (.bys k M)→w.heap.size≤xb→Calls Tryz.prog 105 #[ptr bb,.iface ilc (ptr xb)] w1 (Ret fun v w'=>v=.nilIface∧φ w' xb∧jv [bb,xb] w1 w'∧vi w' bb)):
  Calls Tryz.prog 200 #[ptr bb,.iface ipf (ptr pb)] w (Ret fun v w'=>v=.nilIface∧ZB vD φ w w' bb pb ju 4 cs y l xs):=by
 have hoff:=(List.getElem?_eq_some_iff.1 hcs).1
 refine jr (args:=[_,_]) [(0,_),(1,_)] 0 [ju,vD] _ func200 rfl ntmps200 rfl rfl (Hp.two hp hO (fun ho=>⟨hy ho,Nat.zero_le _⟩) (Nat.zero_le _) zp zp dq) ?_
 refine sQ fun K1=>jb (jA (k:=K1 (sQ fun K2=>jb ?_)))
 refine jW (zs:=[(.int .u64 0),(.pointer none),(.int .u64 0),(.slice none 0 0),(.bool false),(.int .u64 0)]) zv137 rfl fun b7=>jA (k:=K2 (sQ fun K3=>jb (jM (k:=?_))))
 refine jn rfl (fun _ _ h=>xM QM rfl h) (jA (k:=K3 (sQ fun K4=>jb (jM (k:=jM (k:=jN (k:=jF 4 jz xq (k:=?_))))))))
 refine jp rfl (fun a w ha hH hf=>Jk 1 rfl rfl zY rfl hcs ha hH) (jM (k:=?_))
 refine kj xw JW YM rfl rfl rfl rfl rfl fun b16=>?_
 refine zo 2 rfl hO xw qay rfl rfl rfl rfl hn rfl fun y8 p8 c8 hO8 hc8 hr8=>?_
 refine jN (k:=jF 4 jz xq (k:=?_))
 refine vj (y:=⟨pb,ju,cs,true,true,none⟩) (o:=4) 1 rfl rfl rfl rfl xq rfl rfl rfl rfl (Nat.ble_eq_true_of_le (show 4+1≤cs.length by omega)) ?_
 refine K4 (CJ.t [(0,_),(5,_)] (k:=sQ fun K5=>jb (jM (k:=jM (k:=?_)))))
 refine jn rfl (fun _ _ h=>zK qag rfl rfl h) ?_
 refine kQ (R:=fun w1 v w'=>v=.nilIface∧φ w' b7∧jv [bb,b7] w1 w'∧vi w' bb) call105 rfl rfl (fun w1 hH hf=>hdm w1 b7 (hH.get (i:=0) rfl rfl) (Vc hf hfB rfl rfl) (hH.fresh' (i:=0) rfl rfl)) fun w1 v w2 hH1 hf1 hR=>?_
 obtain ⟨rfl,hφ2,hk2,hb2⟩:=hR
 have hxb:w.heap.size≤b7:=hH1.fresh' (i:=0) rfl rfl
 have hka:jv ([pb]++qG y) w w1:=Hp.keepX (f:=⟨w,0,[ju,vD]⟩) (((hH1.drop 0).drop 0).drop 0) hf1
 have hpb1:Blk w1 pb ju (kH cs 4 [.slice p8 (l+1) c8]):=hH1.get (i:=1) rfl rfl
 have hx1:Blk w1 b7 qH zlo:=hH1.get (i:=0) rfl rfl
 have hbf1:vi w1 bb:=(Vc hf1 hfB rfl rfl).at_
 have hpl:=hp.lt
 have hpb2:=hk2.blk hpb1 (by simp only[List.mem_cons,List.mem_nil_iff,or_false,not_or];exact ⟨hbf1.ne hpb1 dq,by omega⟩)
 have hy2:y8.on=true→Blk w2 y8.b vD y8.cs:=fun ho=>by
  have h8:=hH1.get (i:=2) rfl ho
  rw[hO8.hT]at h8
  exact hk2.blk h8 (by simp only[List.mem_cons,List.mem_nil_iff,or_false,not_or];exact ⟨hbf1.ne h8 dq,h8.ne hx1 dq⟩)
 have hkk:jv ([bb,pb]++qG y) w w2:=(hka.trans hk2).drop fun q hq=>by
  simp only[List.mem_append,List.mem_cons,List.mem_nil_iff,or_false]at hq⊢
  rcases hq with (hq|hq)|hq|hq
  ·exact .inl (.inl (.inr hq))
  ·exact .inl (.inr hq)
  ·exact .inl (.inl (.inl hq))
  ·right;omega
 refine J.begin ⟨w2,0,[]⟩ [] jx .nil ?_
 refine jA (k:=K5 (jj ?_))
 exact je results200 rfl fun w' hH hf=>⟨rfl,⟨b7,y8,p8,c8,hO8,fun ho=>hf.blk (hy2 ho) (.inr zp),fun _=>hr8,hf.blk hpb2 (.inr zp),hxb,hφ _ _ _ hφ2 hf⟩,hkk.thenF hf,hb2.keep fun cs hk=>hf.blk hk (.inr zp)⟩
abbrev zfu:List Value:=[.int .u64 0,.string ⟨#[]⟩,.string ⟨#[]⟩,.string ⟨#[]⟩,.int .i64 0,.int .i64 0,.int .i64 0,.int .i64 0]
theorem fu_m (w:World) (bb pb k l c:Nat) (M:List Nat) (cs:List Value) (y:Ent) (p:Option Addr) (xs:List Value) (φ:World→Nat→Prop) (hφ:∀w1 w2 b,φ w1 b→Fr 0 [] w1 w2→φ w2 b) (hfB:ya w bb (.bys k M)) (hp:Blk w pb ju cs) (hcs:cs[5]? =some (.slice p l c)) (hO:Own yq 1 y p l c xs)
  (hy:y.on=true→Blk w y.b yq y.cs) (hn:l+1≤100000000000) (hdm:∀w1 xb,Blk w1 xb xi zfu→ya w1 bb (.bys k M)→w.heap.size≤xb→Calls Tryz.prog 105 #[ptr bb,.iface ifn (ptr xb)] w1 (Ret fun v w'=>v=.nilIface∧φ w' xb∧jv [bb,xb] w1 w'∧vi w' bb)):
  Calls Tryz.prog 201 #[ptr bb,.iface ipf (ptr pb)] w (Ret fun v w'=>v=.nilIface∧ZB yq φ w w' bb pb ju 5 cs y l xs):=by
 have hoff:=(List.getElem?_eq_some_iff.1 hcs).1
 refine jr (args:=[_,_]) [(0,_),(1,_)] 0 [ju,yq] _ func201 rfl ntmps201 rfl rfl (Hp.two hp hO (fun ho=>⟨hy ho,Nat.zero_le _⟩) (Nat.zero_le _) zp zp dq) ?_
 refine sQ fun K1=>jb (jA (k:=K1 (sQ fun K2=>jb ?_)))
 refine jW (zs:=[(.int .u64 0),(.string ⟨#[]⟩),(.string ⟨#[]⟩),(.string ⟨#[]⟩),(.int .i64 0),(.int .i64 0),(.int .i64 0),(.int .i64 0)]) zv133 rfl fun b7=>jA (k:=K2 (sQ fun K3=>jb (jM (k:=?_))))
 refine jn rfl (fun _ _ h=>xM QM rfl h) (jA (k:=K3 (sQ fun K4=>jb (jM (k:=jM (k:=jN (k:=jF 5 jz zw (k:=?_))))))))
 refine jp rfl (fun a w ha hH hf=>Jk 1 rfl rfl Kw rfl hcs ha hH) (jM (k:=?_))
 refine kj ze zd qbG rfl rfl rfl rfl rfl fun b16=>?_
 refine zo 2 rfl hO ze qhY rfl rfl rfl rfl hn rfl fun y8 p8 c8 hO8 hc8 hr8=>?_
 refine jN (k:=jF 5 jz zw (k:=?_))
 refine vj (y:=⟨pb,ju,cs,true,true,none⟩) (o:=5) 1 rfl rfl rfl rfl zw rfl rfl rfl rfl (Nat.ble_eq_true_of_le (show 5+1≤cs.length by omega)) ?_
 refine K4 (CJ.t [(0,_),(5,_)] (k:=sQ fun K5=>jb (jM (k:=jM (k:=?_)))))
 refine jn rfl (fun _ _ h=>zK YY rfl rfl h) ?_
 refine kQ (R:=fun w1 v w'=>v=.nilIface∧φ w' b7∧jv [bb,b7] w1 w'∧vi w' bb) call105 rfl rfl (fun w1 hH hf=>hdm w1 b7 (hH.get (i:=0) rfl rfl) (Vc hf hfB rfl rfl) (hH.fresh' (i:=0) rfl rfl)) fun w1 v w2 hH1 hf1 hR=>?_
 obtain ⟨rfl,hφ2,hk2,hb2⟩:=hR
 have hxb:w.heap.size≤b7:=hH1.fresh' (i:=0) rfl rfl
 have hka:jv ([pb]++qG y) w w1:=Hp.keepX (f:=⟨w,0,[ju,yq]⟩) (((hH1.drop 0).drop 0).drop 0) hf1
 have hpb1:Blk w1 pb ju (kH cs 5 [.slice p8 (l+1) c8]):=hH1.get (i:=1) rfl rfl
 have hx1:Blk w1 b7 xi zfu:=hH1.get (i:=0) rfl rfl
 have hbf1:vi w1 bb:=(Vc hf1 hfB rfl rfl).at_
 have hpl:=hp.lt
 have hpb2:=hk2.blk hpb1 (by simp only[List.mem_cons,List.mem_nil_iff,or_false,not_or];exact ⟨hbf1.ne hpb1 dq,by omega⟩)
 have hy2:y8.on=true→Blk w2 y8.b yq y8.cs:=fun ho=>by
  have h8:=hH1.get (i:=2) rfl ho
  rw[hO8.hT]at h8
  exact hk2.blk h8 (by simp only[List.mem_cons,List.mem_nil_iff,or_false,not_or];exact ⟨hbf1.ne h8 dq,h8.ne hx1 dq⟩)
 have hkk:jv ([bb,pb]++qG y) w w2:=(hka.trans hk2).drop fun q hq=>by
  simp only[List.mem_append,List.mem_cons,List.mem_nil_iff,or_false]at hq⊢
  rcases hq with (hq|hq)|hq|hq
  ·exact .inl (.inl (.inr hq))
  ·exact .inl (.inr hq)
  ·exact .inl (.inl (.inl hq))
  ·right;omega
 refine J.begin ⟨w2,0,[]⟩ [] jx .nil ?_
 refine jA (k:=K5 (jj ?_))
 exact je results201 rfl fun w' hH hf=>⟨rfl,⟨b7,y8,p8,c8,hO8,fun ho=>hf.blk (hy2 ho) (.inr zp),fun _=>hr8,hf.blk hpb2 (.inr zp),hxb,hφ _ _ _ hφ2 hf⟩,hkk.thenF hf,hb2.keep fun cs hk=>hf.blk hk (.inr zp)⟩
set_option maxHeartbeats 1000000 in
theorem sm3_m (w:World) (bb pb k l c:Nat) (m:Msg) (cs:List Value) (y:Ent) (p:Option Addr) (xs:List Value) (hm:MOK tb3 m) (hfB:ya w bb (.bys k (mB m))) (hp:Blk w pb kY cs) (hcs:cs[6]? =some (.slice p l c)) (hO:Own vq 3 y p l c xs)
  (hy:y.on=true→Blk w y.b vq y.cs) (hn:l+1≤100000000000):
  Calls Tryz.prog 267 #[ptr bb,.iface ism (ptr pb)] w (Ret fun v w'=>v=.nilIface∧qis vq 3 [vI (kE 1 (kV m)),vI (kE 2 (kV m)),vI (kE 3 (kV m))] w w' bb pb kY 6 cs y l xs):=by
 have hoff:=(List.getElem?_eq_some_iff.1 hcs).1
 refine jr (args:=[_,_]) [(0,_),(1,_)] 0 [kY,vq] _ func267 rfl ntmps267 rfl rfl (Hp.two hp hO (fun ho=>⟨hy ho,Nat.zero_le _⟩) (Nat.zero_le _) zp zp dq) ?_
 refine sQ fun K1=>jb (jA (k:=K1 (sQ fun K2=>jb (jM (k:=?_)))))
 refine jn rfl (fun _ _ h=>xM qbZ rfl h) (jA (k:=K2 (sQ fun K3=>jb (jM (k:=jN (k:=jF 6 vl JV (k:=?_)))))))
 refine jp rfl (fun a w ha hH hf=>Jk 0 rfl rfl ZA rfl hcs ha hH) (jE Qu (k:=jA (k:=K3 (sQ fun K4=>jb (jM (k:=jM (k:=jN (k:=jF 6 vl JV (k:=?_)))))))))
 refine jp rfl (fun a w ha hH hf=>Jk 0 rfl rfl ZA rfl hcs ha hH) (jn rfl (fun _ _ h=>vb (cs:=[(.int .i64 0),(.int .i64 0),(.int .i64 0)]) qig rfl rfl h) (kj Qu Qt qbF rfl rfl rfl rfl rfl fun b20=>?_))
 refine qbo (ys:=[.int .i64 0,.int .i64 0,.int .i64 0]) 1 rfl hO Qu qhW rfl rfl rfl rfl rfl dq hn rfl fun y8 p8 c8 hO8 hc8 hr8=>?_
 obtain ⟨hon8,rfl⟩:=hO8.pos ox
 have hcs8:(kH cs 6 (Value.slice (some ⟨y8.b,0,none⟩) (l+1) c8).cells.toList)[6]? =some (.slice (some ⟨y8.b,0,none⟩) (l+1) c8):=by
  rw[JX rfl];simp only[kH];exact List.getElem?_set_self hoff
 refine jN (k:=jF 6 vl JV (k:=?_))
 refine vj (y:=⟨pb,kY,cs,true,true,none⟩) (o:=6) 0 rfl rfl rfl rfl JV rfl rfl rfl rfl (Nat.ble_eq_true_of_le (show 6+1≤cs.length by omega)) ?_
 refine K4 (CJ.t [(0,_),(5,_),(6,_)] (k:=sQ fun K5=>jb (jM (k:=jM (k:=jN (k:=jF 6 vl JV (k:=?_)))))))
 refine jp rfl (fun a w ha hH hf=>Jk 0 rfl rfl ZA rfl hcs8 ha hH) (jM (k:=jJ Qu Qt (k:=?_)))
 refine jn rfl (fun _ _ h=>zK qed rfl rfl h) ?_
 have hxl:xs.length=l*3:=hO.sl.1
 obtain ⟨ex8,hex8⟩:∃ex,y8.cs=xs++[.int .i64 0,.int .i64 0,.int .i64 0]++ex:=by
  obtain ⟨-, -,h3⟩:=hO8.sl
  rcases h3 with ⟨-, -,h4, -⟩|⟨h4, -⟩
  ·exact h4
  ·rw[hon8]at h4;cases h4
 have hlen8:y8.cs.length=l*3+3+ex8.length:=by rw[hex8];simp[hxl];omega
 have hdt:(y8.cs.drop (0+l*3)).take 3=[.int .i64 0,.int .i64 0,.int .i64 0]:=by
  rw[hex8,List.append_assoc,Nat.zero_add, ← hxl,List.drop_left];rfl
 refine kQ (R:=fun w1 v w'=>v=.nilIface∧Blk w' y8.b vq ((kV m).foldl (apS VM (0+l*3)) y8.cs)∧jv [bb,y8.b] w1 w'∧vi w' bb) call105 rfl rfl (fun w1 hH hf=>Xv vq ilb VM qbl tb3 dq dq dq qho qjt qhq qhp qhn w1 bb y8.b (0+l*3) k m y8.cs hm (Vc hf hfB rfl rfl) (by have:=hH.get (i:=1) rfl hon8;rwa [hO8.hT]at this) (fun k g off val h=>by have:=qas k g off val h;omega) (fun w' hb=>qhm w' y8.b (0+l*3) _ y8.cs hb rfl hdt)) fun w1 v w2 hH1 hf1 hR=>?_
 obtain ⟨rfl,hrow2,hk2,hb2⟩:=hR
 have hka:jv ([pb]++qG y) w w1:=Hp.keepX (f:=⟨w,0,[kY,vq]⟩) ((hH1.drop 0).drop 0) hf1
 have hpb1:Blk w1 pb kY (kH cs 6 [.slice (some ⟨y8.b,0,none⟩) (l+1) c8]):=hH1.get (i:=0) rfl rfl
 have hrow1:Blk w1 y8.b vq y8.cs:=by have:=hH1.get (i:=1) rfl hon8;rwa [hO8.hT]at this
 have hbf1:vi w1 bb:=(Vc hf1 hfB rfl rfl).at_
 have hpb2:=hk2.blk hpb1 (by simp only[List.mem_cons,List.mem_nil_iff,or_false,not_or];exact ⟨hbf1.ne hpb1 dq,hpb1.ne hrow1 dq⟩)
 rw[hex8,Nat.zero_add, ← hxl,qbr (m:=3) VM xs ex8 qas (kV m) _ rfl]at hrow2
 have hfo:(kV m).foldl (apS VM 0) [.int .i64 0,.int .i64 0,.int .i64 0]=[vI (kE 1 (kV m)),vI (kE 2 (kV m)),vI (kE 3 (kV m))]:=qer (kV m) 0 0 0
 rw[hfo]at hrow2
 have hkk:jv ([bb,pb]++qG y) w w2:=(hka.trans hk2).drop fun q hq=>by
  simp only[List.mem_append,List.mem_cons,List.mem_nil_iff,or_false]at hq⊢
  rcases hq with (hq|hq)|hq|hq
  ·exact .inl (.inl (.inr hq))
  ·exact .inl (.inr hq)
  ·exact .inl (.inl (.inl hq))
  ·rcases hr8 with ⟨h1,h2⟩|h1
   ·left;right;rw[hq,h2];simp[qG,h1]
   ·right;rw[hq];exact h1
 have hO9:Own vq 3 ⟨y8.b,vq,xs++[vI (kE 1 (kV m)),vI (kE 2 (kV m)),vI (kE 3 (kV m))]++ex8,true,true,none⟩ (some ⟨y8.b,0,none⟩) (l+1) c8 (xs++[vI (kE 1 (kV m)),vI (kE 2 (kV m)),vI (kE 3 (kV m))]):=by
  obtain ⟨h1,h2,h3⟩:=hO8.sl
  refine ⟨rfl,rfl,rfl,by simp[hxl];omega,h2,.inl ⟨rfl,rfl,⟨ex8,rfl⟩,?_⟩⟩
  rcases h3 with ⟨-, -, -,h4⟩|⟨h4, -⟩
  ·rw[hlen8]at h4;simp[hxl];omega
  ·rw[hon8]at h4;cases h4
 refine J.begin ⟨w2,0,[]⟩ [] jx .nil ?_
 refine jA (k:=K5 (jj ?_))
 exact je results267 rfl fun w' hH hf=>⟨rfl,⟨_,_,c8,hO9,fun _=>hf.blk hrow2 (.inr zp),fun _=>hr8,hf.blk hpb2 (.inr zp)⟩,hkk.thenF hf,hb2.keep fun cs hk=>hf.blk hk (.inr zp)⟩
set_option maxHeartbeats 1000000 in
theorem lc4_m (w:World) (bb pb k l c:Nat) (m:Msg) (cs:List Value) (y:Ent) (p:Option Addr) (xs:List Value) (hm:MOK tb2 m) (hfB:ya w bb (.bys k (mB m))) (hp:Blk w pb qH cs) (hcs:cs[3]? =some (.slice p l c)) (hO:Own kq 3 y p l c xs)
  (hy:y.on=true→Blk w y.b kq y.cs) (hn:l+1≤100000000000):
  Calls Tryz.prog 259 #[ptr bb,.iface ilc (ptr pb)] w (Ret fun v w'=>v=.nilIface∧qis kq 3 [.pointer none,vI (kE 2 (kV m)),vU (kE 1 (kV m))] w w' bb pb qH 3 cs y l xs):=by
 have hoff:=(List.getElem?_eq_some_iff.1 hcs).1
 refine jr (args:=[_,_]) [(0,_),(1,_)] 0 [qH,kq] _ func259 rfl ntmps259 rfl rfl (Hp.two hp hO (fun ho=>⟨hy ho,Nat.zero_le _⟩) (Nat.zero_le _) zp zp dq) ?_
 refine sQ fun K1=>jb (jA (k:=K1 (sQ fun K2=>jb (jM (k:=?_)))))
 refine jn rfl (fun _ _ h=>xM qag rfl h) (jA (k:=K2 (sQ fun K3=>jb (jM (k:=jN (k:=jF 3 vc xW (k:=?_)))))))
 refine jp rfl (fun a w ha hH hf=>Jk 0 rfl rfl zX rfl hcs ha hH) (jE xX (k:=jA (k:=K3 (sQ fun K4=>jb (jM (k:=jM (k:=jN (k:=jF 3 vc xW (k:=?_)))))))))
 refine jp rfl (fun a w ha hH hf=>Jk 0 rfl rfl zX rfl hcs ha hH) (jn rfl (fun _ _ h=>vb (cs:=[(.pointer none),(.int .i64 0),(.int .u64 0)]) qih rfl rfl h) (kj xX xE QH rfl rfl rfl rfl rfl fun b20=>?_))
 refine qbo (ys:=[.pointer none,.int .i64 0,.int .u64 0]) 1 rfl hO xX qcK rfl rfl rfl rfl rfl dq hn rfl fun y8 p8 c8 hO8 hc8 hr8=>?_
 obtain ⟨hon8,rfl⟩:=hO8.pos ox
 have hcs8:(kH cs 3 (Value.slice (some ⟨y8.b,0,none⟩) (l+1) c8).cells.toList)[3]? =some (.slice (some ⟨y8.b,0,none⟩) (l+1) c8):=by
  rw[JX rfl];simp only[kH];exact List.getElem?_set_self hoff
 refine jN (k:=jF 3 vc xW (k:=?_))
 refine vj (y:=⟨pb,qH,cs,true,true,none⟩) (o:=3) 0 rfl rfl rfl rfl xW rfl rfl rfl rfl (Nat.ble_eq_true_of_le (show 3+1≤cs.length by omega)) ?_
 refine K4 (CJ.t [(0,_),(5,_),(6,_)] (k:=sQ fun K5=>jb (jM (k:=jM (k:=jN (k:=jF 3 vc xW (k:=?_)))))))
 refine jp rfl (fun a w ha hH hf=>Jk 0 rfl rfl zX rfl hcs8 ha hH) (jM (k:=jJ xX xE (k:=?_)))
 refine jn rfl (fun _ _ h=>zK qee rfl rfl h) ?_
 have hxl:xs.length=l*3:=hO.sl.1
 obtain ⟨ex8,hex8⟩:∃ex,y8.cs=xs++[.pointer none,.int .i64 0,.int .u64 0]++ex:=by
  obtain ⟨-, -,h3⟩:=hO8.sl
  rcases h3 with ⟨-, -,h4, -⟩|⟨h4, -⟩
  ·exact h4
  ·rw[hon8]at h4;cases h4
 have hlen8:y8.cs.length=l*3+3+ex8.length:=by rw[hex8];simp[hxl];omega
 have hdt:(y8.cs.drop (0+l*3)).take 3=[.pointer none,.int .i64 0,.int .u64 0]:=by
  rw[hex8,List.append_assoc,Nat.zero_add, ← hxl,List.drop_left];rfl
 refine kQ (R:=fun w1 v w'=>v=.nilIface∧Blk w' y8.b kq ((kV m).foldl (apS VL (0+l*3)) y8.cs)∧jv [bb,y8.b] w1 w'∧vi w' bb) call105 rfl rfl (fun w1 hH hf=>Xv kq iln VL qbj tb2 dq dq dq qhg qjg qhi qhh qhf w1 bb y8.b (0+l*3) k m y8.cs hm (Vc hf hfB rfl rfl) (by have:=hH.get (i:=1) rfl hon8;rwa [hO8.hT]at this) (fun k g off val h=>by have:=qar k g off val h;omega) (fun w' _=>qhe w' _)) fun w1 v w2 hH1 hf1 hR=>?_
 obtain ⟨rfl,hrow2,hk2,hb2⟩:=hR
 have hka:jv ([pb]++qG y) w w1:=Hp.keepX (f:=⟨w,0,[qH,kq]⟩) ((hH1.drop 0).drop 0) hf1
 have hpb1:Blk w1 pb qH (kH cs 3 [.slice (some ⟨y8.b,0,none⟩) (l+1) c8]):=hH1.get (i:=0) rfl rfl
 have hrow1:Blk w1 y8.b kq y8.cs:=by have:=hH1.get (i:=1) rfl hon8;rwa [hO8.hT]at this
 have hbf1:vi w1 bb:=(Vc hf1 hfB rfl rfl).at_
 have hpb2:=hk2.blk hpb1 (by simp only[List.mem_cons,List.mem_nil_iff,or_false,not_or];exact ⟨hbf1.ne hpb1 dq,hpb1.ne hrow1 dq⟩)
 rw[hex8,Nat.zero_add, ← hxl,qbr (m:=3) VL xs ex8 qar (kV m) _ rfl]at hrow2
 have hfo:(kV m).foldl (apS VL 0) [.pointer none,.int .i64 0,.int .u64 0]=[.pointer none,vI (kE 2 (kV m)),vU (kE 1 (kV m))]:=qeq (kV m) (.pointer none) 0 0
 rw[hfo]at hrow2
 have hkk:jv ([bb,pb]++qG y) w w2:=(hka.trans hk2).drop fun q hq=>by
  simp only[List.mem_append,List.mem_cons,List.mem_nil_iff,or_false]at hq⊢
  rcases hq with (hq|hq)|hq|hq
  ·exact .inl (.inl (.inr hq))
  ·exact .inl (.inr hq)
  ·exact .inl (.inl (.inl hq))
  ·rcases hr8 with ⟨h1,h2⟩|h1
   ·left;right;rw[hq,h2];simp[qG,h1]
   ·right;rw[hq];exact h1
 have hO9:Own kq 3 ⟨y8.b,kq,xs++[.pointer none,vI (kE 2 (kV m)),vU (kE 1 (kV m))]++ex8,true,true,none⟩ (some ⟨y8.b,0,none⟩) (l+1) c8 (xs++[.pointer none,vI (kE 2 (kV m)),vU (kE 1 (kV m))]):=by
  obtain ⟨h1,h2,h3⟩:=hO8.sl
  refine ⟨rfl,rfl,rfl,by simp[hxl];omega,h2,.inl ⟨rfl,rfl,⟨ex8,rfl⟩,?_⟩⟩
  rcases h3 with ⟨-, -, -,h4⟩|⟨h4, -⟩
  ·rw[hlen8]at h4;simp[hxl];omega
  ·rw[hon8]at h4;cases h4
 refine J.begin ⟨w2,0,[]⟩ [] jx .nil ?_
 refine jA (k:=K5 (jj ?_))
 exact je results259 rfl fun w' hH hf=>⟨rfl,⟨_,_,c8,hO9,fun _=>hf.blk hrow2 (.inr zp),fun _=>hr8,hf.blk hpb2 (.inr zp)⟩,hkk.thenF hf,hb2.keep fun cs hk=>hf.blk hk (.inr zp)⟩
structure XZ (w w':World) (pb T off:Nat) (cs:List Value) (y:Ent) (l:Nat) (xs:List Value) (s:ByteArray):Prop where
 ex:∃y' p' c',Own qc 1 y' p' (l+1) c' (xs++[.string s])∧(y'.on=true→Blk w' y'.b qc y'.cs)∧(y'.on=true→(y.on=true∧y'.b=y.b)∨w.heap.size≤y'.b)∧Blk w' pb T (kH cs off [.slice p' (l+1) c'])
 kx:jv ([pb]++qG y) w w'
theorem XZ.fr {w3:World} {pb off:Nat} {s:ByteArray} (h:XZ w w' pb T off cs y l xs s) (k0:Fr 0 [] w0 w) (k1:Fr 0 [] w' w3):XZ w0 w3 pb T off cs y l xs s:=by
 obtain ⟨⟨y',p',c',h1,h3,h4,h5⟩,h6⟩:=h
 exact ⟨⟨y',p',c',h1,fun ho=>k1.blk (h3 ho) (.inr zp),fun ho=>(h4 ho).imp_right fun h=>Nat.le_trans k0.size h,k1.blk h5 (.inr zp)⟩,(h6.afterF k0).thenF k1⟩
theorem qdL (w:World) (bb pb T off k:Nat) (s:ByteArray) (cs:List Value) (y:Ent) (p:Option Addr) (l c:Nat) (xs:List Value) (hfB:ya w bb (.bys k (sB s))) (hp:Blk w pb T cs) (hcs:cs[off]? =some (.slice p l c)) (hO:Own qc 1 y p l c xs)
  (hy:y.on=true→Blk w y.b qc y.cs) (hTB:Nat.beq T qx=false) (hT8:Nat.beq T tU8=false) (hTR:T≠qc) (hn:l+1≤100000000000):
  Calls Tryz.prog 203 #[ptr bb,.pointer (some ⟨pb,off,none⟩)] w (Ret fun v w'=>v=.nilIface∧XZ w w' pb T off cs y l xs s):=by
 have hW:[T,qc].all (fun t=> !Nat.beq t qx)=true:=by simp only[List.all_cons,hTB,Bool.not_false,List.all_nil,Bool.and_true,Bool.true_and];rfl
 have hW8:[T,qc].all (fun t=> !Nat.beq t tU8)=true:=by simp only[List.all_cons,hT8,Bool.not_false,List.all_nil,Bool.and_true,Bool.true_and];rfl
 have hoff:=(List.getElem?_eq_some_iff.1 hcs).1
 refine jr (args:=[_,_]) [(0,_),(1,_)] 0 [T,qc] _ func203 rfl ntmps203 rfl rfl (Hp.two hp hO (fun ho=>⟨hy ho,Nat.zero_le _⟩) (Nat.zero_le _) zp zp hTR) ?_
 refine sQ fun K1=>jb (jA (k:=K1 ?_))
 refine qP fun K2 hK2=>jb (Xr zv9 rfl rfl fun b5=>jw (ji (hK2 _ _ _ (sQ fun K3=>sQ fun K4=>jb (jM (k:=?_))))))
 refine YH (y:=⟨b5,qc,_,true,true,none⟩) (φ:=fun v cs'=>v=.nilIface∧cs'=[.string s]) 0 rfl rfl rfl rfl call217 rfl rfl (fun w1 hH hf=>by
   obtain ⟨hD,b,o,c',tmp,hb,hB⟩:=Vc hf hfB hW hW8
   exact Calls.mono (qfJ w1 bb b5 qc 0 _ _ _ b o c' (sB s) s tmp hb (hH.get (i:=0) rfl rfl) rfl zp hB rfl rfl) (Ret.mono fun v w' h=>⟨_,⟨h.1,rfl⟩,h.2.1,h.2.2⟩)) fun v cs9 hv=>?_
 obtain ⟨rfl,rfl⟩:=hv
 refine jA (k:=K4 (sQ fun K5=>jb (jM (k:=?_))))
 refine jn rfl (fun _ _ h=>xl Jr rfl h) (K5 (jO rfl (jg (K3 (sQ fun K6=>jC 8 (lts [0,1,2,3,4]++(5,false)::((6,false)::(lts [7]++(8,false)::[]))) [0,1] rfl (by kernel_rfl) (by kernel_rfl) (dM [0,1] (k:=dM [0,1] (k:=dN [0,1] (k:=?_)))))))))
 refine vV rfl rfl (jd [0,1] rfl) (fun a w ha hS=>zx 1 rfl rfl yv rfl hcs ha hS) (dH [0,1] 0 ag9 (k:=dE (h:=fun Kd=>?_)))
 refine kj vG so9 zv9 rfl rfl rfl rfl rfl fun b17=>Kd (sb [1,2]) (dE (h:=fun Kd=>?_))
 refine zo 2 rfl hO vG el9 rfl rfl rfl rfl hn rfl fun y8 p8 c8 hO8 hc8 hr8=>?_
 refine Kd (sb [0,1]) (dN [0,1] (k:=dE (h:=fun Kd=>?_)))
 refine vj (y:=⟨pb,T,cs,true,true,none⟩) (o:=off) 1 rfl rfl rfl rfl xH rfl rfl rfl rfl (Nat.ble_eq_true_of_le (show off+1≤cs.length by omega)) ?_
 refine Kd (.inl rfl) (K6 (CJ.t [] (k:=sQ fun K7=>jb (jA (k:=K7 (jj ?_))))))
 exact je results203 rfl fun w' hH hf=>⟨rfl,⟨y8,p8,c8,hO8,fun ho=>by have:=hH.get (i:=2) rfl ho;rwa [hO8.hT]at this,fun _=>hr8,hH.get (i:=1) rfl rfl⟩,Hp.keepX (f:=⟨w,0,[T,qc]⟩) (((hH.drop 0).drop 0).drop 0) hf⟩
theorem st_m (w:World) (bb pb k l c:Nat) (s:ByteArray) (cs:List Value) (y:Ent) (p:Option Addr) (xs:List Value) (hfB:ya w bb (.bys k (sB s))) (hp:Blk w pb ju cs) (hcs:cs[16]? =some (.slice p l c)) (hO:Own qc 1 y p l c xs)
  (hy:y.on=true→Blk w y.b qc y.cs) (hn:l+1≤100000000000) (h0:(xs++[.string s])[0]? =some (.string eB)):
  Calls Tryz.prog 202 #[ptr bb,.iface ipf (ptr pb)] w (Ret fun v w'=>v=.nilIface∧XZ w w' pb ju 16 cs y l xs s):=by
 have hoff:=(List.getElem?_eq_some_iff.1 hcs).1
 refine jr (args:=[_,_]) [(0,_),(1,_)] 0 [] [] func202 rfl ntmps202 rfl rfl .nil ?_
 refine sQ fun K1=>jb (jA (k:=K1 (sQ fun K2=>jb (jM (k:=jM (k:=?_))))))
 refine jn rfl (fun _ _ h=>xM QM rfl h) (jN (k:=jF 16 jz xH (k:=?_)))
 refine kQ (R:=fun w1 v w'=>v=.nilIface∧XZ w1 w' pb ju 16 cs y l xs s) call203 rfl rfl (fun w1 hH hf=>qdL w1 bb pb ju 16 k s cs y p l c xs (hfB.keep hf) (hf.blk hp (.inr zp)) hcs hO (fun ho=>hf.blk (hy ho) (.inr zp)) rfl rfl dq hn) fun w1 v w2 hH1 hf1 hR=>?_
 obtain ⟨rfl,hN0⟩:=hR
 have hN:=hN0.fr hf1 jx
 obtain ⟨y8,p8,c8,hO8,hy8,hr8,hp8⟩:=hN.ex
 obtain ⟨hon8,rfl⟩:=hO8.pos ox
 have hcs8:(kH cs 16 [.slice (some ⟨y8.b,0,none⟩) (l+1) c8])[16]? =some (.slice (some ⟨y8.b,0,none⟩) (l+1) c8):=by simp only[kH];exact List.getElem?_set_self hoff
 have hcp:=mc (f:=⟨w2,0,[]⟩) hp8 rfl
 refine J.begin ⟨w2,0,[]⟩ [] jx .nil ?_
 refine jA (k:=K2 (sQ fun K3=>sQ fun K4=>jb (jM (k:=?_))))
 refine jn rfl (fun _ _ h=>xl Jr rfl h) (K4 (jO rfl (jg (K3 (sQ fun K5=>sQ fun K6=>jb (jM (k:=?_)))))))
 refine jn rfl (fun _ _ h=>xM QM rfl h) (jN (k:=jF 16 jz xH (k:=?_)))
 refine jp rfl (fun a w ha hH hf=>kP yv rfl (hcp w hf 16 _ hcs8) ha) (jn rfl (fun _ _ h=>vH (i:=0) vG so9 rfl rfl ox h) ?_)
 refine jp rfl (fun a w ha hH hf=>kP ag9 rfl (hO8.cell (by rw[hO8.hT];exact hf.blk (hy8 hon8) (.inr zp)) h0) ha) ?_
 refine jn rfl (fun _ _ h=>qgJ rfl rfl h) ?_
 refine jV (u:=.bool false) (congrArg Value.bool (decide_eq_false (fun h=>h rfl))) ?_
 refine K6 (CJ.t [(22,_)] (k:=?_))
 refine jO rfl (jg (K5 (sQ fun K7=>jb (jA (k:=K7 (jj ?_))))))
 exact je results202 rfl fun w' hH hf=>⟨rfl,hN.fr jx hf⟩
structure qmj (φ:World→Nat→Prop) (w w':World) (bb pb:Nat) (cs:List Value):Prop where
 ex:∃xb,Blk w' pb ju (kH cs 11 [ptr xb])∧w.heap.size≤xb∧φ w' xb
 kx:jv [bb,pb] w w'
 buf:vi w' bb
theorem pe_m (w:World) (bb pb k:Nat) (M:List Nat) (cs:List Value) (φ:World→Nat→Prop) (hφ:∀w1 w2 b,φ w1 b→Fr 0 [] w1 w2→φ w2 b) (hfB:ya w bb (.bys k M)) (hp:Blk w pb ju cs) (hoff:11<cs.length)
  (hdm:∀w1 xb,Blk w1 xb tVT zty→ya w1 bb (.bys k M)→w.heap.size≤xb→Calls Tryz.prog 105 #[ptr bb,.iface ivt (ptr xb)] w1 (Ret fun v w'=>v=.nilIface∧φ w' xb∧jv [bb,xb] w1 w'∧vi w' bb)):
  Calls Tryz.prog 209 #[ptr bb,.iface ipf (ptr pb)] w (Ret fun v w'=>v=.nilIface∧qmj φ w w' bb pb cs):=by
 refine jr (args:=[_,_]) [(0,_),(1,_)] 0 [ju] _ func209 rfl ntmps209 rfl rfl (Hp.one hp (Nat.zero_le _) zp) ?_
 refine sQ fun K1=>jb (jA (k:=K1 (sQ fun K2=>jb ?_)))
 refine jW (zs:=[(.string ⟨#[]⟩),(.string ⟨#[]⟩),(.int .i64 0),(.int .i64 0)]) qkc rfl fun b7=>jA (k:=K2 (sQ fun K3=>jb (jM (k:=?_))))
 refine jn rfl (fun _ _ h=>xM QM rfl h) (jA (k:=K3 (sQ fun K4=>jb (jM (k:=jM (k:=jN (k:=jF 11 jz yO (k:=?_))))))))
 refine vj (y:=⟨pb,ju,cs,true,true,none⟩) (o:=11) 1 rfl rfl rfl rfl yO rfl rfl rfl rfl (Nat.ble_eq_true_of_le (show 11+1≤cs.length by omega)) ?_
 refine K4 (CJ.t [(0,_),(5,_)] (k:=sQ fun K5=>jb (jM (k:=jM (k:=?_)))))
 refine jn rfl (fun _ _ h=>zK YZ rfl rfl h) ?_
 refine kQ (R:=fun w1 v w'=>v=.nilIface∧φ w' b7∧jv [bb,b7] w1 w'∧vi w' bb) call105 rfl rfl (fun w1 hH hf=>hdm w1 b7 (hH.get (i:=0) rfl rfl) (Vc hf hfB rfl rfl) (hH.fresh' (i:=0) rfl rfl)) fun w1 v w2 hH1 hf1 hR=>?_
 obtain ⟨rfl,hφ2,hk2,hb2⟩:=hR
 have hxb:w.heap.size≤b7:=hH1.fresh' (i:=0) rfl rfl
 have hka:jv [pb] w w1:=Hp.keepX (f:=⟨w,0,[ju]⟩) ((hH1.drop 0).drop 0) hf1
 have hpb1:Blk w1 pb ju (kH cs 11 [ptr b7]):=hH1.get (i:=1) rfl rfl
 have hbf1:vi w1 bb:=(Vc hf1 hfB rfl rfl).at_
 have hpl:=hp.lt
 have hpb2:=hk2.blk hpb1 (by simp only[List.mem_cons,List.mem_nil_iff,or_false,not_or];exact ⟨hbf1.ne hpb1 dq,by omega⟩)
 have hkk:jv [bb,pb] w w2:=(hka.trans hk2).drop fun q hq=>by
  simp only[List.mem_append,List.mem_cons,List.mem_nil_iff,or_false]at hq⊢
  rcases hq with hq|hq|hq
  ·exact .inl (.inr hq)
  ·exact .inl (.inl hq)
  ·right;omega
 refine J.begin ⟨w2,0,[]⟩ [] jx .nil ?_
 refine jA (k:=K5 (jj ?_))
 exact je results209 rfl fun w' hH hf=>⟨rfl,⟨b7,hf.blk hpb2 (.inr zp),hxb,hφ _ _ _ hφ2 hf⟩,hkk.thenF hf,hb2.keep fun cs hk=>hf.blk hk (.inr zp)⟩
def Rw (φ:Nat→Prop) (T sz:Nat) (w:World) (p:Option Addr) (l c:Nat) (xs:List Value):Prop:=∃y,Own T sz y p l c xs∧(y.on=true→Blk w y.b T y.cs∧φ y.b)
theorem Rw.nil:Rw φ T sz w none 0 0 []:=⟨qQ T,Own.nil,fun h=>by simp[qQ]at h⟩
theorem Rw.mono {ψ:Nat→Prop} {p:Option Addr} (h:Rw φ T sz w p l c xs) (k:∀b cs,φ b→Blk w b T cs→Blk w' b T cs∧ψ b):Rw ψ T sz w' p l c xs:=by
 obtain ⟨y,h1,h2⟩:=h
 exact ⟨y,h1,fun ho=>k _ _ (h2 ho).2 (h2 ho).1⟩
theorem Rw.keep {p:Option Addr} (h:Rw φ T sz w p l c xs) (k:∀b cs,Blk w b T cs→Blk w' b T cs):Rw φ T sz w' p l c xs:=h.mono fun b cs hb hk=>⟨k b cs hk,hb⟩
theorem Rw.fr {p:Option Addr} (h:Rw φ T sz w p l c xs) (k:Fr 0 [] w w'):Rw φ T sz w' p l c xs:=h.keep fun b cs hb=>k.blk hb (.inr zp)
theorem Rw.os {p:Option Addr} (h:Rw φ T sz w p l c xs):OS T sz w (.slice p l c) xs:=by
 obtain ⟨y,h1,h2⟩:=h
 exact ⟨y,p,l,c,rfl,h1,fun ho=>(h2 ho).1⟩
def rVT (T:List ByteArray) (w:World) (b:Nat) (t:xn):Prop:=∃n m,Blk w b tVT [.string eB,.string eB,.int .i64 n,.int .i64 m]∧At T n t.ty∧At T m t.unit
def rMp (T:List ByteArray) (w:World) (b:Nat) (m:qK):Prop:=∃n k,Blk w b vO [.int .u64 m.id,.int .u64 m.start,.int .u64 m.limit,.int .u64 m.offset,.string eB,.string eB,.bool m.fu,.bool m.fi,.bool m.li,.bool m.inl,.int .i64 n,.int .i64 k]∧At T n m.file∧At T k m.build
def rFn (T:List ByteArray) (w:World) (b:Nat) (f:yl):Prop:=∃n k i,Blk w b xi [.int .u64 f.id,.string eB,.string eB,.string eB,.int .i64 f.start,.int .i64 n,.int .i64 k,.int .i64 i]∧At T n f.name∧At T k f.system∧At T i f.file
def Xa (x:jD) (n:vz):List Value:=[.pointer none,.int .i64 n.line,.int .u64 (fnid x n.fn)]
def rLc (x:jD) (φ:Nat→Prop) (w:World) (b:Nat) (l:vP):Prop:=∃p c,Blk w b qH [.int .u64 l.id,.pointer none,.int .u64 l.addr,.slice p l.lines.length c,.bool false,.int .u64 (mid x l.mapping)]∧Rw φ kq 3 w p l.lines.length c (l.lines.flatMap (Xa x))
def LbQ (T:List ByteArray) (q:Int×Int×Int) (e:LE):Prop:=At T q.1 e.1∧match e.2.1 with
 |some v=>q.2.1≠0∧At T q.2.1 v
 |none=>q.2.1=0∧q.2.2=e.2.2
def qit (T:List ByteArray) (lbs:List (Int×Int×Int)) (es:List LE):Prop:=lbs.length=es.length∧∀(i:Nat) q e,lbs[i]? =some q→es[i]? =some e→LbQ T q e
def rSm (x:jD) (T:List ByteArray) (φ:Nat→Prop) (w:World) (b:Nat) (s:ku):Prop:=∃pv cv pi ci pl cl lbs es,Blk w b kY [.slice none 0 0,.slice pv s.values.length cv,.map none,.map none,.map none,.slice pi s.stack.length ci,.slice pl es.length cl]∧
 Rw φ qd 1 w pv s.values.length cv (s.values.map (.int .i64))∧Rw φ vR 1 w pi s.stack.length ci (s.stack.map fun z=>.int .u64 (lid x z))∧Rw φ vq 3 w pl es.length cl (lbs.flatMap cLb)∧qit T lbs es∧ZE es s∧es.length≤1000000
theorem atW {T:List ByteArray} {s:ByteArray} (h:T[n]? =some s) (hl:T.length≤1000000000):At T (IntKind.i64.wrap (n:Nat)) s:=by
 have:=(List.getElem?_eq_some_iff.1 h).1
 exact ⟨n,kG ox ox,h⟩
theorem qkx (T:List ByteArray) (hl:T.length≤1000000000) (w:World) (bb xb k:Nat) (m:Msg) (t:xn) (hM:TyM T t m) (hx:Blk w xb tVT zty) (hf:ya w bb (.bys k (mB m))):
  Calls Tryz.prog 105 #[ptr bb,.iface ivt (ptr xb)] w (Ret fun v w'=>v=.nilIface∧rVT T w' xb t∧jv [bb,xb] w w'∧vi w' bb):=by
 refine Calls.mono (Xv tVT ivt Ye qaN tb2 dq dq dq qgl qiw qgn qgm qgk w bb xb 0 k m zty hM.ok hf hx (fun k g off val h=>by have:=qeU k g off val h;show 0+off<4;omega) (fun w' _=>qgj w' _)) (Ret.mono fun v w' h=>?_)
 obtain ⟨rfl,h1,h2,h3⟩:=h
 have hfo:(kV m).foldl (apS Ye 0) zty=_:=qdX (kV m) (.string ⟨#[]⟩) (.string ⟨#[]⟩) 0 0
 rw[hfo]at h1
 exact ⟨rfl,⟨_,_,h1,atW hM.h1 hl,atW hM.h2 hl⟩,h2,h3⟩
theorem dMp_c (T:List ByteArray) (hl:T.length≤1000000000) (w:World) (bb xb k:Nat) (m:Msg) (t:qK) (hM:MpM T t m) (hx:Blk w xb vO zma) (hf:ya w bb (.bys k (mB m))):
  Calls Tryz.prog 105 #[ptr bb,.iface imp (ptr xb)] w (Ret fun v w'=>v=.nilIface∧rMp T w' xb t∧jv [bb,xb] w w'∧vi w' bb):=by
 refine Calls.mono (Xv vO imp Yk qbi qdj dq dq dq qgW qiY qgY qgX qgV w bb xb 0 k m zma hM.ok hf hx (fun k g off val h=>by have:=qfj k g off val h;show 0+off<12;omega) (fun w' _=>qgU w' _)) (Ret.mono fun v w' h=>?_)
 obtain ⟨rfl,h1,h2,h3⟩:=h
 have hfo:(kV m).foldl (apS Yk 0) zma=_:=qeo (kV m) (.string ⟨#[]⟩) (.string ⟨#[]⟩) 0 0 0 0 0 0 0 0 0 0
 rw[hfo]at h1
 have e:∀{n:Nat} {z:Int},(n:Int)=z→vU n=.int .u64 z:=fun h=>by rw[← h]
 have eb:∀{n:Nat} {z:Bool},decide (n≠0)=z→vB n=.bool z:=fun h=>by rw[← h]
 rw[e hM.id,e hM.st,e hM.li,e hM.off,eb hM.fu,eb hM.fi,eb hM.ln,eb hM.inl]at h1
 exact ⟨rfl,⟨_,_,h1,atW hM.file hl,atW hM.build hl⟩,h2,h3⟩
theorem dFn_c (T:List ByteArray) (hl:T.length≤1000000000) (w:World) (bb xb k:Nat) (m:Msg) (t:yl) (hM:FnM T t m) (hx:Blk w xb xi zfu) (hf:ya w bb (.bys k (mB m))):
  Calls Tryz.prog 105 #[ptr bb,.iface ifn (ptr xb)] w (Ret fun v w'=>v=.nilIface∧rFn T w' xb t∧jv [bb,xb] w w'∧vi w' bb):=by
 refine Calls.mono (Xv xi ifn Ym qbs tb5 dq dq dq qhN qjF qhP qhO qhM w bb xb 0 k m zfu hM.ok hf hx (fun k g off val h=>by have:=qfD k g off val h;show 0+off<8;omega) (fun w' _=>qhL w' _)) (Ret.mono fun v w' h=>?_)
 obtain ⟨rfl,h1,h2,h3⟩:=h
 have hfo:(kV m).foldl (apS Ym 0) zfu=_:=qez (kV m) (.string ⟨#[]⟩) (.string ⟨#[]⟩) (.string ⟨#[]⟩) 0 0 0 0 0
 rw[hfo]at h1
 have e:∀{n:Nat} {z:Int},(n:Int)=z→vU n=.int .u64 z:=fun h=>by rw[← h]
 have ei:∀{n:Nat} {z:Int},IntKind.i64.wrap (n:Nat)=z→vI n=.int .i64 z:=fun h=>by rw[← h]
 rw[e hM.id,ei hM.st]at h1
 exact ⟨rfl,⟨_,_,_,h1,atW hM.name hl,atW hM.sys hl,atW hM.file hl⟩,h2,h3⟩
theorem Vb {k:Nat} {pre:List Fld} {f:Fld} (hp:pre++[f]<+:fs) (hk:kn f=k):cnt k pre<cnt k fs:=by
 obtain ⟨r,rfl⟩:=hp
 rw[qbB,zP hk];omega
theorem xp {α:Type} {xs:List α} {j:Nat} {a:α} (h:xs[j]? =some a):xs.take (j+1)=xs.take j++[a]:=by
 obtain ⟨hl,rfl⟩:=List.getElem?_eq_some_iff.1 h
 exact (tG hl).symm
structure LcSt (x:jD) (l:vP) (bb lb:Nat) (w1:World) (pre:List Fld) (w:World):Prop where
 kx:jv [bb,lb] w1 w
 buf:vi w bb
 st:∃p c,Blk w lb qH [vU (kE 1 pre),.pointer none,vU (kE 3 pre),.slice p (cnt 4 pre) c,.bool false,vU (kE 2 pre)]∧Rw (fun b=>w1.heap.size≤b) kq 3 w p (cnt 4 pre) c ((l.lines.take (cnt 4 pre)).flatMap (Xa x))
theorem qjm:ZT qdi qcv:=⟨fun k h=>by
 rcases (by omega:k=0∨k=1∨k=2∨k=3∨k=4∨5≤k) with rfl|rfl|rfl|rfl|rfl|hk
 ·exact absurd rfl h
 ·exact ⟨_,rfl,call256⟩
 ·exact ⟨_,rfl,call257⟩
 ·exact ⟨_,rfl,call258⟩
 ·exact ⟨_,rfl,call259⟩
 ·exact absurd (by unfold qdi;rw[if_neg ox,if_neg ox]) h,fun k h=>by
 rcases (by omega:k=0∨k=1∨k=2∨k=3∨k=4∨5≤k) with rfl|rfl|rfl|rfl|rfl|hk
 ·exact .inr rfl
 ·cases h
 ·cases h
 ·cases h
 ·cases h
 ·exact .inl (List.getElem?_eq_none (by simpa using hk)),by decide⟩
theorem dLc_c (x:jD) (w:World) (bb xb k:Nat) (m:Msg) (t:vP) (hM:LcM x t m) (hll:t.lines.length≤1000000) (hx:Blk w xb qH zlo) (hf:ya w bb (.bys k (mB m))):
  Calls Tryz.prog 105 #[ptr bb,.iface ilc (ptr xb)] w (Ret fun v w'=>v=.nilIface∧rLc x (fun b=>w.heap.size≤b) w' xb t∧jv [bb,xb] w w'∧vi w' bb):=by
 obtain ⟨g,hgl,hg⟩:=hM.lns
 refine Calls.mono (qby w bb xb ilc qH (ptr xb) qcv qdi m k zlo hM.ok (fun k=>by unfold qdi;split<;>(try split)<;>omega) qjm hf hx dq dq (fun w' _=>qhk w' _) (LcSt x t bb xb) fun w1 hf1=>?_) (Ret.mono fun v w' h=>?_)
 ·refine ⟨⟨.refl,(hf.keep hf1).at_,none,0,hf1.blk hx (.inr zp),Rw.nil⟩,fun pre w2 h=>h.kx,fun pre w2 h=>h.buf,fun pre w2 w3 h hk hb=>?_,fun pre f w2 hp h ht=>?_,fun pre f w2 gf hp h hbf hw hgf=>?_⟩
  ·obtain ⟨p,c,h1,h2⟩:=h.st
   exact ⟨h.kx.trans' (hk.mono zp),hb,p,c,hk.blk h1 (by simpa using h.buf.ne h1 dq),h2.keep fun b cs hq=>hk.blk hq (by simpa using h.buf.ne hq dq)⟩
  ·have n1:kn f≠1:=fun e=>by rw[e]at ht;cases ht
   have n2:kn f≠2:=fun e=>by rw[e]at ht;cases ht
   have n3:kn f≠3:=fun e=>by rw[e]at ht;cases ht
   have n4:kn f≠4:=fun e=>by rw[e]at ht;cases ht
   refine ⟨h.kx,h.buf,?_⟩
   rw[jR n4,kE,kE,kE,jY n1,jY n2,jY n3]
   exact h.st
  ·obtain ⟨p,c,h1,h2⟩:=h.st
   have sc:∀(j off:Nat) (gs:FuncId),kn f=j→xh qH ilc gs off vU→off<6→qdi j=1→(∀n:Nat,f=.num j n→[vU (kE 1 (pre++[f])),.pointer none,vU (kE 3 (pre++[f])),.slice p (cnt 4 (pre++[f])) c,.bool false,vU (kE 2 (pre++[f]))]=kH [vU (kE 1 pre),.pointer none,vU (kE 3 pre),.slice p (cnt 4 pre) c,.bool false,vU (kE 2 pre)] off [vU n])→j≠4→
     Calls Tryz.prog gs #[ptr bb,.iface ilc (ptr xb)] w2 (Ret fun v w'=>v=.nilIface∧LcSt x t bb xb w1 (pre++[f]) w'):=fun j off gs hj hs ho htj he h4=>by
    subst hj
    cases f with
    |bys k' D=>simp only at hw;rw[show qdi k'=1 from htj]at hw;omega
    |num k' n=>
     obtain ⟨hn,tmp,hb⟩:=hbf
     refine Calls.mono (hs w2 bb xb 0 k' n _ tmp hn hb h1 (by simpa using ho)) (Ret.mono fun v w3 hR=>?_)
     obtain ⟨rfl,h5,h6⟩:=hR
     refine ⟨rfl,h.kx.trans' (h6.mono zp),h.buf.keep fun cs hq=>h6.blk hq (by simpa using (h.buf.ne h1 dq).symm),p,c,?_,?_⟩
     ·rw[he n rfl];simpa using h5
     ·rw[jR h4]
      exact h2.keep fun b cs hq=>h6.blk hq (by simpa using hq.ne h1 dq)
   rcases (by omega:kn f=0∨kn f=1∨kn f=2∨kn f=3∨kn f=4∨5≤kn f) with hk|hk|hk|hk|hk|hk
   ·rw[hk]at hgf;cases hgf
   ·rw[hk]at hgf;cases hgf
    exact sc 1 0 _ hk lc1_s ox rfl (fun n hn=>by subst hn;simp only[kE];rw[JI (k:=1) hk,jY (k:=2) (by rw[hk];decide),jY (k:=3) (by rw[hk];decide),jR (k:=4) (by rw[hk];decide)];rfl) dq
   ·rw[hk]at hgf;cases hgf
    exact sc 2 5 _ hk lc2_s ox rfl (fun n hn=>by subst hn;simp only[kE];rw[JI (k:=2) hk,jY (k:=1) (by rw[hk];decide),jY (k:=3) (by rw[hk];decide),jR (k:=4) (by rw[hk];decide)];rfl) dq
   ·rw[hk]at hgf;cases hgf
    exact sc 3 2 _ hk lc3_s ox rfl (fun n hn=>by subst hn;simp only[kE];rw[JI (k:=3) hk,jY (k:=2) (by rw[hk];decide),jY (k:=1) (by rw[hk];decide),jR (k:=4) (by rw[hk];decide)];rfl) dq
   ·rw[hk]at hgf;cases hgf
    obtain ⟨q,hq,hqn⟩:=hg.at_ hp hk
    have hlt:=Vb hp hk
    rw[hg.cnt,hgl]at hlt
    have hn0:t.lines[cnt 4 pre]? =some t.lines[cnt 4 pre]:=gE hlt
    have hLn:=hqn _ hn0
    cases f with
    |num k' n=>simp only[kn]at hk;subst hk;simp only at hw;exact absurd hw dq
    |bys k' D=>
     simp only[kn,qn]at hk hq
     subst hk;subst hq
     obtain ⟨y,hO,hy⟩:=h2
     refine Calls.mono (lc4_m w2 bb xb 4 _ c q _ y p _ hLn.ok hbf h1 rfl hO (fun ho=>(hy ho).1) ox) (Ret.mono fun v w3 hR=>?_)
     obtain ⟨rfl,⟨y',p',c',hO',hy',hr',hb'⟩,hkk,hbb⟩:=hR
     have hge:∀q∈[bb,xb]++qG y,q∈[bb,xb]∨w1.heap.size≤q:=fun q hq=>by
       rcases mA hq with hq|hq
       ·exact .inl hq
       ·unfold qG at hq
        split at hq
        ·next ho=>simp at hq;rw[hq];exact .inr (hy ho).2
        ·cases hq
     refine ⟨rfl,h.kx.more hkk hge,hbb,p',c',?_,?_⟩
     ·simp only[kE]
      rw[jY (k:=1) (f:=.bys 4 (mB q)) (show (4:Nat)≠1 by decide),jY (k:=2) (f:=.bys 4 (mB q)) (show (4:Nat)≠2 by decide),jY (k:=3) (f:=.bys 4 (mB q)) (show (4:Nat)≠3 by decide),zP (k:=4) (f:=.bys 4 (mB q)) rfl]
      exact hb'
     ·rw[zP (k:=4) (f:=.bys 4 (mB q)) rfl,xp hn0,List.flatMap_append]
      have e1:[t.lines[cnt 4 pre]].flatMap (Xa x)=[.pointer none,vI (kE 2 (kV q)),vU (kE 1 (kV q))]:=by
        simp only[List.flatMap_cons,List.flatMap_nil,List.append_nil,Xa,vI,vU,hLn.fn,hLn.line]
      rw[e1]
      refine ⟨y',hO',fun ho=>⟨hy' ho,?_⟩⟩
      rcases hr' ho with ⟨e1,e2⟩|e
      ·rw[e2];exact (hy e1).2
      ·exact Nat.le_trans h.kx.size e
   ·rw[List.getElem?_eq_none (by simpa using hk)]at hgf;cases hgf
 ·obtain ⟨rfl,w1,hf1,h2⟩:=h
  obtain ⟨p,c,h3,h4⟩:=h2.st
  have hc4:cnt 4 (kV m)=t.lines.length:=by rw[hg.cnt,hgl]
  have e:∀{n:Nat} {z:Int},(n:Int)=z→vU n=.int .u64 z:=fun h=>by rw[← h]
  rw[hc4,e hM.id,e hM.mp,e hM.ad]at h3
  rw[hc4,List.take_length]at h4
  exact ⟨rfl,⟨p,c,h3,h4.mono fun b cs hb hk=>⟨hk,Nat.le_trans hf1.size hb⟩⟩,h2.kx.afterF hf1,h2.buf⟩
theorem qdB {nss:List (List Nat)} {pre:List Fld}:(gv nss pre).length≤nss.flatten.length:=by
 unfold gv
 conv=>rhs;rw[← List.take_append_drop pre.length nss,List.flatten_append,lA]
 omega
structure SmSt (x:jD) (T:List ByteArray) (nS nV:List (List Nat)) (es:List LE) (bb sb:Nat) (w1:World) (pre:List Fld) (w:World):Prop where
 kx:jv [bb,sb] w1 w
 buf:vi w bb
 st:∃pv cv pi ci pl cl lbs,Blk w sb kY [.slice none 0 0,.slice pv (gv nV pre).length cv,.map none,.map none,.map none,.slice pi (gv nS pre).length ci,.slice pl (cnt 3 pre) cl]∧
  Rw (fun b=>w1.heap.size≤b) qd 1 w pv (gv nV pre).length cv ((gv nV pre).map vI)∧cv<9223372036854775808∧Rw (fun b=>w1.heap.size≤b) vR 1 w pi (gv nS pre).length ci ((gv nS pre).map vU)∧ci<9223372036854775808∧
  Rw (fun b=>w1.heap.size≤b) vq 3 w pl (cnt 3 pre) cl (lbs.flatMap cLb)∧qit T lbs (es.take (cnt 3 pre))
theorem qiB:ZT qgs qbP:=⟨fun k h=>by
 rcases (by omega:k=0∨k=1∨k=2∨k=3∨4≤k) with rfl|rfl|rfl|rfl|hk
 ·exact absurd rfl h
 ·exact ⟨_,rfl,call264⟩
 ·exact ⟨_,rfl,call266⟩
 ·exact ⟨_,rfl,call267⟩
 ·exact absurd (by unfold qgs;rw[if_neg ox,if_neg ox]) h,fun k h=>by
 rcases (by omega:k=0∨k=1∨k=2∨k=3∨4≤k) with rfl|rfl|rfl|rfl|hk
 ·exact .inr rfl
 ·cases h
 ·cases h
 ·cases h
 ·exact .inl (List.getElem?_eq_none (by simpa using hk)),by decide⟩
theorem Ji {T2:Nat} (hy:y.on=true→Blk w y.b T2 y.cs∧n≤y.b):∀q∈qG y,n≤q:=fun q hq=>by
 unfold qG at hq
 split at hq
 ·next ho=>simp at hq;rw[hq];exact (hy ho).2
 ·cases hq
theorem LbM.q {T:List ByteArray} (hl:T.length≤1000000000) {e:LE} {m:Msg} (h:LbM T e m):LbQ T (IntKind.i64.wrap (kE 1 (kV m):Nat),IntKind.i64.wrap (kE 2 (kV m):Nat),IntKind.i64.wrap (kE 3 (kV m):Nat)) e:=by
 refine ⟨atW h.key hl,?_⟩
 have hv:=h.val
 cases hc:e.2.1 with
 |some t=>
  rw[hc]at hv
  simp only at hv⊢
  have h1:=(List.getElem?_eq_some_iff.1 hv.2).1
  rw[kG (z:=(kE 2 (kV m):Nat)) ox ox]
  exact ⟨by omega,_,rfl,hv.2⟩
 |none=>
  rw[hc]at hv
  simp only at hv⊢
  rw[hv.1]
  exact ⟨rfl,hv.2⟩
theorem qit.push {T:List ByteArray} {lbs:List (Int×Int×Int)} {es:List LE} {q:Int×Int×Int} {e:LE} (h:qit T lbs es) (hq:LbQ T q e):qit T (lbs++[q]) (es++[e]):=by
 refine ⟨by simp[h.1],fun i q' e' hq' he'=>?_⟩
 by_cases hi:i<lbs.length
 ·rw[aq hi]at hq'
  rw[aq (by rw[← h.1];exact hi)]at he'
  exact h.2 i q' e' hq' he'
 ·have hlt:=(List.getElem?_eq_some_iff.1 hq').1
  simp at hlt
  have e1:i=lbs.length:=by omega
  subst e1
  rw[List.getElem?_append_right ox]at hq'
  rw[List.getElem?_append_right (by rw[h.1];omega)]at he'
  simp at hq'
  simp[h.1]at he'
  subst hq';subst he';exact hq
set_option maxHeartbeats 1000000 in
theorem dSm_c (x:jD) (T:List ByteArray) (hl:T.length≤1000000000) (w:World) (bb xb k:Nat) (m:Msg) (t:ku) (hM:SmM x T t m) (hsl:t.stack.length≤1000000) (hvl:t.values.length≤1000000) (hx:Blk w xb kY zsa) (hf:ya w bb (.bys k (mB m))):
  Calls Tryz.prog 105 #[ptr bb,.iface ism (ptr xb)] w (Ret fun v w'=>v=.nilIface∧rSm x T (fun b=>w.heap.size≤b) w' xb t∧jv [bb,xb] w w'∧vi w' bb):=by
 obtain ⟨nS,hS,hSe⟩:=hM.st
 obtain ⟨nV,hV,hVe⟩:=hM.vs
 obtain ⟨g,es,hgl,hg,hLs,hel⟩:=hM.lb
 have hSl:nS.flatten.length=t.stack.length:=by have:=congrArg List.length hSe;rwa [List.length_map,List.length_map]at this
 have hVl:nV.flatten.length=t.values.length:=by have:=congrArg List.length hVe;rwa [List.length_map]at this
 refine Calls.mono (qby w bb xb ism kY (ptr xb) qbP qgs m k zsa hM.ok (fun k=>by unfold qgs;split<;>(try split)<;>omega) qiB hf hx dq dq (fun w' _=>qgy w' _) (SmSt x T nS nV es bb xb) fun w1 hf1=>?_) (Ret.mono fun v w' h=>?_)
 ·refine ⟨⟨.refl,(hf.keep hf1).at_,none,0,none,0,none,0,[],hf1.blk hx (.inr zp),Rw.nil,by omega,Rw.nil,by omega,Rw.nil,by simp[cnt],by simp⟩,fun pre w2 h=>h.kx,fun pre w2 h=>h.buf,fun pre w2 w3 h hk hb=>?_,fun pre f w2 hp h ht=>?_,fun pre f w2 gf hp h hbf hw hgf=>?_⟩
  ·obtain ⟨pv,cv,pi,ci,pl,cl,lbs,h1,h2,h3,h4,h5,h6,h7⟩:=h.st
   have kb:∀(T:Nat),T≠qx→∀b cs,Blk w2 b T cs→Blk w3 b T cs:=fun T hT b cs hq=>hk.blk hq (by simpa using h.buf.ne hq hT)
   exact ⟨h.kx.trans' (hk.mono zp),hb,pv,cv,pi,ci,pl,cl,lbs,kb _ dq _ _ h1,h2.keep (kb _ dq),h3,h4.keep (kb _ dq),h5,h6.keep (kb _ dq),h7⟩
  ·have n1:kn f≠1:=fun e=>by rw[e]at ht;cases ht
   have n2:kn f≠2:=fun e=>by rw[e]at ht;cases ht
   have n3:kn f≠3:=fun e=>by rw[e]at ht;cases ht
   obtain ⟨a,e1,e1'⟩:=hS.step hp
   obtain ⟨b,e2,e2'⟩:=hV.step hp
   rw[if_neg n1]at e1'
   rw[if_neg n2]at e2'
   subst e1';subst e2'
   rw[List.append_nil]at e1 e2
   refine ⟨h.kx,h.buf,?_⟩
   rw[jR n3,e1,e2]
   exact h.st
  ·obtain ⟨pv,cv,pi,ci,pl,cl,lbs,h1,h2,h3,h4,h5,h6,h7⟩:=h.st
   obtain ⟨a,e1,e1'⟩:=hS.step hp
   obtain ⟨b,e2,e2'⟩:=hV.step hp
   have hgS:=qdB (nss:=nS) (pre:=pre++[f])
   have hgV:=qdB (nss:=nV) (pre:=pre++[f])
   rcases (by omega:kn f=0∨kn f=1∨kn f=2∨kn f=3∨4≤kn f) with hk|hk|hk|hk|hk
   ·rw[hk]at hgf;cases hgf
   ·rw[hk]at hgf;cases hgf
    rw[if_pos hk]at e1'
    rw[if_neg (by rw[hk];decide)]at e2'
    subst e2'
    rw[List.append_nil]at e2
    obtain ⟨y,hO,hy⟩:=h4
    refine Calls.mono (sm1_l w2 bb xb f a _ y pi _ ci _ hbf e1' h1 rfl hO (fun ho=>(hy ho).1) h5 (by rw[e1,lA]at hgS;omega)) (Ret.mono fun v w3 hR=>?_)
    obtain ⟨rfl,⟨y',p',c',hO',hc',hy',hr',hb'⟩,hkk⟩:=hR
    have kb:∀(T:Nat),T≠kY→T≠vR→∀b cs,Blk w2 b T cs→Blk w3 b T cs:=fun T hT hU b cs hq=>hkk.blk hq fun hm=>by
     rcases mA hm with hm|hm
     ·simp at hm;exact hq.ne h1 hT hm
     ·exact yp (fun ho=>(hy ho).1) hq hU hm
    refine ⟨rfl,h.kx.more hkk fun q hq=>?_,h.buf.keep (kb _ dq dq _),pv,cv,p',c',pl,cl,lbs,?_⟩
    ·rcases mA hq with hq|hq
     ·simp at hq;subst hq;simp
     ·exact .inr (Ji hy q hq)
    ·rw[jR (k:=3) (by rw[hk];decide),e1,e2,lA,List.map_append]
     exact ⟨hb',h2.keep (kb _ dq dq),h3,⟨y',hO',fun ho=>⟨hy' ho,by
      rcases hr' ho with ⟨e1,e2⟩|e
      ·rw[e2];exact (hy e1).2
      ·exact Nat.le_trans h.kx.size e⟩⟩,hc',h6.keep (kb _ dq dq),h7⟩
   ·rw[hk]at hgf;cases hgf
    rw[if_neg (by rw[hk];decide)]at e1'
    rw[if_pos hk]at e2'
    subst e1'
    rw[List.append_nil]at e1
    obtain ⟨y,hO,hy⟩:=h2
    refine Calls.mono (sm2_l w2 bb xb f b _ y pv _ cv _ hbf e2' h1 rfl hO (fun ho=>(hy ho).1) h3 (by rw[e2,lA]at hgV;omega)) (Ret.mono fun v w3 hR=>?_)
    obtain ⟨rfl,⟨y',p',c',hO',hc',hy',hr',hb'⟩,hkk⟩:=hR
    have kb:∀(T:Nat),T≠kY→T≠qd→∀b cs,Blk w2 b T cs→Blk w3 b T cs:=fun T hT hU b cs hq=>hkk.blk hq fun hm=>by
     rcases mA hm with hm|hm
     ·simp at hm;exact hq.ne h1 hT hm
     ·exact yp (fun ho=>(hy ho).1) hq hU hm
    refine ⟨rfl,h.kx.more hkk fun q hq=>?_,h.buf.keep (kb _ dq dq _),p',c',pi,ci,pl,cl,lbs,?_⟩
    ·rcases mA hq with hq|hq
     ·simp at hq;subst hq;simp
     ·exact .inr (Ji hy q hq)
    ·rw[jR (k:=3) (by rw[hk];decide),e1,e2,lA,List.map_append]
     exact ⟨hb',⟨y',hO',fun ho=>⟨hy' ho,by
      rcases hr' ho with ⟨e1,e2⟩|e
      ·rw[e2];exact (hy e1).2
      ·exact Nat.le_trans h.kx.size e⟩⟩,hc',h4.keep (kb _ dq dq),h5,h6.keep (kb _ dq dq),h7⟩
   ·rw[hk]at hgf;cases hgf
    rw[if_neg (by rw[hk];decide)]at e1' e2'
    subst e1';subst e2'
    rw[List.append_nil]at e1 e2
    obtain ⟨q,hq,hqn⟩:=hg.at_ hp hk
    have hlt:=Vb hp hk
    rw[hg.cnt,hgl]at hlt
    have hn0:es[cnt 3 pre]? =some es[cnt 3 pre]:=gE hlt
    have hLb:=hqn _ hn0
    cases f with
    |num k' n=>simp only[kn]at hk;subst hk;simp only at hw;exact absurd hw dq
    |bys k' D=>
     simp only[kn,qn]at hk hq
     subst hk;subst hq
     obtain ⟨y,hO,hy⟩:=h6
     refine Calls.mono (sm3_m w2 bb xb 3 _ cl q _ y pl _ hLb.ok hbf h1 rfl hO (fun ho=>(hy ho).1) ox) (Ret.mono fun v w3 hR=>?_)
     obtain ⟨rfl,⟨y',p',c',hO',hy',hr',hb'⟩,hkk,hbb⟩:=hR
     have kb:∀(T:Nat),T≠qx→T≠kY→T≠vq→∀b cs,Blk w2 b T cs→Blk w3 b T cs:=fun T hB hT hU b cs hq=>hkk.blk hq fun hm=>by
       rcases mA hm with hm|hm
       ·simp only[List.mem_cons,List.mem_nil_iff,or_false]at hm
        rcases hm with hm|hm
        ·exact h.buf.ne hq hB hm
        ·exact hq.ne h1 hT hm
       ·exact yp (fun ho=>(hy ho).1) hq hU hm
     refine ⟨rfl,h.kx.more hkk fun q hq=>?_,hbb,pv,cv,pi,ci,p',c',lbs++[(IntKind.i64.wrap (kE 1 (kV q):Nat),IntKind.i64.wrap (kE 2 (kV q):Nat),IntKind.i64.wrap (kE 3 (kV q):Nat))],?_⟩
     ·rcases mA hq with hq|hq
      ·exact .inl hq
      ·exact .inr (Ji hy q hq)
     ·rw[zP (k:=3) (f:=.bys 3 (mB q)) rfl,e1,e2,List.flatMap_append,xp hn0]
      exact ⟨hb',h2.keep (kb _ dq dq dq),h3,h4.keep (kb _ dq dq dq),h5,⟨y',hO',fun ho=>⟨hy' ho,by
        rcases hr' ho with ⟨e1,e2⟩|e
        ·rw[e2];exact (hy e1).2
        ·exact Nat.le_trans h.kx.size e⟩⟩,h7.push (hLb.q hl)⟩
   ·rw[List.getElem?_eq_none (by simpa using hk)]at hgf;cases hgf
 ·obtain ⟨rfl,w1,hf1,h0⟩:=h
  obtain ⟨pv,cv,pi,ci,pl,cl,lbs,h1,h2,h3,h4,h5,h6,h7⟩:=h0.st
  have hc3:cnt 3 (kV m)=es.length:=by rw[hg.cnt,hgl]
  have eV:(nV.flatten.map vI)=t.values.map (.int .i64):=by rw[← hVe,List.map_map];rfl
  have eS:(nS.flatten.map vU)=t.stack.map fun z=>.int .u64 (lid x z):=by
   have:=congrArg (List.map (Value.int .u64)) hSe
   simpa[Function.comp_def]using this
  rw[hc3,hV.all,hS.all,hVl,hSl]at h1
  rw[hV.all,hVl,eV]at h2
  rw[hS.all,hSl,eS]at h4
  rw[hc3]at h6 h7
  rw[List.take_length]at h7
  have kb:∀b,w1.heap.size≤b→w.heap.size≤b:=fun b hb=>Nat.le_trans hf1.size hb
  exact ⟨rfl,⟨pv,cv,pi,ci,pl,cl,lbs,es,h1,h2.mono fun b cs hb hk=>⟨hk,kb b hb⟩,h4.mono fun b cs hb hk=>⟨hk,kb b hb⟩,h6.mono fun b cs hb hk=>⟨hk,kb b hb⟩,h7,hLs,hel⟩,h0.kx.afterF hf1,h0.buf⟩
theorem rVT.mono {T:List ByteArray} {t:xn} (h:rVT T w b t) (k:∀cs,Blk w b tVT cs→Blk w' b tVT cs):rVT T w' b t:=by
 obtain ⟨n,m,h1,h2⟩:=h
 exact ⟨n,m,k _ h1,h2⟩
theorem rMp.mono {T:List ByteArray} {t:qK} (h:rMp T w b t) (k:∀cs,Blk w b vO cs→Blk w' b vO cs):rMp T w' b t:=by
 obtain ⟨n,m,h1,h2⟩:=h
 exact ⟨n,m,k _ h1,h2⟩
theorem rFn.mono {T:List ByteArray} {t:yl} (h:rFn T w b t) (k:∀cs,Blk w b xi cs→Blk w' b xi cs):rFn T w' b t:=by
 obtain ⟨n,m,i,h1,h2⟩:=h
 exact ⟨n,m,i,k _ h1,h2⟩
theorem rLc.mono {x:jD} {ψ:Nat→Prop} {t:vP} (h:rLc x φ w b t) (k:∀cs,Blk w b qH cs→Blk w' b qH cs) (k2:∀b cs,φ b→Blk w b kq cs→Blk w' b kq cs∧ψ b):rLc x ψ w' b t:=by
 obtain ⟨p,c,h1,h2⟩:=h
 exact ⟨p,c,k _ h1,h2.mono k2⟩
theorem rSm.mono {x:jD} {T:List ByteArray} {ψ:Nat→Prop} {t:ku} (h:rSm x T φ w b t) (k:∀cs,Blk w b kY cs→Blk w' b kY cs) (k2:∀b cs,φ b→Blk w b qd cs→Blk w' b qd cs∧ψ b) (k3:∀b cs,φ b→Blk w b vR cs→Blk w' b vR cs∧ψ b) (k4:∀b cs,φ b→Blk w b vq cs→Blk w' b vq cs∧ψ b):rSm x T ψ w' b t:=by
 obtain ⟨pv,cv,pi,ci,pl,cl,lbs,es,h1,h2,h3,h4,h5⟩:=h
 exact ⟨pv,cv,pi,ci,pl,cl,lbs,es,k _ h1,h2.mono k2,h3.mono k3,h4.mono k4,h5⟩
theorem rVT.lt {T:List ByteArray} {t:xn} (h:rVT T w b t):b<w.heap.size:=by obtain ⟨n,m,h1, -⟩:=h;exact h1.lt
theorem rMp.lt {T:List ByteArray} {t:qK} (h:rMp T w b t):b<w.heap.size:=by obtain ⟨n,m,h1, -⟩:=h;exact h1.lt
theorem rFn.lt {T:List ByteArray} {t:yl} (h:rFn T w b t):b<w.heap.size:=by obtain ⟨n,m,i,h1, -⟩:=h;exact h1.lt
theorem rLc.lt {x:jD} {t:vP} (h:rLc x φ w b t):b<w.heap.size:=by obtain ⟨n,m,h1, -⟩:=h;exact h1.lt
theorem rSm.lt {x:jD} {T:List ByteArray} {t:ku} (h:rSm x T φ w b t):b<w.heap.size:=by obtain ⟨_,_,_,_,_,_,_,_,h1, -⟩:=h;exact h1.lt
theorem qE.snoc {α:Type} {xs:List α} {φ:Nat→α→Prop} {x:α} (h:qE bs xs φ) (hb:φ b x):qE (bs++[b]) (xs++[x]) φ:=by
 refine ⟨by simp[h.1],fun i b' x' hi hx=>?_⟩
 by_cases hl:i<bs.length
 ·rw[aq hl]at hi
  rw[aq (by rw[← h.1];exact hl)]at hx
  exact h.2 i b' x' hi hx
 ·have hlt:=(List.getElem?_eq_some_iff.1 hi).1
  simp at hlt
  have e1:i=bs.length:=by omega
  subst e1
  rw[List.getElem?_append_right ox]at hi
  rw[List.getElem?_append_right (by rw[h.1];omega)]at hx
  simp at hi
  simp[h.1]at hx
  subst hi;subst hx;exact hb
structure Grp {α:Type} (pT B:Nat) (w:World) (p:Option Addr) (l c:Nat) (bs:List Nat) (xs:List α) (φ:Nat→α→Prop):Prop where
 row:Rw (fun b=>B≤b) pT 1 w p l c (bs.map ptr)
 each:qE bs xs φ
 nd:bs.Nodup
 fresh:∀b∈bs,B≤b∧b<w.heap.size
theorem Grp.nil {α:Type} {pT:Nat} {φ:Nat→α→Prop}:Grp pT B w none 0 0 [] ([]:List α) φ:=⟨Rw.nil,qE.nil,List.nodup_nil,by simp⟩
theorem Grp.keep {α:Type} {pT:Nat} {p:Option Addr} {xs:List α} {φ ψ:Nat→α→Prop} (h:Grp pT B w p l c bs xs φ) (hs:w.heap.size≤w'.heap.size) (k:∀b cs,Blk w b pT cs→Blk w' b pT cs) (kp:∀b x,φ b x→ψ b x):Grp pT B w' p l c bs xs ψ:=
 ⟨h.row.keep k,h.each.mono kp,h.nd,fun b hb=>⟨(h.fresh b hb).1,Nat.lt_of_lt_of_le (h.fresh b hb).2 hs⟩⟩
theorem Grp.push {α:Type} {pT:Nat} {p p':Option Addr} {c' xb:Nat} {xs:List α} {x:α} {φ ψ:Nat→α→Prop} {y':Ent} (h:Grp pT B w p l c bs xs φ) (hB:B≤w.heap.size) (hs:w.heap.size≤w'.heap.size) (kp:∀b x,φ b x→ψ b x) (hxb:w.heap.size≤xb) (hlt:xb<w'.heap.size) (hx:ψ xb x)
  (hO:Own pT 1 y' p' (l+1) c' (bs.map ptr++[ptr xb])) (hy':y'.on=true→Blk w' y'.b pT y'.cs) (hy:y.on=true→Blk w y.b pT y.cs∧B≤y.b) (hr:y'.on=true→(y.on=true∧y'.b=y.b)∨w.heap.size≤y'.b):Grp pT B w' p' (l+1) c' (bs++[xb]) (xs++[x]) ψ:=by
 refine ⟨⟨y',by simpa using hO,fun ho=>⟨hy' ho,?_⟩⟩,(h.each.mono kp).snoc hx,?_,fun b hb=>?_⟩
 ·rcases hr ho with ⟨e1,e2⟩|e
  ·rw[e2];exact (hy e1).2
  ·exact Nat.le_trans hB e
 ·rw[List.nodup_append]
  refine ⟨h.nd,by simp,fun a ha b hb=>?_⟩
  simp at hb
  have:=(h.fresh a ha).2
  omega
 ·rcases mA hb with hb|hb
  ·exact ⟨(h.fresh b hb).1,Nat.lt_of_lt_of_le (h.fresh b hb).2 hs⟩
  ·simp at hb;subst hb;exact ⟨Nat.le_trans hB hxb,hlt⟩
def LP (B:Nat) (los:List Nat) (b rb:Nat):Prop:=B≤rb∧b≤rb∧∀b'∈los,b<b'→rb<b'
structure PfV where
 (tys sas mas los fus:List Nat) (pt ps pm pl pf pst pc:Option Addr) (ct cs cm cl cf cst cc:Nat) (yc:Ent) (vp:Value)
def qU (nC:List (List Nat)) (v:PfV) (pre:List Fld):List Value:=[.slice v.pt (cnt 1 pre) v.ct,.string eB,.slice v.ps (cnt 2 pre) v.cs,.slice v.pm (cnt 3 pre) v.cm,.slice v.pl (cnt 4 pre) v.cl,.slice v.pf (cnt 5 pre) v.cf,.slice none 0 0,.string eB,.string eB,vI (kE 9 pre),vI (kE 10 pre),v.vp,vI (kE 12 pre),.slice v.pc (gv nC pre).length v.cc,vI (kE 7 pre),vI (kE 8 pre),.slice v.pst (cnt 6 pre) v.cst,vI (kE 14 pre)]
structure PfC (x:jD) (T:List ByteArray) (nC:List (List Nat)) (B:Nat) (w:World) (v:PfV) (pre:List Fld):Prop where
 c1:Grp pVT B w v.pt (cnt 1 pre) v.ct v.tys (x.types.take (cnt 1 pre)) (rVT T w)
 c2:Grp xS B w v.ps (cnt 2 pre) v.cs v.sas (x.samples.take (cnt 2 pre)) (rSm x T (fun b=>B≤b∧b∉qG v.yc) w)
 c3:Grp xZ B w v.pm (cnt 3 pre) v.cm v.mas (x.mappings.take (cnt 3 pre)) (rMp T w)
 c4:Grp vD B w v.pl (cnt 4 pre) v.cl v.los (x.locs.take (cnt 4 pre)) (fun b l=>rLc x (LP B v.los b) w b l)
 c5:Grp yq B w v.pf (cnt 5 pre) v.cf v.fus (x.funcs.take (cnt 5 pre)) (rFn T w)
 c6:Rw (fun b=>B≤b) qc 1 w v.pst (cnt 6 pre) v.cst ((T.take (cnt 6 pre)).map .string)
 c11:(cnt 11 pre=0∧v.vp=.pointer none)∨∃b,0<cnt 11 pre∧v.vp=ptr b∧rVT T w b x.per∧B≤b∧b∉v.tys
 c13:Own qd 1 v.yc v.pc (gv nC pre).length v.cc ((gv nC pre).map vI)
 c13y:v.yc.on=true→Blk w v.yc.b qd v.yc.cs∧B≤v.yc.b
 c13c:v.cc<9223372036854775808
structure PfSt (x:jD) (T:List ByteArray) (nC:List (List Nat)) (bb pb:Nat) (w1:World) (pre:List Fld) (w:World):Prop where
 kx:jv [bb,pb] w1 w
 buf:vi w bb
 st:∃v,Blk w pb ju (qU nC v pre)∧PfC x T nC w1.heap.size w v pre
theorem PfC.keep {x:jD} {T:List ByteArray} {nC:List (List Nat)} {v:PfV} {pre:List Fld} (h:PfC x T nC B w v pre) (hs:w.heap.size≤w'.heap.size) (kb:∀(T:Nat),T≠qx→T≠ju→∀b cs,Blk w b T cs→Blk w' b T cs):PfC x T nC B w' v pre:=
 { c1:=h.c1.keep hs (kb _ dq dq) fun b t hh=>hh.mono (kb _ dq dq _)
   c2:=h.c2.keep hs (kb _ dq dq) fun b t hh=>hh.mono (kb _ dq dq _) (fun b cs hb hk=>⟨kb _ dq dq _ _ hk,hb⟩) (fun b cs hb hk=>⟨kb _ dq dq _ _ hk,hb⟩) (fun b cs hb hk=>⟨kb _ dq dq _ _ hk,hb⟩)
   c3:=h.c3.keep hs (kb _ dq dq) fun b t hh=>hh.mono (kb _ dq dq _)
   c4:=h.c4.keep hs (kb _ dq dq) fun b t hh=>hh.mono (kb _ dq dq _) (fun b cs hb hk=>⟨kb _ dq dq _ _ hk,hb⟩)
   c5:=h.c5.keep hs (kb _ dq dq) fun b t hh=>hh.mono (kb _ dq dq _)
   c6:=h.c6.keep (kb _ dq dq)
   c11:=h.c11.imp id fun ⟨b,h0,h1,h2,h3⟩=>⟨b,h0,h1,h2.mono (kb _ dq dq _),h3⟩
   c13:=h.c13
   c13y:=fun ho=>⟨kb _ dq dq _ _ (h.c13y ho).1,(h.c13y ho).2⟩
   c13c:=h.c13c }
theorem qkM {T:List ByteArray} (h:(fs.filter fun f=>kn f=6).map qn=T.map sB) {pre:List Fld} {f:Fld} (hp:pre++[f]<+:fs) (hk:kn f=6):∃s,T[cnt 6 pre]? =some s∧sB s=qn f:=by
 obtain ⟨r,rfl⟩:=hp
 have h1:(((pre++[f]++r).filter fun f=>kn f=6).map qn)[cnt 6 pre]? =some (qn f):=by
  rw[List.filter_append,List.filter_append,List.append_assoc,List.map_append,List.getElem?_append_right (by simp[cnt]),show cnt 6 pre - ((pre.filter fun f=>decide (kn f=6)).map qn).length=0 by simp[cnt]]
  simp[hk]
 rw[h,List.getElem?_map]at h1
 exact Option.map_eq_some_iff.1 h1
theorem qiO:ZT qaR qcl:=⟨fun k h=>by
 rcases (by omega:k=0∨k=1∨k=2∨k=3∨k=4∨k=5∨k=6∨k=7∨k=8∨k=9∨k=10∨k=11∨k=12∨k=13∨k=14∨15≤k) with rfl|rfl|rfl|rfl|rfl|rfl|rfl|rfl|rfl|rfl|rfl|rfl|rfl|rfl|rfl|hk
 ·exact absurd rfl h
 ·exact ⟨_,rfl,call197⟩
 ·exact ⟨_,rfl,call198⟩
 ·exact ⟨_,rfl,call199⟩
 ·exact ⟨_,rfl,call200⟩
 ·exact ⟨_,rfl,call201⟩
 ·exact ⟨_,rfl,call202⟩
 ·exact ⟨_,rfl,call204⟩
 ·exact ⟨_,rfl,call206⟩
 ·exact ⟨_,rfl,call207⟩
 ·exact ⟨_,rfl,call208⟩
 ·exact ⟨_,rfl,call209⟩
 ·exact ⟨_,rfl,call210⟩
 ·exact ⟨_,rfl,call211⟩
 ·exact ⟨_,rfl,call213⟩
 ·exact absurd (by unfold qaR;rw[if_neg ox,if_neg ox,if_neg ox]) h,fun k h=>by
 rcases (by omega:k=0∨k=1∨k=2∨k=3∨k=4∨k=5∨k=6∨k=7∨k=8∨k=9∨k=10∨k=11∨k=12∨k=13∨k=14∨15≤k) with rfl|rfl|rfl|rfl|rfl|rfl|rfl|rfl|rfl|rfl|rfl|rfl|rfl|rfl|rfl|hk
 ·exact .inr rfl
 ·cases h
 ·cases h
 ·cases h
 ·cases h
 ·cases h
 ·cases h
 ·cases h
 ·cases h
 ·cases h
 ·cases h
 ·cases h
 ·cases h
 ·cases h
 ·cases h
 ·exact .inl (List.getElem?_eq_none (by simpa using hk)),by decide⟩
theorem qkr {y':Ent} (hr:y'.on=true→(y.on=true∧y'.b=y.b)∨n≤y'.b) (hb:b∉qG y) (hlt:b<n):b∉qG y':=fun hm=>by
 unfold qG at hm
 split at hm
 ·next ho=>
  simp at hm
  rcases hr ho with ⟨e1,e2⟩|e
  ·exact hb (by simp[qG,e1,hm,e2])
  ·omega
 ·cases hm
structure qjX (x:jD) (T:List ByteArray) (bb pb:Nat) (w w':World):Prop where
 kx:jv [bb,pb] w w'
 st:∃(v:PfV) (cx:List Int) (dx kx sx:Int),Blk w' pb ju [.slice v.pt x.types.length v.ct,.string eB,.slice v.ps x.samples.length v.cs,.slice v.pm x.mappings.length v.cm,.slice v.pl x.locs.length v.cl,.slice v.pf x.funcs.length v.cf,.slice none 0 0,.string eB,.string eB,.int .i64 x.time,.int .i64 x.dur,v.vp,.int .i64 x.period,.slice v.pc cx.length v.cc,.int .i64 dx,.int .i64 kx,.slice v.pst T.length v.cst,.int .i64 sx]∧
  (Grp pVT w.heap.size w' v.pt x.types.length v.ct v.tys x.types (rVT T w'))∧(Grp xS w.heap.size w' v.ps x.samples.length v.cs v.sas x.samples (rSm x T (fun b=>w.heap.size≤b) w'))∧(Grp xZ w.heap.size w' v.pm x.mappings.length v.cm v.mas x.mappings (rMp T w'))∧(Grp vD w.heap.size w' v.pl x.locs.length v.cl v.los x.locs (fun b l=>rLc x (LP w.heap.size v.los b) w' b l))∧(Grp yq w.heap.size w' v.pf x.funcs.length v.cf v.fus x.funcs (rFn T w'))∧
  Rw (fun b=>w.heap.size≤b) qc 1 w' v.pst T.length v.cst (T.map .string)∧Rw (fun b=>w.heap.size≤b) qd 1 w' v.pc cx.length v.cc (cx.map (.int .i64))∧(Al2 x.comments cx fun s n=>At T n s)∧At T dx x.drop∧At T kx x.keep∧At T sx x.deflt∧
  ((v.vp=.pointer none∧x.per=⟨eB,eB⟩)∨∃b,v.vp=ptr b∧rVT T w' b x.per∧w.heap.size≤b∧b∉v.tys)
abbrev zpf:List Value:=[.slice none 0 0,.string ⟨#[]⟩,.slice none 0 0,.slice none 0 0,.slice none 0 0,.slice none 0 0,.slice none 0 0,.string ⟨#[]⟩,.string ⟨#[]⟩,.int .i64 0,.int .i64 0,.pointer none,.int .i64 0,.slice none 0 0,.int .i64 0,.int .i64 0,.slice none 0 0,.int .i64 0]
set_option maxHeartbeats 4000000 in
theorem dPf_c (x:jD) (T:List ByteArray) (hx:vW x) (w:World) (bb pb k:Nat) (m:Msg) (hI:UIn x T m) (hp0:Blk w pb ju zpf) (hf:ya w bb (.bys k (mB m))):
  Calls Tryz.prog 105 #[ptr bb,.iface ipf (ptr pb)] w (Ret fun v w'=>v=.nilIface∧qjX x T bb pb w w'):=by
 have hl:=hI.tl
 obtain ⟨g1,l1,s1⟩:=hI.ty
 obtain ⟨g2,l2,s2⟩:=hI.sm
 obtain ⟨g3,l3,s3⟩:=hI.mp
 obtain ⟨g4,l4,s4⟩:=hI.lc
 obtain ⟨g5,l5,s5⟩:=hI.fn
 obtain ⟨g11,l11,e11,s11⟩:=hI.pe
 obtain ⟨nC,hC,hCe⟩:=hI.cm
 have n1:=hx.ntyp
 have n2:=hx.nsam
 have n3:=hx.tab.m.2.2
 have n5:=hx.tab.f.2.2
 have n4:=hx.tab.l.2.2
 simp only[List.length_map]at n3 n4 n5
 have h6:cnt 6 (kV m)=T.length:=by have:=congrArg List.length hI.tab;simpa[cnt]using this
 have hCl:nC.flatten.length=x.comments.length:=hCe.1
 have hnc:=hx.ncom
 refine Calls.mono (qby w bb pb ipf ju (ptr pb) qcl qaR m k zpf hI.ok (fun k=>by unfold qaR;split<;>(try split)<;>(try split)<;>omega) qiO hf hp0 dq dq (fun w' _=>qgP w' _) (PfSt x T nC bb pb) fun w1 hf1=>?_) (Ret.mono fun v w' h=>?_)
 ·refine ⟨⟨.refl,(hf.keep hf1).at_,⟨[],[],[],[],[],none,none,none,none,none,none,none,0,0,0,0,0,0,0,qQ qd,.pointer none⟩,hf1.blk hp0 (.inr zp),⟨Grp.nil,Grp.nil,Grp.nil,Grp.nil,Grp.nil,Rw.nil,.inl ⟨rfl,rfl⟩,Own.nil,fun h=>by simp[qQ]at h,by show 0<_;omega⟩⟩,fun pre w2 h=>h.kx,fun pre w2 h=>h.buf,fun pre w2 w3 h hk hb=>?_,fun pre f w2 hp h ht=>?_,fun pre f w2 gf hp h hbf hw hgf=>?_⟩
  ·obtain ⟨v,h1,h2⟩:=h.st
   have kb:∀(T:Nat),T≠qx→∀b cs,Blk w2 b T cs→Blk w3 b T cs:=fun T hT b cs hq=>hk.blk hq (by simpa using h.buf.ne hq hT)
   exact ⟨h.kx.trans' (hk.mono zp),hb,v,kb _ dq _ _ h1,h2.keep hk.size fun T hT _=>kb T hT⟩
  ·obtain ⟨v,h1,h2⟩:=h.st
   have nz:∀j,qaR j≠0→kn f≠j:=fun j hj e=>hj (by rw[← e];exact ht)
   have e1:cnt 1 (pre++[f])=cnt 1 pre:=jR (nz 1 dq)
   have e2:cnt 2 (pre++[f])=cnt 2 pre:=jR (nz 2 dq)
   have e3:cnt 3 (pre++[f])=cnt 3 pre:=jR (nz 3 dq)
   have e4:cnt 4 (pre++[f])=cnt 4 pre:=jR (nz 4 dq)
   have e5:cnt 5 (pre++[f])=cnt 5 pre:=jR (nz 5 dq)
   have e6:cnt 6 (pre++[f])=cnt 6 pre:=jR (nz 6 dq)
   have e11:cnt 11 (pre++[f])=cnt 11 pre:=jR (nz 11 dq)
   have e7:jP 7 0 (pre++[f])=jP 7 0 pre:=jY (nz 7 dq)
   have e8:jP 8 0 (pre++[f])=jP 8 0 pre:=jY (nz 8 dq)
   have e9:jP 9 0 (pre++[f])=jP 9 0 pre:=jY (nz 9 dq)
   have e10:jP 10 0 (pre++[f])=jP 10 0 pre:=jY (nz 10 dq)
   have e12:jP 12 0 (pre++[f])=jP 12 0 pre:=jY (nz 12 dq)
   have e14:jP 14 0 (pre++[f])=jP 14 0 pre:=jY (nz 14 dq)
   obtain ⟨a,eC,eC'⟩:=hC.step hp
   rw[if_neg (nz 13 dq)]at eC'
   subst eC'
   rw[List.append_nil]at eC
   refine ⟨h.kx,h.buf,v,?_,?_⟩
   ·simp only[qU,kE,e1,e2,e3,e4,e5,e6,e11,e7,e8,e9,e10,e12,e14,eC];exact h1
   ·exact ⟨by rw[e1];exact h2.c1,by rw[e2];exact h2.c2,by rw[e3];exact h2.c3,by rw[e4];exact h2.c4,by rw[e5];exact h2.c5,by rw[e6];exact h2.c6,by rw[e11];exact h2.c11,by rw[eC];exact h2.c13,h2.c13y,h2.c13c⟩
  ·obtain ⟨v,h1,h2⟩:=h.st
   have hBs:w1.heap.size≤w2.heap.size:=h.kx.size
   obtain ⟨ac,eC,eC'⟩:=hC.step hp
   have hgC:=qdB (nss:=nC) (pre:=pre++[f])
   have nz:∀j,kn f≠j→True:=fun _ _=>trivial
   -- a number
   have sc:∀(j off:Nat) (gs:FuncId),kn f=j→xh ju ipf gs off vI→off<18→qaR j=1→j≠13→(∀i∈[1,2,3,4,5,6,11],j≠i)→(∀n:Nat,f=.num j n→qU nC v (pre++[f])=kH (qU nC v pre) off [vI n])→
     Calls Tryz.prog gs #[ptr bb,.iface ipf (ptr pb)] w2 (Ret fun v w'=>v=.nilIface∧PfSt x T nC bb pb w1 (pre++[f]) w'):=fun j off gs hj hs ho htj h13 hi he=>by
    subst hj
    cases f with
    |bys k' D=>simp only at hw;rw[show qaR k'=1 from htj]at hw;omega
    |num k' n=>
     obtain ⟨hn,tmp,hb⟩:=hbf
     rw[if_neg h13]at eC'
     subst eC'
     rw[List.append_nil]at eC
     refine Calls.mono (hs w2 bb pb 0 k' n _ tmp hn hb h1 (by simpa[qU]using ho)) (Ret.mono fun v' w3 hR=>?_)
     obtain ⟨rfl,h5,h6⟩:=hR
     have kb:∀(T:Nat),T≠ju→∀b cs,Blk w2 b T cs→Blk w3 b T cs:=fun T hT b cs hq=>h6.blk hq (by simpa using hq.ne h1 hT)
     refine ⟨rfl,h.kx.trans' (h6.mono zp),h.buf.keep (kb _ dq _),v,?_,?_⟩
     ·rw[he n rfl];simpa using h5
     ·have h7:=h2.keep h6.size fun T _ hT=>kb T hT
      have q:∀i∈[1,2,3,4,5,6,11],cnt i (pre++[.num k' n])=cnt i pre:=fun i hm=>jR (hi i hm)
      exact ⟨by rw[q 1 zp];exact h7.c1,by rw[q 2 zp];exact h7.c2,by rw[q 3 zp];exact h7.c3,by rw[q 4 zp];exact h7.c4,by rw[q 5 zp];exact h7.c5,by rw[q 6 zp];exact h7.c6,by rw[q 11 zp];exact h7.c11,by rw[eC];exact h7.c13,h7.c13y,h7.c13c⟩
   rcases (by omega:kn f=0∨kn f=1∨kn f=2∨kn f=3∨kn f=4∨kn f=5∨kn f=6∨kn f=7∨kn f=8∨kn f=9∨kn f=10∨kn f=11∨kn f=12∨kn f=13∨kn f=14∨15≤kn f) with hk|hk|hk|hk|hk|hk|hk|hk|hk|hk|hk|hk|hk|hk|hk|hk
   ·rw[hk]at hgf;cases hgf
   ·rw[hk]at hgf;cases hgf
    have hx0:=hx
    obtain ⟨q,hq,hqn⟩:=s1.at_ hp hk
    have hlt:=Vb hp hk
    rw[s1.cnt,l1]at hlt
    have hn0:x.types[cnt 1 pre]? =some x.types[cnt 1 pre]:=gE hlt
    have hq1:=hqn _ hn0
    rw[if_neg (by rw[hk];decide)]at eC'
    subst eC'
    rw[List.append_nil]at eC
    cases f with
    |num k' n=>simp only[kn]at hk;subst hk;simp only at hw;exact absurd hw dq
    |bys k' D=>
     simp only[kn,qn]at hk hq
     subst hk;subst hq
     have hG0:=h2.c1
     obtain ⟨y,hO,hy⟩:=hG0.row
     refine Calls.mono (ty_m w2 bb pb 1 _ v.ct (mB q) (qU nC v pre) y v.pt _ (fun w b=>rVT T w b x.types[cnt 1 pre]) (fun u1 u2 b hh hk=>hh.mono fun cs hq=>hk.blk hq (.inr zp)) hbf h1 rfl hO (fun ho=>(hy ho).1) ox (fun w3 xb hx hb _=>qkx T hl w3 bb xb 1 q _ hq1 hx hb)) (Ret.mono fun v' w3 hR=>?_)
     obtain ⟨rfl,⟨xb,y',p',c',hO',hy',hr',hb',hxb,hφ'⟩,hkk,hbb⟩:=hR
     have kb:∀(T:Nat),T≠qx→T≠ju→T≠pVT→∀b cs,Blk w2 b T cs→Blk w3 b T cs:=fun T hB hT hU b cs hq=>hkk.blk hq fun hm=>by
       rcases mA hm with hm|hm
       ·simp only[List.mem_cons,List.mem_nil_iff,or_false]at hm
        rcases hm with hm|hm
        ·exact h.buf.ne hq hB hm
        ·exact hq.ne h1 hT hm
       ·exact yp (fun ho=>(hy ho).1) hq hU hm
     have e2:cnt 2 (pre++[.bys 1 (mB q)])=cnt 2 pre:=jR (show (1:Nat)≠2 by decide)
     have e3:cnt 3 (pre++[.bys 1 (mB q)])=cnt 3 pre:=jR (show (1:Nat)≠3 by decide)
     have e4:cnt 4 (pre++[.bys 1 (mB q)])=cnt 4 pre:=jR (show (1:Nat)≠4 by decide)
     have e5:cnt 5 (pre++[.bys 1 (mB q)])=cnt 5 pre:=jR (show (1:Nat)≠5 by decide)
     have e6:cnt 6 (pre++[.bys 1 (mB q)])=cnt 6 pre:=jR (show (1:Nat)≠6 by decide)
     have e11:cnt 11 (pre++[.bys 1 (mB q)])=cnt 11 pre:=jR (show (1:Nat)≠11 by decide)
     have e7:jP 7 0 (pre++[.bys 1 (mB q)])=jP 7 0 pre:=jY (show (1:Nat)≠7 by decide)
     have e8:jP 8 0 (pre++[.bys 1 (mB q)])=jP 8 0 pre:=jY (show (1:Nat)≠8 by decide)
     have e9:jP 9 0 (pre++[.bys 1 (mB q)])=jP 9 0 pre:=jY (show (1:Nat)≠9 by decide)
     have e10:jP 10 0 (pre++[.bys 1 (mB q)])=jP 10 0 pre:=jY (show (1:Nat)≠10 by decide)
     have e12:jP 12 0 (pre++[.bys 1 (mB q)])=jP 12 0 pre:=jY (show (1:Nat)≠12 by decide)
     have e14:jP 14 0 (pre++[.bys 1 (mB q)])=jP 14 0 pre:=jY (show (1:Nat)≠14 by decide)
     have eK:cnt 1 (pre++[.bys 1 (mB q)])=cnt 1 pre+1:=zP rfl
     refine ⟨rfl,h.kx.more hkk fun q hq=>?_,hbb,{ v with tys:=v.tys++[xb],pt:=p',ct:=c' },?_,?_⟩
     ·rcases mA hq with hq|hq
      ·exact .inl hq
      ·exact .inr (Ji hy q hq)
     ·simp only[qU,kE,eC,eK,e2,e3,e4,e5,e6,e11,e7,e8,e9,e10,e12,e14];exact hb'
     ·exact { c1:=by rw[eK,xp hn0];exact hG0.push hBs hkk.size (fun b t hh=>hh.mono ((kb _ dq dq dq) _)) hxb hφ'.lt hφ' hO' hy' hy hr',c2:=by rw[e2];exact h2.c2.keep hkk.size (kb _ dq dq dq) (fun b t hh=>hh.mono ((kb _ dq dq dq) _) (fun b cs hb hk=>⟨(kb _ dq dq dq) _ _ hk,hb⟩) (fun b cs hb hk=>⟨(kb _ dq dq dq) _ _ hk,hb⟩) (fun b cs hb hk=>⟨(kb _ dq dq dq) _ _ hk,hb⟩)),c3:=by rw[e3];exact h2.c3.keep hkk.size (kb _ dq dq dq) (fun b t hh=>hh.mono ((kb _ dq dq dq) _)),c4:=by rw[e4];exact h2.c4.keep hkk.size (kb _ dq dq dq) (fun b t hh=>hh.mono ((kb _ dq dq dq) _) (fun b cs hb hk=>⟨(kb _ dq dq dq) _ _ hk,hb⟩)),c5:=by rw[e5];exact h2.c5.keep hkk.size (kb _ dq dq dq) (fun b t hh=>hh.mono ((kb _ dq dq dq) _)),c6:=by rw[e6];exact h2.c6.keep (kb _ dq dq dq),c11:=by rw[e11];exact h2.c11.imp id fun ⟨b,h0,h1,h2,h3,h4⟩=>⟨b,h0,h1,h2.mono (kb _ dq dq dq _),h3,fun hm=>by rcases mA hm with hm|hm;exact h4 hm;simp at hm;have:=h2.lt;omega⟩,c13:=by rw[eC];exact h2.c13,c13y:=fun ho=>⟨kb _ dq dq dq _ _ (h2.c13y ho).1,(h2.c13y ho).2⟩,c13c:=h2.c13c }
   ·rw[hk]at hgf;cases hgf
    have hx0:=hx
    obtain ⟨q,hq,hqn⟩:=s2.at_ hp hk
    have hlt:=Vb hp hk
    rw[s2.cnt,l2]at hlt
    have hn0:x.samples[cnt 2 pre]? =some x.samples[cnt 2 pre]:=gE hlt
    have hq1:=hqn _ hn0
    rw[if_neg (by rw[hk];decide)]at eC'
    subst eC'
    rw[List.append_nil]at eC
    cases f with
    |num k' n=>simp only[kn]at hk;subst hk;simp only at hw;exact absurd hw dq
    |bys k' D=>
     simp only[kn,qn]at hk hq
     subst hk;subst hq
     have hG0:=h2.c2
     obtain ⟨y,hO,hy⟩:=hG0.row
     refine Calls.mono (sa_m w2 bb pb 2 _ v.cs (mB q) (qU nC v pre) y v.ps _ (fun w b=>rSm x T (fun b=>w2.heap.size≤b) w b x.samples[cnt 2 pre]) (fun u1 u2 b hh hk=>hh.mono (fun cs hq=>hk.blk hq (.inr zp)) (fun b cs hb hq=>⟨hk.blk hq (.inr zp),hb⟩) (fun b cs hb hq=>⟨hk.blk hq (.inr zp),hb⟩) (fun b cs hb hq=>⟨hk.blk hq (.inr zp),hb⟩)) hbf h1 rfl hO (fun ho=>(hy ho).1) ox (fun w3 xb hx hb hge=>Calls.mono (dSm_c x T hl w3 bb xb 2 q _ hq1 (by have:=(hx0.samples _ (mG hn0)).2.2.1;omega) (by have:=(hx0.samples _ (mG hn0)).1;omega) hx hb) (Ret.mono fun v w' hR=>⟨hR.1,hR.2.1.mono (fun _ h=>h) (fun b cs hb hk=>⟨hk,by have:=hx.lt;show w2.heap.size≤b;omega⟩) (fun b cs hb hk=>⟨hk,by have:=hx.lt;show w2.heap.size≤b;omega⟩) (fun b cs hb hk=>⟨hk,by have:=hx.lt;show w2.heap.size≤b;omega⟩),hR.2.2⟩))) (Ret.mono fun v' w3 hR=>?_)
     obtain ⟨rfl,⟨xb,y',p',c',hO',hy',hr',hb',hxb,hφ'⟩,hkk,hbb⟩:=hR
     have kb:∀(T:Nat),T≠qx→T≠ju→T≠xS→∀b cs,Blk w2 b T cs→Blk w3 b T cs:=fun T hB hT hU b cs hq=>hkk.blk hq fun hm=>by
       rcases mA hm with hm|hm
       ·simp only[List.mem_cons,List.mem_nil_iff,or_false]at hm
        rcases hm with hm|hm
        ·exact h.buf.ne hq hB hm
        ·exact hq.ne h1 hT hm
       ·exact yp (fun ho=>(hy ho).1) hq hU hm
     have e1:cnt 1 (pre++[.bys 2 (mB q)])=cnt 1 pre:=jR (show (2:Nat)≠1 by decide)
     have e3:cnt 3 (pre++[.bys 2 (mB q)])=cnt 3 pre:=jR (show (2:Nat)≠3 by decide)
     have e4:cnt 4 (pre++[.bys 2 (mB q)])=cnt 4 pre:=jR (show (2:Nat)≠4 by decide)
     have e5:cnt 5 (pre++[.bys 2 (mB q)])=cnt 5 pre:=jR (show (2:Nat)≠5 by decide)
     have e6:cnt 6 (pre++[.bys 2 (mB q)])=cnt 6 pre:=jR (show (2:Nat)≠6 by decide)
     have e11:cnt 11 (pre++[.bys 2 (mB q)])=cnt 11 pre:=jR (show (2:Nat)≠11 by decide)
     have e7:jP 7 0 (pre++[.bys 2 (mB q)])=jP 7 0 pre:=jY (show (2:Nat)≠7 by decide)
     have e8:jP 8 0 (pre++[.bys 2 (mB q)])=jP 8 0 pre:=jY (show (2:Nat)≠8 by decide)
     have e9:jP 9 0 (pre++[.bys 2 (mB q)])=jP 9 0 pre:=jY (show (2:Nat)≠9 by decide)
     have e10:jP 10 0 (pre++[.bys 2 (mB q)])=jP 10 0 pre:=jY (show (2:Nat)≠10 by decide)
     have e12:jP 12 0 (pre++[.bys 2 (mB q)])=jP 12 0 pre:=jY (show (2:Nat)≠12 by decide)
     have e14:jP 14 0 (pre++[.bys 2 (mB q)])=jP 14 0 pre:=jY (show (2:Nat)≠14 by decide)
     have eK:cnt 2 (pre++[.bys 2 (mB q)])=cnt 2 pre+1:=zP rfl
     have yfar:∀b,w2.heap.size≤b→b∉qG v.yc:=fun b hb hm=>by
       unfold qG at hm
       split at hm
       ·next ho=>simp at hm;have:=(h2.c13y ho).1.lt;omega
       ·cases hm
     refine ⟨rfl,h.kx.more hkk fun q hq=>?_,hbb,{ v with sas:=v.sas++[xb],ps:=p',cs:=c' },?_,?_⟩
     ·rcases mA hq with hq|hq
      ·exact .inl hq
      ·exact .inr (Ji hy q hq)
     ·simp only[qU,kE,eC,eK,e1,e3,e4,e5,e6,e11,e7,e8,e9,e10,e12,e14];exact hb'
     ·exact { c1:=by rw[e1];exact h2.c1.keep hkk.size (kb _ dq dq dq) (fun b t hh=>hh.mono ((kb _ dq dq dq) _)),c2:=by rw[eK,xp hn0];exact hG0.push hBs hkk.size (fun b t hh=>hh.mono ((kb _ dq dq dq) _) (fun b cs hb hk=>⟨(kb _ dq dq dq) _ _ hk,hb⟩) (fun b cs hb hk=>⟨(kb _ dq dq dq) _ _ hk,hb⟩) (fun b cs hb hk=>⟨(kb _ dq dq dq) _ _ hk,hb⟩)) hxb hφ'.lt (hφ'.mono (fun _ h=>h) (fun b cs hb hk=>⟨hk,Nat.le_trans hBs hb,yfar b hb⟩) (fun b cs hb hk=>⟨hk,Nat.le_trans hBs hb,yfar b hb⟩) (fun b cs hb hk=>⟨hk,Nat.le_trans hBs hb,yfar b hb⟩)) hO' hy' hy hr',c3:=by rw[e3];exact h2.c3.keep hkk.size (kb _ dq dq dq) (fun b t hh=>hh.mono ((kb _ dq dq dq) _)),c4:=by rw[e4];exact h2.c4.keep hkk.size (kb _ dq dq dq) (fun b t hh=>hh.mono ((kb _ dq dq dq) _) (fun b cs hb hk=>⟨(kb _ dq dq dq) _ _ hk,hb⟩)),c5:=by rw[e5];exact h2.c5.keep hkk.size (kb _ dq dq dq) (fun b t hh=>hh.mono ((kb _ dq dq dq) _)),c6:=by rw[e6];exact h2.c6.keep (kb _ dq dq dq),c11:=by rw[e11];exact h2.c11.imp id fun ⟨b,h0,h1,h2,h3,h4⟩=>⟨b,h0,h1,h2.mono (kb _ dq dq dq _),h3,h4⟩,c13:=by rw[eC];exact h2.c13,c13y:=fun ho=>⟨kb _ dq dq dq _ _ (h2.c13y ho).1,(h2.c13y ho).2⟩,c13c:=h2.c13c }
   ·rw[hk]at hgf;cases hgf
    have hx0:=hx
    obtain ⟨q,hq,hqn⟩:=s3.at_ hp hk
    have hlt:=Vb hp hk
    rw[s3.cnt,l3]at hlt
    have hn0:x.mappings[cnt 3 pre]? =some x.mappings[cnt 3 pre]:=gE hlt
    have hq1:=hqn _ hn0
    rw[if_neg (by rw[hk];decide)]at eC'
    subst eC'
    rw[List.append_nil]at eC
    cases f with
    |num k' n=>simp only[kn]at hk;subst hk;simp only at hw;exact absurd hw dq
    |bys k' D=>
     simp only[kn,qn]at hk hq
     subst hk;subst hq
     have hG0:=h2.c3
     obtain ⟨y,hO,hy⟩:=hG0.row
     refine Calls.mono (ma_m w2 bb pb 3 _ v.cm (mB q) (qU nC v pre) y v.pm _ (fun w b=>rMp T w b x.mappings[cnt 3 pre]) (fun u1 u2 b hh hk=>hh.mono fun cs hq=>hk.blk hq (.inr zp)) hbf h1 rfl hO (fun ho=>(hy ho).1) ox (fun w3 xb hx hb _=>dMp_c T hl w3 bb xb 3 q _ hq1 hx hb)) (Ret.mono fun v' w3 hR=>?_)
     obtain ⟨rfl,⟨xb,y',p',c',hO',hy',hr',hb',hxb,hφ'⟩,hkk,hbb⟩:=hR
     have kb:∀(T:Nat),T≠qx→T≠ju→T≠xZ→∀b cs,Blk w2 b T cs→Blk w3 b T cs:=fun T hB hT hU b cs hq=>hkk.blk hq fun hm=>by
       rcases mA hm with hm|hm
       ·simp only[List.mem_cons,List.mem_nil_iff,or_false]at hm
        rcases hm with hm|hm
        ·exact h.buf.ne hq hB hm
        ·exact hq.ne h1 hT hm
       ·exact yp (fun ho=>(hy ho).1) hq hU hm
     have e1:cnt 1 (pre++[.bys 3 (mB q)])=cnt 1 pre:=jR (show (3:Nat)≠1 by decide)
     have e2:cnt 2 (pre++[.bys 3 (mB q)])=cnt 2 pre:=jR (show (3:Nat)≠2 by decide)
     have e4:cnt 4 (pre++[.bys 3 (mB q)])=cnt 4 pre:=jR (show (3:Nat)≠4 by decide)
     have e5:cnt 5 (pre++[.bys 3 (mB q)])=cnt 5 pre:=jR (show (3:Nat)≠5 by decide)
     have e6:cnt 6 (pre++[.bys 3 (mB q)])=cnt 6 pre:=jR (show (3:Nat)≠6 by decide)
     have e11:cnt 11 (pre++[.bys 3 (mB q)])=cnt 11 pre:=jR (show (3:Nat)≠11 by decide)
     have e7:jP 7 0 (pre++[.bys 3 (mB q)])=jP 7 0 pre:=jY (show (3:Nat)≠7 by decide)
     have e8:jP 8 0 (pre++[.bys 3 (mB q)])=jP 8 0 pre:=jY (show (3:Nat)≠8 by decide)
     have e9:jP 9 0 (pre++[.bys 3 (mB q)])=jP 9 0 pre:=jY (show (3:Nat)≠9 by decide)
     have e10:jP 10 0 (pre++[.bys 3 (mB q)])=jP 10 0 pre:=jY (show (3:Nat)≠10 by decide)
     have e12:jP 12 0 (pre++[.bys 3 (mB q)])=jP 12 0 pre:=jY (show (3:Nat)≠12 by decide)
     have e14:jP 14 0 (pre++[.bys 3 (mB q)])=jP 14 0 pre:=jY (show (3:Nat)≠14 by decide)
     have eK:cnt 3 (pre++[.bys 3 (mB q)])=cnt 3 pre+1:=zP rfl
     refine ⟨rfl,h.kx.more hkk fun q hq=>?_,hbb,{ v with mas:=v.mas++[xb],pm:=p',cm:=c' },?_,?_⟩
     ·rcases mA hq with hq|hq
      ·exact .inl hq
      ·exact .inr (Ji hy q hq)
     ·simp only[qU,kE,eC,eK,e1,e2,e4,e5,e6,e11,e7,e8,e9,e10,e12,e14];exact hb'
     ·exact { c1:=by rw[e1];exact h2.c1.keep hkk.size (kb _ dq dq dq) (fun b t hh=>hh.mono ((kb _ dq dq dq) _)),c2:=by rw[e2];exact h2.c2.keep hkk.size (kb _ dq dq dq) (fun b t hh=>hh.mono ((kb _ dq dq dq) _) (fun b cs hb hk=>⟨(kb _ dq dq dq) _ _ hk,hb⟩) (fun b cs hb hk=>⟨(kb _ dq dq dq) _ _ hk,hb⟩) (fun b cs hb hk=>⟨(kb _ dq dq dq) _ _ hk,hb⟩)),c3:=by rw[eK,xp hn0];exact hG0.push hBs hkk.size (fun b t hh=>hh.mono ((kb _ dq dq dq) _)) hxb hφ'.lt hφ' hO' hy' hy hr',c4:=by rw[e4];exact h2.c4.keep hkk.size (kb _ dq dq dq) (fun b t hh=>hh.mono ((kb _ dq dq dq) _) (fun b cs hb hk=>⟨(kb _ dq dq dq) _ _ hk,hb⟩)),c5:=by rw[e5];exact h2.c5.keep hkk.size (kb _ dq dq dq) (fun b t hh=>hh.mono ((kb _ dq dq dq) _)),c6:=by rw[e6];exact h2.c6.keep (kb _ dq dq dq),c11:=by rw[e11];exact h2.c11.imp id fun ⟨b,h0,h1,h2,h3,h4⟩=>⟨b,h0,h1,h2.mono (kb _ dq dq dq _),h3,h4⟩,c13:=by rw[eC];exact h2.c13,c13y:=fun ho=>⟨kb _ dq dq dq _ _ (h2.c13y ho).1,(h2.c13y ho).2⟩,c13c:=h2.c13c }
   ·rw[hk]at hgf;cases hgf
    have hx0:=hx
    obtain ⟨q,hq,hqn⟩:=s4.at_ hp hk
    have hlt:=Vb hp hk
    rw[s4.cnt,l4]at hlt
    have hn0:x.locs[cnt 4 pre]? =some x.locs[cnt 4 pre]:=gE hlt
    have hq1:=hqn _ hn0
    rw[if_neg (by rw[hk];decide)]at eC'
    subst eC'
    rw[List.append_nil]at eC
    cases f with
    |num k' n=>simp only[kn]at hk;subst hk;simp only at hw;exact absurd hw dq
    |bys k' D=>
     simp only[kn,qn]at hk hq
     subst hk;subst hq
     have hG0:=h2.c4
     obtain ⟨y,hO,hy⟩:=hG0.row
     refine Calls.mono (lo_m w2 bb pb 4 _ v.cl (mB q) (qU nC v pre) y v.pl _ (fun w b=>rLc x (fun rb=>w2.heap.size≤rb∧b≤rb) w b x.locs[cnt 4 pre]) (fun u1 u2 b hh hk=>hh.mono (fun cs hq=>hk.blk hq (.inr zp)) (fun b cs hb hq=>⟨hk.blk hq (.inr zp),hb⟩)) hbf h1 rfl hO (fun ho=>(hy ho).1) ox (fun w3 xb hx hb hge=>Calls.mono (dLc_c x w3 bb xb 4 q _ hq1 (by have:=(hx0.tab.locs _ (mG hn0)).2.1;omega) hx hb) (Ret.mono fun v w' hR=>⟨hR.1,hR.2.1.mono (fun _ h=>h) fun b cs hb hk=>⟨hk,by have:=hx.lt;show w2.heap.size≤b∧xb≤b;omega⟩,hR.2.2⟩))) (Ret.mono fun v' w3 hR=>?_)
     obtain ⟨rfl,⟨xb,y',p',c',hO',hy',hr',hb',hxb,hφ'⟩,hkk,hbb⟩:=hR
     have kb:∀(T:Nat),T≠qx→T≠ju→T≠vD→∀b cs,Blk w2 b T cs→Blk w3 b T cs:=fun T hB hT hU b cs hq=>hkk.blk hq fun hm=>by
       rcases mA hm with hm|hm
       ·simp only[List.mem_cons,List.mem_nil_iff,or_false]at hm
        rcases hm with hm|hm
        ·exact h.buf.ne hq hB hm
        ·exact hq.ne h1 hT hm
       ·exact yp (fun ho=>(hy ho).1) hq hU hm
     have e1:cnt 1 (pre++[.bys 4 (mB q)])=cnt 1 pre:=jR (show (4:Nat)≠1 by decide)
     have e2:cnt 2 (pre++[.bys 4 (mB q)])=cnt 2 pre:=jR (show (4:Nat)≠2 by decide)
     have e3:cnt 3 (pre++[.bys 4 (mB q)])=cnt 3 pre:=jR (show (4:Nat)≠3 by decide)
     have e5:cnt 5 (pre++[.bys 4 (mB q)])=cnt 5 pre:=jR (show (4:Nat)≠5 by decide)
     have e6:cnt 6 (pre++[.bys 4 (mB q)])=cnt 6 pre:=jR (show (4:Nat)≠6 by decide)
     have e11:cnt 11 (pre++[.bys 4 (mB q)])=cnt 11 pre:=jR (show (4:Nat)≠11 by decide)
     have e7:jP 7 0 (pre++[.bys 4 (mB q)])=jP 7 0 pre:=jY (show (4:Nat)≠7 by decide)
     have e8:jP 8 0 (pre++[.bys 4 (mB q)])=jP 8 0 pre:=jY (show (4:Nat)≠8 by decide)
     have e9:jP 9 0 (pre++[.bys 4 (mB q)])=jP 9 0 pre:=jY (show (4:Nat)≠9 by decide)
     have e10:jP 10 0 (pre++[.bys 4 (mB q)])=jP 10 0 pre:=jY (show (4:Nat)≠10 by decide)
     have e12:jP 12 0 (pre++[.bys 4 (mB q)])=jP 12 0 pre:=jY (show (4:Nat)≠12 by decide)
     have e14:jP 14 0 (pre++[.bys 4 (mB q)])=jP 14 0 pre:=jY (show (4:Nat)≠14 by decide)
     have eK:cnt 4 (pre++[.bys 4 (mB q)])=cnt 4 pre+1:=zP rfl
     refine ⟨rfl,h.kx.more hkk fun q hq=>?_,hbb,{ v with los:=v.los++[xb],pl:=p',cl:=c' },?_,?_⟩
     ·rcases mA hq with hq|hq
      ·exact .inl hq
      ·exact .inr (Ji hy q hq)
     ·simp only[qU,kE,eC,eK,e1,e2,e3,e5,e6,e11,e7,e8,e9,e10,e12,e14];exact hb'
     ·exact { c1:=by rw[e1];exact h2.c1.keep hkk.size (kb _ dq dq dq) (fun b t hh=>hh.mono ((kb _ dq dq dq) _)),c2:=by rw[e2];exact h2.c2.keep hkk.size (kb _ dq dq dq) (fun b t hh=>hh.mono ((kb _ dq dq dq) _) (fun b cs hb hk=>⟨(kb _ dq dq dq) _ _ hk,hb⟩) (fun b cs hb hk=>⟨(kb _ dq dq dq) _ _ hk,hb⟩) (fun b cs hb hk=>⟨(kb _ dq dq dq) _ _ hk,hb⟩)),c3:=by rw[e3];exact h2.c3.keep hkk.size (kb _ dq dq dq) (fun b t hh=>hh.mono ((kb _ dq dq dq) _)),c4:=by rw[eK,xp hn0];exact hG0.push hBs hkk.size (fun b t hh=>hh.mono ((kb _ dq dq dq) _) (fun b cs hb hk=>⟨(kb _ dq dq dq) _ _ hk,hb.1,hb.2.1,fun b2 hm hlt=>by rcases mA hm with hm|hm;exact hb.2.2 b2 hm hlt;simp at hm;have:=hk.lt;omega⟩)) hxb hφ'.lt (hφ'.mono (fun _ h=>h) (fun b cs hb hk=>⟨hk,Nat.le_trans hBs hb.1,hb.2,fun b2 hm hlt=>by rcases mA hm with hm|hm;have:=(hG0.fresh b2 hm).2;omega;simp at hm;omega⟩)) hO' hy' hy hr',c5:=by rw[e5];exact h2.c5.keep hkk.size (kb _ dq dq dq) (fun b t hh=>hh.mono ((kb _ dq dq dq) _)),c6:=by rw[e6];exact h2.c6.keep (kb _ dq dq dq),c11:=by rw[e11];exact h2.c11.imp id fun ⟨b,h0,h1,h2,h3,h4⟩=>⟨b,h0,h1,h2.mono (kb _ dq dq dq _),h3,h4⟩,c13:=by rw[eC];exact h2.c13,c13y:=fun ho=>⟨kb _ dq dq dq _ _ (h2.c13y ho).1,(h2.c13y ho).2⟩,c13c:=h2.c13c }
   ·rw[hk]at hgf;cases hgf
    have hx0:=hx
    obtain ⟨q,hq,hqn⟩:=s5.at_ hp hk
    have hlt:=Vb hp hk
    rw[s5.cnt,l5]at hlt
    have hn0:x.funcs[cnt 5 pre]? =some x.funcs[cnt 5 pre]:=gE hlt
    have hq1:=hqn _ hn0
    rw[if_neg (by rw[hk];decide)]at eC'
    subst eC'
    rw[List.append_nil]at eC
    cases f with
    |num k' n=>simp only[kn]at hk;subst hk;simp only at hw;exact absurd hw dq
    |bys k' D=>
     simp only[kn,qn]at hk hq
     subst hk;subst hq
     have hG0:=h2.c5
     obtain ⟨y,hO,hy⟩:=hG0.row
     refine Calls.mono (fu_m w2 bb pb 5 _ v.cf (mB q) (qU nC v pre) y v.pf _ (fun w b=>rFn T w b x.funcs[cnt 5 pre]) (fun u1 u2 b hh hk=>hh.mono fun cs hq=>hk.blk hq (.inr zp)) hbf h1 rfl hO (fun ho=>(hy ho).1) ox (fun w3 xb hx hb _=>dFn_c T hl w3 bb xb 5 q _ hq1 hx hb)) (Ret.mono fun v' w3 hR=>?_)
     obtain ⟨rfl,⟨xb,y',p',c',hO',hy',hr',hb',hxb,hφ'⟩,hkk,hbb⟩:=hR
     have kb:∀(T:Nat),T≠qx→T≠ju→T≠yq→∀b cs,Blk w2 b T cs→Blk w3 b T cs:=fun T hB hT hU b cs hq=>hkk.blk hq fun hm=>by
       rcases mA hm with hm|hm
       ·simp only[List.mem_cons,List.mem_nil_iff,or_false]at hm
        rcases hm with hm|hm
        ·exact h.buf.ne hq hB hm
        ·exact hq.ne h1 hT hm
       ·exact yp (fun ho=>(hy ho).1) hq hU hm
     have e1:cnt 1 (pre++[.bys 5 (mB q)])=cnt 1 pre:=jR (show (5:Nat)≠1 by decide)
     have e2:cnt 2 (pre++[.bys 5 (mB q)])=cnt 2 pre:=jR (show (5:Nat)≠2 by decide)
     have e3:cnt 3 (pre++[.bys 5 (mB q)])=cnt 3 pre:=jR (show (5:Nat)≠3 by decide)
     have e4:cnt 4 (pre++[.bys 5 (mB q)])=cnt 4 pre:=jR (show (5:Nat)≠4 by decide)
     have e6:cnt 6 (pre++[.bys 5 (mB q)])=cnt 6 pre:=jR (show (5:Nat)≠6 by decide)
     have e11:cnt 11 (pre++[.bys 5 (mB q)])=cnt 11 pre:=jR (show (5:Nat)≠11 by decide)
     have e7:jP 7 0 (pre++[.bys 5 (mB q)])=jP 7 0 pre:=jY (show (5:Nat)≠7 by decide)
     have e8:jP 8 0 (pre++[.bys 5 (mB q)])=jP 8 0 pre:=jY (show (5:Nat)≠8 by decide)
     have e9:jP 9 0 (pre++[.bys 5 (mB q)])=jP 9 0 pre:=jY (show (5:Nat)≠9 by decide)
     have e10:jP 10 0 (pre++[.bys 5 (mB q)])=jP 10 0 pre:=jY (show (5:Nat)≠10 by decide)
     have e12:jP 12 0 (pre++[.bys 5 (mB q)])=jP 12 0 pre:=jY (show (5:Nat)≠12 by decide)
     have e14:jP 14 0 (pre++[.bys 5 (mB q)])=jP 14 0 pre:=jY (show (5:Nat)≠14 by decide)
     have eK:cnt 5 (pre++[.bys 5 (mB q)])=cnt 5 pre+1:=zP rfl
     refine ⟨rfl,h.kx.more hkk fun q hq=>?_,hbb,{ v with fus:=v.fus++[xb],pf:=p',cf:=c' },?_,?_⟩
     ·rcases mA hq with hq|hq
      ·exact .inl hq
      ·exact .inr (Ji hy q hq)
     ·simp only[qU,kE,eC,eK,e1,e2,e3,e4,e6,e11,e7,e8,e9,e10,e12,e14];exact hb'
     ·exact { c1:=by rw[e1];exact h2.c1.keep hkk.size (kb _ dq dq dq) (fun b t hh=>hh.mono ((kb _ dq dq dq) _)),c2:=by rw[e2];exact h2.c2.keep hkk.size (kb _ dq dq dq) (fun b t hh=>hh.mono ((kb _ dq dq dq) _) (fun b cs hb hk=>⟨(kb _ dq dq dq) _ _ hk,hb⟩) (fun b cs hb hk=>⟨(kb _ dq dq dq) _ _ hk,hb⟩) (fun b cs hb hk=>⟨(kb _ dq dq dq) _ _ hk,hb⟩)),c3:=by rw[e3];exact h2.c3.keep hkk.size (kb _ dq dq dq) (fun b t hh=>hh.mono ((kb _ dq dq dq) _)),c4:=by rw[e4];exact h2.c4.keep hkk.size (kb _ dq dq dq) (fun b t hh=>hh.mono ((kb _ dq dq dq) _) (fun b cs hb hk=>⟨(kb _ dq dq dq) _ _ hk,hb⟩)),c5:=by rw[eK,xp hn0];exact hG0.push hBs hkk.size (fun b t hh=>hh.mono ((kb _ dq dq dq) _)) hxb hφ'.lt hφ' hO' hy' hy hr',c6:=by rw[e6];exact h2.c6.keep (kb _ dq dq dq),c11:=by rw[e11];exact h2.c11.imp id fun ⟨b,h0,h1,h2,h3,h4⟩=>⟨b,h0,h1,h2.mono (kb _ dq dq dq _),h3,h4⟩,c13:=by rw[eC];exact h2.c13,c13y:=fun ho=>⟨kb _ dq dq dq _ _ (h2.c13y ho).1,(h2.c13y ho).2⟩,c13c:=h2.c13c }
   ·rw[hk]at hgf;cases hgf
    obtain ⟨s,hs0,hq⟩:=qkM hI.tab hp hk
    rw[if_neg (by rw[hk];decide)]at eC'
    subst eC'
    rw[List.append_nil]at eC
    cases f with
    |num k' n=>simp only[kn]at hk;subst hk;simp only at hw;exact absurd hw dq
    |bys k' D=>
     simp only[kn,qn]at hk hq
     subst hk;subst hq
     obtain ⟨y,hO,hy⟩:=h2.c6
     have hlt:=(List.getElem?_eq_some_iff.1 hs0).1
     refine Calls.mono (st_m w2 bb pb 6 _ v.cst s (qU nC v pre) y v.pst _ hbf h1 rfl hO (fun ho=>(hy ho).1) ox ?_) (Ret.mono fun v' w3 hR=>?_)
     ·have hz:=hI.z0
      rcases Nat.eq_zero_or_pos (cnt 6 pre) with e|e
      ·rw[e]at hs0⊢
       rw[hs0]at hz
       simp[Option.some.inj hz]
      ·rw[aq (by simp;omega),List.getElem?_map,List.getElem?_take,if_pos e,hz];rfl
     obtain ⟨rfl,⟨y',p',c',hO',hy',hr',hb'⟩,hkk⟩:=hR
     have kb:∀(T:Nat),T≠qx→T≠ju→T≠qc→∀b cs,Blk w2 b T cs→Blk w3 b T cs:=fun T hB hT hU b cs hq=>hkk.blk hq fun hm=>by
       rcases mA hm with hm|hm
       ·simp at hm;exact hq.ne h1 hT hm
       ·exact yp (fun ho=>(hy ho).1) hq hU hm
     have e1:cnt 1 (pre++[.bys 6 (sB s)])=cnt 1 pre:=jR (show (6:Nat)≠1 by decide)
     have e2:cnt 2 (pre++[.bys 6 (sB s)])=cnt 2 pre:=jR (show (6:Nat)≠2 by decide)
     have e3:cnt 3 (pre++[.bys 6 (sB s)])=cnt 3 pre:=jR (show (6:Nat)≠3 by decide)
     have e4:cnt 4 (pre++[.bys 6 (sB s)])=cnt 4 pre:=jR (show (6:Nat)≠4 by decide)
     have e5:cnt 5 (pre++[.bys 6 (sB s)])=cnt 5 pre:=jR (show (6:Nat)≠5 by decide)
     have e11:cnt 11 (pre++[.bys 6 (sB s)])=cnt 11 pre:=jR (show (6:Nat)≠11 by decide)
     have e7:jP 7 0 (pre++[.bys 6 (sB s)])=jP 7 0 pre:=jY (show (6:Nat)≠7 by decide)
     have e8:jP 8 0 (pre++[.bys 6 (sB s)])=jP 8 0 pre:=jY (show (6:Nat)≠8 by decide)
     have e9:jP 9 0 (pre++[.bys 6 (sB s)])=jP 9 0 pre:=jY (show (6:Nat)≠9 by decide)
     have e10:jP 10 0 (pre++[.bys 6 (sB s)])=jP 10 0 pre:=jY (show (6:Nat)≠10 by decide)
     have e12:jP 12 0 (pre++[.bys 6 (sB s)])=jP 12 0 pre:=jY (show (6:Nat)≠12 by decide)
     have e14:jP 14 0 (pre++[.bys 6 (sB s)])=jP 14 0 pre:=jY (show (6:Nat)≠14 by decide)
     have eK:cnt 6 (pre++[.bys 6 (sB s)])=cnt 6 pre+1:=zP rfl
     refine ⟨rfl,h.kx.more hkk fun q hq=>?_,h.buf.keep fun cs hq=>hkk.blk hq fun hm=>?_,{ v with pst:=p',cst:=c' },?_,?_⟩
     ·rcases mA hq with hq|hq
      ·simp at hq;subst hq;simp
      ·exact .inr (Ji hy q hq)
     ·rcases mA hm with hm|hm
      ·simp at hm;exact hq.ne h1 dq hm
      ·exact yp (fun ho=>(hy ho).1) hq dq hm
     ·simp only[qU,kE,eC,eK,e1,e2,e3,e4,e5,e11,e7,e8,e9,e10,e12,e14];exact hb'
     ·exact { c1:=by rw[e1];exact h2.c1.keep hkk.size (kb _ dq dq dq) (fun b t hh=>hh.mono ((kb _ dq dq dq) _)),c2:=by rw[e2];exact h2.c2.keep hkk.size (kb _ dq dq dq) (fun b t hh=>hh.mono ((kb _ dq dq dq) _) (fun b cs hb hk=>⟨(kb _ dq dq dq) _ _ hk,hb⟩) (fun b cs hb hk=>⟨(kb _ dq dq dq) _ _ hk,hb⟩) (fun b cs hb hk=>⟨(kb _ dq dq dq) _ _ hk,hb⟩)),c3:=by rw[e3];exact h2.c3.keep hkk.size (kb _ dq dq dq) (fun b t hh=>hh.mono ((kb _ dq dq dq) _)),c4:=by rw[e4];exact h2.c4.keep hkk.size (kb _ dq dq dq) (fun b t hh=>hh.mono ((kb _ dq dq dq) _) (fun b cs hb hk=>⟨(kb _ dq dq dq) _ _ hk,hb⟩)),c5:=by rw[e5];exact h2.c5.keep hkk.size (kb _ dq dq dq) (fun b t hh=>hh.mono ((kb _ dq dq dq) _)),c6:=by
                rw[eK,xp hs0,List.map_append]
                exact ⟨y',hO',fun ho=>⟨hy' ho,by
                 rcases hr' ho with ⟨e1,e2⟩|e
                 ·rw[e2];exact (hy e1).2
                 ·exact Nat.le_trans hBs e⟩⟩
              c11:=by rw[e11];exact h2.c11.imp id fun ⟨b,h0,h1,h2,h3,h4⟩=>⟨b,h0,h1,h2.mono (kb _ dq dq dq _),h3,h4⟩
              c13:=by rw[eC];exact h2.c13
              c13y:=fun ho=>⟨kb _ dq dq dq _ _ (h2.c13y ho).1,(h2.c13y ho).2⟩
              c13c:=h2.c13c }
   ·rw[hk]at hgf;cases hgf
    exact sc 7 14 _ hk pf7_s ox rfl dq dq fun n hn=>by
     have NE:∀j,(7:Nat)≠j→kn f≠j:=fun j hj e=>hj (by rw[← hk,e])
     have eg:gv nC (pre++[f])=gv nC pre:=by
      rw[if_neg (NE 13 dq)]at eC'
      rw[eC,eC',List.append_nil]
     have e1:cnt 1 (pre++[f])=cnt 1 pre:=jR (NE 1 dq)
     have e2:cnt 2 (pre++[f])=cnt 2 pre:=jR (NE 2 dq)
     have e3:cnt 3 (pre++[f])=cnt 3 pre:=jR (NE 3 dq)
     have e4:cnt 4 (pre++[f])=cnt 4 pre:=jR (NE 4 dq)
     have e5:cnt 5 (pre++[f])=cnt 5 pre:=jR (NE 5 dq)
     have e6:cnt 6 (pre++[f])=cnt 6 pre:=jR (NE 6 dq)
     have e11:cnt 11 (pre++[f])=cnt 11 pre:=jR (NE 11 dq)
     have e8:jP 8 0 (pre++[f])=jP 8 0 pre:=jY (NE 8 dq)
     have e9:jP 9 0 (pre++[f])=jP 9 0 pre:=jY (NE 9 dq)
     have e10:jP 10 0 (pre++[f])=jP 10 0 pre:=jY (NE 10 dq)
     have e12:jP 12 0 (pre++[f])=jP 12 0 pre:=jY (NE 12 dq)
     have e14:jP 14 0 (pre++[f])=jP 14 0 pre:=jY (NE 14 dq)
     have eS:jP 7 0 (pre++[f])=n:=by rw[JI hk,hn];rfl
     simp only[qU,kE,eg,eS,e1,e2,e3,e4,e5,e6,e11,e8,e9,e10,e12,e14]
     rfl
   ·rw[hk]at hgf;cases hgf
    exact sc 8 15 _ hk pf8_s ox rfl dq dq fun n hn=>by
     have NE:∀j,(8:Nat)≠j→kn f≠j:=fun j hj e=>hj (by rw[← hk,e])
     have eg:gv nC (pre++[f])=gv nC pre:=by
      rw[if_neg (NE 13 dq)]at eC'
      rw[eC,eC',List.append_nil]
     have e1:cnt 1 (pre++[f])=cnt 1 pre:=jR (NE 1 dq)
     have e2:cnt 2 (pre++[f])=cnt 2 pre:=jR (NE 2 dq)
     have e3:cnt 3 (pre++[f])=cnt 3 pre:=jR (NE 3 dq)
     have e4:cnt 4 (pre++[f])=cnt 4 pre:=jR (NE 4 dq)
     have e5:cnt 5 (pre++[f])=cnt 5 pre:=jR (NE 5 dq)
     have e6:cnt 6 (pre++[f])=cnt 6 pre:=jR (NE 6 dq)
     have e11:cnt 11 (pre++[f])=cnt 11 pre:=jR (NE 11 dq)
     have e7:jP 7 0 (pre++[f])=jP 7 0 pre:=jY (NE 7 dq)
     have e9:jP 9 0 (pre++[f])=jP 9 0 pre:=jY (NE 9 dq)
     have e10:jP 10 0 (pre++[f])=jP 10 0 pre:=jY (NE 10 dq)
     have e12:jP 12 0 (pre++[f])=jP 12 0 pre:=jY (NE 12 dq)
     have e14:jP 14 0 (pre++[f])=jP 14 0 pre:=jY (NE 14 dq)
     have eS:jP 8 0 (pre++[f])=n:=by rw[JI hk,hn];rfl
     simp only[qU,kE,eg,eS,e1,e2,e3,e4,e5,e6,e11,e7,e9,e10,e12,e14]
     rfl
   ·rw[hk]at hgf;cases hgf
    exact sc 9 9 _ hk pf9_s ox rfl dq dq fun n hn=>by
     have NE:∀j,(9:Nat)≠j→kn f≠j:=fun j hj e=>hj (by rw[← hk,e])
     have eg:gv nC (pre++[f])=gv nC pre:=by
      rw[if_neg (NE 13 dq)]at eC'
      rw[eC,eC',List.append_nil]
     have e1:cnt 1 (pre++[f])=cnt 1 pre:=jR (NE 1 dq)
     have e2:cnt 2 (pre++[f])=cnt 2 pre:=jR (NE 2 dq)
     have e3:cnt 3 (pre++[f])=cnt 3 pre:=jR (NE 3 dq)
     have e4:cnt 4 (pre++[f])=cnt 4 pre:=jR (NE 4 dq)
     have e5:cnt 5 (pre++[f])=cnt 5 pre:=jR (NE 5 dq)
     have e6:cnt 6 (pre++[f])=cnt 6 pre:=jR (NE 6 dq)
     have e11:cnt 11 (pre++[f])=cnt 11 pre:=jR (NE 11 dq)
     have e7:jP 7 0 (pre++[f])=jP 7 0 pre:=jY (NE 7 dq)
     have e8:jP 8 0 (pre++[f])=jP 8 0 pre:=jY (NE 8 dq)
     have e10:jP 10 0 (pre++[f])=jP 10 0 pre:=jY (NE 10 dq)
     have e12:jP 12 0 (pre++[f])=jP 12 0 pre:=jY (NE 12 dq)
     have e14:jP 14 0 (pre++[f])=jP 14 0 pre:=jY (NE 14 dq)
     have eS:jP 9 0 (pre++[f])=n:=by rw[JI hk,hn];rfl
     simp only[qU,kE,eg,eS,e1,e2,e3,e4,e5,e6,e11,e7,e8,e10,e12,e14]
     rfl
   ·rw[hk]at hgf;cases hgf
    exact sc 10 10 _ hk qlj ox rfl dq dq fun n hn=>by
     have NE:∀j,(10:Nat)≠j→kn f≠j:=fun j hj e=>hj (by rw[← hk,e])
     have eg:gv nC (pre++[f])=gv nC pre:=by
      rw[if_neg (NE 13 dq)]at eC'
      rw[eC,eC',List.append_nil]
     have e1:cnt 1 (pre++[f])=cnt 1 pre:=jR (NE 1 dq)
     have e2:cnt 2 (pre++[f])=cnt 2 pre:=jR (NE 2 dq)
     have e3:cnt 3 (pre++[f])=cnt 3 pre:=jR (NE 3 dq)
     have e4:cnt 4 (pre++[f])=cnt 4 pre:=jR (NE 4 dq)
     have e5:cnt 5 (pre++[f])=cnt 5 pre:=jR (NE 5 dq)
     have e6:cnt 6 (pre++[f])=cnt 6 pre:=jR (NE 6 dq)
     have e11:cnt 11 (pre++[f])=cnt 11 pre:=jR (NE 11 dq)
     have e7:jP 7 0 (pre++[f])=jP 7 0 pre:=jY (NE 7 dq)
     have e8:jP 8 0 (pre++[f])=jP 8 0 pre:=jY (NE 8 dq)
     have e9:jP 9 0 (pre++[f])=jP 9 0 pre:=jY (NE 9 dq)
     have e12:jP 12 0 (pre++[f])=jP 12 0 pre:=jY (NE 12 dq)
     have e14:jP 14 0 (pre++[f])=jP 14 0 pre:=jY (NE 14 dq)
     have eS:jP 10 0 (pre++[f])=n:=by rw[JI hk,hn];rfl
     simp only[qU,kE,eg,eS,e1,e2,e3,e4,e5,e6,e11,e7,e8,e9,e12,e14]
     rfl
   ·rw[hk]at hgf;cases hgf
    obtain ⟨q,hq,hqn⟩:=s11.at_ hp hk
    have hlt:=Vb hp hk
    rw[s11.cnt]at hlt
    rw[if_neg (by rw[hk];decide)]at eC'
    subst eC'
    rw[List.append_nil]at eC
    cases f with
    |num k' n=>simp only[kn]at hk;subst hk;simp only at hw;exact absurd hw dq
    |bys k' D=>
     simp only[kn,qn]at hk hq
     subst hk;subst hq
     refine Calls.mono (pe_m w2 bb pb 11 (mB q) (qU nC v pre) (fun w b=>rVT T w b x.per) (fun u1 u2 b hh hk=>hh.mono fun cs hq=>hk.blk hq (.inr zp)) hbf h1 (by simp[qU]) (fun w3 xb hx hb _=>qkx T hl w3 bb xb 11 q _ hqn hx hb)) (Ret.mono fun v' w3 hR=>?_)
     obtain ⟨rfl,⟨xb,hb',hxb,hφ'⟩,hkk,hbb⟩:=hR
     have kb:∀(T:Nat),T≠qx→T≠ju→T≠qx→∀b cs,Blk w2 b T cs→Blk w3 b T cs:=fun T hB hT _ b cs hq=>hkk.blk hq fun hm=>by
       simp only[List.mem_cons,List.mem_nil_iff,or_false]at hm
       rcases hm with hm|hm
       ·exact h.buf.ne hq hB hm
       ·exact hq.ne h1 hT hm
     have e1:cnt 1 (pre++[.bys 11 (mB q)])=cnt 1 pre:=jR (show (11:Nat)≠1 by decide)
     have e2:cnt 2 (pre++[.bys 11 (mB q)])=cnt 2 pre:=jR (show (11:Nat)≠2 by decide)
     have e3:cnt 3 (pre++[.bys 11 (mB q)])=cnt 3 pre:=jR (show (11:Nat)≠3 by decide)
     have e4:cnt 4 (pre++[.bys 11 (mB q)])=cnt 4 pre:=jR (show (11:Nat)≠4 by decide)
     have e5:cnt 5 (pre++[.bys 11 (mB q)])=cnt 5 pre:=jR (show (11:Nat)≠5 by decide)
     have e6:cnt 6 (pre++[.bys 11 (mB q)])=cnt 6 pre:=jR (show (11:Nat)≠6 by decide)
     have e7:jP 7 0 (pre++[.bys 11 (mB q)])=jP 7 0 pre:=jY (show (11:Nat)≠7 by decide)
     have e8:jP 8 0 (pre++[.bys 11 (mB q)])=jP 8 0 pre:=jY (show (11:Nat)≠8 by decide)
     have e9:jP 9 0 (pre++[.bys 11 (mB q)])=jP 9 0 pre:=jY (show (11:Nat)≠9 by decide)
     have e10:jP 10 0 (pre++[.bys 11 (mB q)])=jP 10 0 pre:=jY (show (11:Nat)≠10 by decide)
     have e12:jP 12 0 (pre++[.bys 11 (mB q)])=jP 12 0 pre:=jY (show (11:Nat)≠12 by decide)
     have e14:jP 14 0 (pre++[.bys 11 (mB q)])=jP 14 0 pre:=jY (show (11:Nat)≠14 by decide)
     have eK:cnt 11 (pre++[.bys 11 (mB q)])=cnt 11 pre+1:=zP rfl
     refine ⟨rfl,h.kx.trans' hkk,hbb,{ v with vp:=ptr xb },?_,?_⟩
     ·simp only[qU,kE,eC,e1,e2,e3,e4,e5,e6,e7,e8,e9,e10,e12,e14];exact hb'
     ·exact { c1:=by rw[e1];exact h2.c1.keep hkk.size (kb _ dq dq dq) (fun b t hh=>hh.mono ((kb _ dq dq dq) _)),c2:=by rw[e2];exact h2.c2.keep hkk.size (kb _ dq dq dq) (fun b t hh=>hh.mono ((kb _ dq dq dq) _) (fun b cs hb hk=>⟨(kb _ dq dq dq) _ _ hk,hb⟩) (fun b cs hb hk=>⟨(kb _ dq dq dq) _ _ hk,hb⟩) (fun b cs hb hk=>⟨(kb _ dq dq dq) _ _ hk,hb⟩)),c3:=by rw[e3];exact h2.c3.keep hkk.size (kb _ dq dq dq) (fun b t hh=>hh.mono ((kb _ dq dq dq) _)),c4:=by rw[e4];exact h2.c4.keep hkk.size (kb _ dq dq dq) (fun b t hh=>hh.mono ((kb _ dq dq dq) _) (fun b cs hb hk=>⟨(kb _ dq dq dq) _ _ hk,hb⟩)),c5:=by rw[e5];exact h2.c5.keep hkk.size (kb _ dq dq dq) (fun b t hh=>hh.mono ((kb _ dq dq dq) _)),c6:=by rw[e6];exact h2.c6.keep (kb _ dq dq dq),c11:=.inr ⟨xb,by omega,rfl,hφ',Nat.le_trans hBs hxb,fun hm=>by have:=(h2.c1.fresh xb hm).2;omega⟩,c13:=by rw[eC];exact h2.c13,c13y:=fun ho=>⟨kb _ dq dq dq _ _ (h2.c13y ho).1,(h2.c13y ho).2⟩,c13c:=h2.c13c }
   ·rw[hk]at hgf;cases hgf
    exact sc 12 12 _ hk qli ox rfl dq dq fun n hn=>by
     have NE:∀j,(12:Nat)≠j→kn f≠j:=fun j hj e=>hj (by rw[← hk,e])
     have eg:gv nC (pre++[f])=gv nC pre:=by
      rw[if_neg (NE 13 dq)]at eC'
      rw[eC,eC',List.append_nil]
     have e1:cnt 1 (pre++[f])=cnt 1 pre:=jR (NE 1 dq)
     have e2:cnt 2 (pre++[f])=cnt 2 pre:=jR (NE 2 dq)
     have e3:cnt 3 (pre++[f])=cnt 3 pre:=jR (NE 3 dq)
     have e4:cnt 4 (pre++[f])=cnt 4 pre:=jR (NE 4 dq)
     have e5:cnt 5 (pre++[f])=cnt 5 pre:=jR (NE 5 dq)
     have e6:cnt 6 (pre++[f])=cnt 6 pre:=jR (NE 6 dq)
     have e11:cnt 11 (pre++[f])=cnt 11 pre:=jR (NE 11 dq)
     have e7:jP 7 0 (pre++[f])=jP 7 0 pre:=jY (NE 7 dq)
     have e8:jP 8 0 (pre++[f])=jP 8 0 pre:=jY (NE 8 dq)
     have e9:jP 9 0 (pre++[f])=jP 9 0 pre:=jY (NE 9 dq)
     have e10:jP 10 0 (pre++[f])=jP 10 0 pre:=jY (NE 10 dq)
     have e14:jP 14 0 (pre++[f])=jP 14 0 pre:=jY (NE 14 dq)
     have eS:jP 12 0 (pre++[f])=n:=by rw[JI hk,hn];rfl
     simp only[qU,kE,eg,eS,e1,e2,e3,e4,e5,e6,e11,e7,e8,e9,e10,e14]
     rfl
   ·rw[hk]at hgf;cases hgf
    rw[if_pos hk]at eC'
    have NE:∀j,(13:Nat)≠j→kn f≠j:=fun j hj e=>hj (by rw[← hk,e])
    refine Calls.mono (qlh w2 bb pb f ac (qU nC v pre) v.yc v.pc _ v.cc _ hbf eC' h1 rfl h2.c13 (fun ho=>(h2.c13y ho).1) h2.c13c (by rw[eC,lA]at hgC;omega)) (Ret.mono fun v' w3 hR=>?_)
    obtain ⟨rfl,⟨y',p',c',hO',hc',hy',hr',hb'⟩,hkk⟩:=hR
    have kb:∀(T:Nat),T≠qx→T≠ju→T≠qd→∀b cs,Blk w2 b T cs→Blk w3 b T cs:=fun T hB hT hU b cs hq=>hkk.blk hq fun hm=>by
     rcases mA hm with hm|hm
     ·simp at hm;exact hq.ne h1 hT hm
     ·exact yp (fun ho=>(h2.c13y ho).1) hq hU hm
    have kI:∀b cs,(w1.heap.size≤b∧b∉qG v.yc)→Blk w2 b qd cs→Blk w3 b qd cs∧(w1.heap.size≤b∧b∉qG y'):=fun b cs hb hq=>⟨hkk.blk hq fun hm=>by
     rcases mA hm with hm|hm
     ·simp at hm;exact hq.ne h1 dq hm
     ·exact hb.2 hm,hb.1,qkr hr' hb.2 hq.lt⟩
    have kJ:∀(T:Nat),T≠qx→T≠ju→T≠qd→∀b cs,(w1.heap.size≤b∧b∉qG v.yc)→Blk w2 b T cs→Blk w3 b T cs∧(w1.heap.size≤b∧b∉qG y'):=fun T hB hT hU b cs hb hq=>⟨kb T hB hT hU b cs hq,hb.1,qkr hr' hb.2 hq.lt⟩
    have e1:cnt 1 (pre++[f])=cnt 1 pre:=jR (NE 1 dq)
    have e2:cnt 2 (pre++[f])=cnt 2 pre:=jR (NE 2 dq)
    have e3:cnt 3 (pre++[f])=cnt 3 pre:=jR (NE 3 dq)
    have e4:cnt 4 (pre++[f])=cnt 4 pre:=jR (NE 4 dq)
    have e5:cnt 5 (pre++[f])=cnt 5 pre:=jR (NE 5 dq)
    have e6:cnt 6 (pre++[f])=cnt 6 pre:=jR (NE 6 dq)
    have e11:cnt 11 (pre++[f])=cnt 11 pre:=jR (NE 11 dq)
    have e7:jP 7 0 (pre++[f])=jP 7 0 pre:=jY (NE 7 dq)
    have e8:jP 8 0 (pre++[f])=jP 8 0 pre:=jY (NE 8 dq)
    have e9:jP 9 0 (pre++[f])=jP 9 0 pre:=jY (NE 9 dq)
    have e10:jP 10 0 (pre++[f])=jP 10 0 pre:=jY (NE 10 dq)
    have e12:jP 12 0 (pre++[f])=jP 12 0 pre:=jY (NE 12 dq)
    have e14:jP 14 0 (pre++[f])=jP 14 0 pre:=jY (NE 14 dq)
    refine ⟨rfl,h.kx.more hkk fun q hq=>?_,h.buf.keep fun cs hq=>hkk.blk hq fun hm=>?_,{ v with pc:=p',cc:=c',yc:=y' },?_,?_⟩
    ·rcases mA hq with hq|hq
     ·simp at hq;subst hq;simp
     ·exact .inr (Ji h2.c13y q hq)
    ·rcases mA hm with hm|hm
     ·simp at hm;exact hq.ne h1 dq hm
     ·exact yp (fun ho=>(h2.c13y ho).1) hq dq hm
    ·simp only[qU,kE,eC,lA,e1,e2,e3,e4,e5,e6,e11,e7,e8,e9,e10,e12,e14];exact hb'
    ·exact { c1:=by rw[e1];exact h2.c1.keep hkk.size (kb _ dq dq dq) (fun b t hh=>hh.mono ((kb _ dq dq dq) _)),c2:=by rw[e2];exact h2.c2.keep hkk.size (kb _ dq dq dq) (fun b t hh=>hh.mono ((kb _ dq dq dq) _) kI (kJ _ dq dq dq) (kJ _ dq dq dq)),c3:=by rw[e3];exact h2.c3.keep hkk.size (kb _ dq dq dq) (fun b t hh=>hh.mono ((kb _ dq dq dq) _)),c4:=by rw[e4];exact h2.c4.keep hkk.size (kb _ dq dq dq) (fun b t hh=>hh.mono ((kb _ dq dq dq) _) (fun b cs hb hk=>⟨(kb _ dq dq dq) _ _ hk,hb⟩)),c5:=by rw[e5];exact h2.c5.keep hkk.size (kb _ dq dq dq) (fun b t hh=>hh.mono ((kb _ dq dq dq) _)),c6:=by rw[e6];exact h2.c6.keep (kb _ dq dq dq),c11:=by rw[e11];exact h2.c11.imp id fun ⟨b,h0,h1,h2,h3,h4⟩=>⟨b,h0,h1,h2.mono (kb _ dq dq dq _),h3,h4⟩,c13:=by rw[eC,lA,List.map_append];exact hO',c13y:=fun ho=>⟨hy' ho,by
       rcases hr' ho with ⟨e1,e2⟩|e
       ·rw[e2];exact (h2.c13y e1).2
       ·exact Nat.le_trans hBs e⟩,c13c:=hc' }
   ·rw[hk]at hgf;cases hgf
    exact sc 14 17 _ hk qlg ox rfl dq dq fun n hn=>by
     have NE:∀j,(14:Nat)≠j→kn f≠j:=fun j hj e=>hj (by rw[← hk,e])
     have eg:gv nC (pre++[f])=gv nC pre:=by
      rw[if_neg (NE 13 dq)]at eC'
      rw[eC,eC',List.append_nil]
     have e1:cnt 1 (pre++[f])=cnt 1 pre:=jR (NE 1 dq)
     have e2:cnt 2 (pre++[f])=cnt 2 pre:=jR (NE 2 dq)
     have e3:cnt 3 (pre++[f])=cnt 3 pre:=jR (NE 3 dq)
     have e4:cnt 4 (pre++[f])=cnt 4 pre:=jR (NE 4 dq)
     have e5:cnt 5 (pre++[f])=cnt 5 pre:=jR (NE 5 dq)
     have e6:cnt 6 (pre++[f])=cnt 6 pre:=jR (NE 6 dq)
     have e11:cnt 11 (pre++[f])=cnt 11 pre:=jR (NE 11 dq)
     have e7:jP 7 0 (pre++[f])=jP 7 0 pre:=jY (NE 7 dq)
     have e8:jP 8 0 (pre++[f])=jP 8 0 pre:=jY (NE 8 dq)
     have e9:jP 9 0 (pre++[f])=jP 9 0 pre:=jY (NE 9 dq)
     have e10:jP 10 0 (pre++[f])=jP 10 0 pre:=jY (NE 10 dq)
     have e12:jP 12 0 (pre++[f])=jP 12 0 pre:=jY (NE 12 dq)
     have eS:jP 14 0 (pre++[f])=n:=by rw[JI hk,hn];rfl
     simp only[qU,kE,eg,eS,e1,e2,e3,e4,e5,e6,e11,e7,e8,e9,e10,e12]
     rfl
   ·rw[List.getElem?_eq_none (by simpa using hk)]at hgf;cases hgf
 ·obtain ⟨rfl,w1,hf1,h0⟩:=h
  obtain ⟨v,h1,h2⟩:=h0.st
  have c1:cnt 1 (kV m)=x.types.length:=by rw[s1.cnt,l1]
  have c2:cnt 2 (kV m)=x.samples.length:=by rw[s2.cnt,l2]
  have c3:cnt 3 (kV m)=x.mappings.length:=by rw[s3.cnt,l3]
  have c4:cnt 4 (kV m)=x.locs.length:=by rw[s4.cnt,l4]
  have c5:cnt 5 (kV m)=x.funcs.length:=by rw[s5.cnt,l5]
  have e:∀{n:Nat} {z:Int},IntKind.i64.wrap (n:Nat)=z→vI n=.int .i64 z:=fun h=>by rw[← h]
  have kB:∀b,w1.heap.size≤b→w.heap.size≤b:=fun b hb=>Nat.le_trans hf1.size hb
  have gl:∀{α:Type} {pT:Nat} {p:Option Addr} {l c:Nat} {bs:List Nat} {xs:List α} {φ ψ:Nat→α→Prop},Grp pT w1.heap.size w' p l c bs xs φ→(∀b x,φ b x→ψ b x)→Grp pT w.heap.size w' p l c bs xs ψ:=fun h k=>⟨h.row.mono fun b cs hb hk=>⟨hk,kB b hb⟩,h.each.mono k,h.nd,fun b hb=>⟨kB b (h.fresh b hb).1,(h.fresh b hb).2⟩⟩
  have h3:=h2.c1;have h4:=h2.c2;have h5:=h2.c3;have h7:=h2.c4;have h8:=h2.c5;have h9:=h2.c6;have h10:=h2.c13
  rw[c1,List.take_length]at h3
  rw[c2,List.take_length]at h4
  rw[c3,List.take_length]at h5
  rw[c4,List.take_length]at h7
  rw[c5,List.take_length]at h8
  rw[h6,List.take_length]at h9
  refine ⟨rfl,h0.kx.afterF hf1,v,nC.flatten.map fun n:Nat=>IntKind.i64.wrap (n:Nat),_,_,_,?_,gl h3 (fun _ _ h=>h),gl h4 (fun b t hh=>hh.mono (fun _ h=>h) (fun b cs hb hk=>⟨hk,kB b hb.1⟩) (fun b cs hb hk=>⟨hk,kB b hb.1⟩) (fun b cs hb hk=>⟨hk,kB b hb.1⟩)),gl h5 (fun _ _ h=>h),gl h7 (fun b t hh=>hh.mono (fun _ h=>h) (fun b cs hb hk=>⟨hk,kB b hb.1,hb.2⟩)),gl h8 (fun _ _ h=>h),h9.mono fun b cs hb hk=>⟨hk,kB b hb⟩,?_,?_,atW hI.drop hl,atW hI.keep hl,atW hI.dfl hl,?_⟩
  ·simp only[qU,kE,c1,c2,c3,c4,c5,h6,hC.all]at h1
   rw[e hI.time,e hI.dur,e hI.period]at h1
   rw[List.length_map]
   exact h1
  ·rw[hC.all]at h10
   rw[List.length_map,List.map_map]
   exact ⟨v.yc,h10,fun ho=>⟨(h2.c13y ho).1,kB _ (h2.c13y ho).2⟩⟩
  ·refine ⟨by rw[List.length_map];exact hCl,fun i s z hs hz=>?_⟩
   rw[List.getElem?_map]at hz
   obtain ⟨n,hn,rfl⟩:=Option.map_eq_some_iff.1 hz
   exact atW (hCe.2 i s n hs hn) hl
  ·rcases h2.c11 with ⟨q1,q2⟩|⟨b,q0,q1,q2,q3,q4⟩
   ·left
    refine ⟨q2,e11 ?_⟩
    rw[s11.cnt]at q1
    exact List.eq_nil_of_length_eq_zero q1
   ·exact .inr ⟨b,q1,q2,kB b q3,q4⟩
structure VC (B:Nat) (T:List ByteArray) (x:jD) (g:G) (vp:Value) (w:World):Prop where
 prof:∃pt ct ps cs pm cm pl cl pf cf pst cst pc cc cx dx kx sx,Blk w g.pb ju [.slice pt x.types.length ct,.string eB,.slice ps x.samples.length cs,.slice pm x.mappings.length cm,.slice pl x.locs.length cl,.slice pf x.funcs.length cf,.slice none 0 0,.string eB,.string eB,.int .i64 x.time,.int .i64 x.dur,vp,.int .i64 x.period,.slice pc x.comments.length cc,.int .i64 dx,.int .i64 kx,.slice pst T.length cst,.int .i64 sx]∧
  OS pVT 1 w (.slice pt x.types.length ct) (g.types.map ptr)∧OS xS 1 w (.slice ps x.samples.length cs) (g.sams.map ptr)∧OS xZ 1 w (.slice pm x.mappings.length cm) (g.maps.map ptr)∧OS vD 1 w (.slice pl x.locs.length cl) (g.locs.map ptr)∧OS yq 1 w (.slice pf x.funcs.length cf) (g.funs.map ptr)∧
  OS qc 1 w (.slice pst T.length cst) (T.map .string)∧OS qd 1 w (.slice pc x.comments.length cc) (cx.map (.int .i64))∧(Al2 x.comments cx fun s n=>At T n s)∧At T dx x.drop∧At T kx x.keep∧At T sx x.deflt
 per:(vp=.pointer none∧x.per=⟨eB,eB⟩)∨(vp=ptr g.per∧rVT T w g.per x.per∧B≤g.per∧g.per∉g.types)
 types:qE g.types x.types (rVT T w)
 maps:qE g.maps x.mappings (rMp T w)
 funs:qE g.funs x.funcs (rFn T w)
 locs:qE g.locs x.locs fun b l=>rLc x (LP B g.locs b) w b l
 sams:qE g.sams x.samples (rSm x T (fun b=>B≤b) w)
 ntypes:g.types.Nodup
 nmaps:g.maps.Nodup
 nfuns:g.funs.Nodup
 nlocs:g.locs.Nodup
 nsams:g.sams.Nodup
 fresh:(∀b∈g.types,B≤b)∧(∀b∈g.maps,B≤b)∧(∀b∈g.funs,B≤b)∧(∀b∈g.locs,B≤b)∧∀b∈g.sams,B≤b
theorem qjX.raw {x:jD} {T:List ByteArray} {pb:Nat} (h:qjX x T bb pb w w') (hB:B≤w.heap.size):∃g vp,g.pb=pb∧VC B T x g vp w':=by
 obtain ⟨v,cx,dx,kx,sx,h1,g1,g2,g3,g4,g5,h6,h7,h8,h9,h10,h11,h12⟩:=h.st
 have hcl:cx.length=x.comments.length:=h8.1
 rw[hcl]at h1 h7
 have lo:∀{n:Nat},w.heap.size≤n→B≤n:=fun h=>Nat.le_trans hB h
 have locs:qE v.los x.locs fun b l=>rLc x (LP B v.los b) w' b l:=g4.each.mono fun b l hh=>hh.mono (fun _ h=>h) fun rb cs hb hk=>⟨hk,lo hb.1,hb.2⟩
 have sams:qE v.sas x.samples (rSm x T (fun b=>B≤b) w'):=g2.each.mono fun b l hh=>hh.mono (fun _ h=>h) (fun rb cs hb hk=>⟨hk,lo hb⟩) (fun rb cs hb hk=>⟨hk,lo hb⟩) (fun rb cs hb hk=>⟨hk,lo hb⟩)
 have fresh:=And.intro (fun b hb=>lo (g1.fresh b hb).1) (And.intro (fun b hb=>lo (g3.fresh b hb).1) (And.intro (fun b hb=>lo (g5.fresh b hb).1) (And.intro (fun b hb=>lo (g4.fresh b hb).1) (fun b hb=>lo (g2.fresh b hb).1))))
 rcases h12 with ⟨e1,e2⟩|⟨b,e1,e2,e3,e4⟩
 ·exact ⟨⟨pb,0,v.tys,v.mas,v.fus,v.los,v.sas⟩,v.vp,rfl,⟨v.pt,v.ct,v.ps,v.cs,v.pm,v.cm,v.pl,v.cl,v.pf,v.cf,v.pst,v.cst,v.pc,v.cc,cx,dx,kx,sx,h1,g1.row.os,g2.row.os,g3.row.os,g4.row.os,g5.row.os,h6.os,h7.os,h8,h9,h10,h11⟩,.inl ⟨e1,e2⟩,g1.each,g3.each,g5.each,locs,sams,g1.nd,g3.nd,g5.nd,g4.nd,g2.nd,fresh⟩
 ·exact ⟨⟨pb,b,v.tys,v.mas,v.fus,v.los,v.sas⟩,v.vp,rfl,⟨v.pt,v.ct,v.ps,v.cs,v.pm,v.cm,v.pl,v.cl,v.pf,v.cf,v.pst,v.cst,v.pc,v.cc,cx,dx,kx,sx,h1,g1.row.os,g2.row.os,g3.row.os,g4.row.os,g5.row.os,h6.os,h7.os,h8,h9,h10,h11⟩,.inr ⟨e1,e2,lo e3,e4⟩,g1.each,g3.each,g5.each,locs,sams,g1.nd,g3.nd,g5.nd,g4.nd,g2.nd,fresh⟩
theorem VC.fr {T:List ByteArray} {x:jD} {vp:Value} (h:VC B T x g vp w) (k:Fr 0 [] w w'):VC B T x g vp w':=by
 have kb:∀(T:Nat) b cs,Blk w b T cs→Blk w' b T cs:=fun T b cs hb=>k.blk hb (.inr zp)
 obtain ⟨pt,ct,ps,cs,pm,cm,pl,cl,pf,cf,pst,cst,pc,cc,cx,dx,kx,sx,h1,h2,h3,h4,h5,h6,h7,h8,h9⟩:=h.prof
 exact { h with
  prof:=⟨pt,ct,ps,cs,pm,cm,pl,cl,pf,cf,pst,cst,pc,cc,cx,dx,kx,sx,kb _ _ _ h1,h2.mono (kb _),h3.mono (kb _),h4.mono (kb _),h5.mono (kb _),h6.mono (kb _),h7.mono (kb _),h8.mono (kb _),h9⟩
  per:=h.per.imp id fun ⟨e1,e2,e3⟩=>⟨e1,e2.mono (kb _ _),e3⟩
  types:=h.types.mono fun b t hh=>hh.mono (kb _ _)
  maps:=h.maps.mono fun b t hh=>hh.mono (kb _ _)
  funs:=h.funs.mono fun b t hh=>hh.mono (kb _ _)
  locs:=h.locs.mono fun b t hh=>hh.mono (kb _ _) fun b cs hb hk=>⟨kb _ _ _ hk,hb⟩
  sams:=h.sams.mono fun b t hh=>hh.mono (kb _ _) (fun b cs hb hk=>⟨kb _ _ _ hk,hb⟩) (fun b cs hb hk=>⟨kb _ _ _ hk,hb⟩) (fun b cs hb hk=>⟨kb _ _ _ hk,hb⟩) }
theorem qjz {pb:Nat} {T:List ByteArray} {x:jD} (h:∃g vp,g.pb=pb∧VC B T x g vp w) (k:Fr 0 [] w w'):∃g vp,g.pb=pb∧VC B T x g vp w':=by
 obtain ⟨g,vp,h1,h2⟩:=h
 exact ⟨g,vp,h1,h2.fr k⟩
set_option maxHeartbeats 1000000 in
theorem qbJ (x:jD) (T:List ByteArray) (hx:vW x) (w:World) (b o c pb:Nat) (m:Msg) (hI:UIn x T m) (hB:Bys w b o c (mB m)) (hp:Blk w pb ju zpf):
  Calls Tryz.prog 88 #[.slice (some ⟨b,o,none⟩) (mB m).length c,.iface ipf (ptr pb)] w (Ret fun v w'=>v=.nilIface∧(∃g vp,g.pb=pb∧VC w.heap.size T x g vp w')∧jv [pb] w w'):=by
 have hlen:=hI.ok.len
 refine jr (args:=[_,_]) [(0,_),(1,_)] 0 [] [] func88 rfl ntmps88 rfl rfl .nil ?_
 refine sQ fun K1=>jb (jA (k:=K1 (sQ fun K2=>jb (jM (k:=?_)))))
 refine jn rfl (fun _ _ h=>vb (cs:=[(.int .i64 0),_,(.int .u64 0),_,(.int .u8 0),(.int .u8 0),(.int .u8 0),(.int .u8 0),(.int .u8 0),(.int .u8 0),(.int .u8 0),(.int .u8 0),(.int .u8 0),(.int .u8 0),(.int .u8 0),(.int .u8 0),(.int .u8 0),(.int .u8 0),(.int .u8 0),(.int .u8 0)]) bt198 rfl rfl h) (jW (zs:=[(.int .i64 0),(.int .i64 0),(.int .u64 0),(.slice none 0 0),(.int .u8 0),(.int .u8 0),(.int .u8 0),(.int .u8 0),(.int .u8 0),(.int .u8 0),(.int .u8 0),(.int .u8 0),(.int .u8 0),(.int .u8 0),(.int .u8 0),(.int .u8 0),(.int .u8 0),(.int .u8 0),(.int .u8 0),(.int .u8 0)]) qka rfl fun b5=>?_)
 refine yt 0 rfl rfl rfl rfl so198 rfl rfl rfl rfl rfl ?_
 refine K2 (sQ fun K3=>jb (jM (k:=?_)))
 refine kQ (R:=fun w1 v w'=>v=.nilIface∧qjX x T b5 pb w1 w') call105 rfl rfl (fun w1 hH hf=>dPf_c x T hx w1 b5 pb 0 m hI (hf.blk hp (.inr zp)) ⟨by omega,b,o,c,_,hH.get (i:=0) rfl rfl,hB.keep hf⟩) fun w1 v w2 hH1 hf1 hR=>?_
 obtain ⟨rfl,hU⟩:=hR
 have h5:w.heap.size≤b5:=hH1.fresh (i:=0) rfl rfl rfl
 have hraw:=hU.raw (B:=w.heap.size) hf1.size
 have hkk:jv [pb] w w2:=(hU.kx.afterF hf1).drop fun q hq=>by
  simp only[List.mem_cons,List.mem_nil_iff,or_false]at hq⊢
  rcases hq with hq|hq
  ·right;omega
  ·exact .inl hq
 refine J.begin ⟨w2,0,[]⟩ [] jx .nil ?_
 refine jA (k:=K3 (jj ?_))
 exact je results88 rfl fun w' hH hf=>⟨rfl,qjz hraw hf,hkk.thenF hf⟩
theorem qcD (w:World) (pb T0 off:Nat) (cs:List Value) (T:List ByteArray) (n:Int) (s:ByteArray) (tv:Value) (hp:Blk w pb T0 cs) (hcs:cs[off]? =some (.int .i64 n)) (hn:At T n s) (ht:OS qc 1 w tv (T.map .string)) (hTS:Nat.beq T0 qc=false) (hl:T.length≤1000000000):
  Calls Tryz.prog 106 #[tv,.pointer (some ⟨pb,off,none⟩),.nilIface] w (Ret fun v w'=>v=.tuple #[.string s,.nilIface]∧Blk w' pb T0 (kH cs off [.int .i64 0])∧jv [pb] w w'):=by
 obtain ⟨k,rfl,hk⟩:=hn
 have hkl:=(List.getElem?_eq_some_iff.1 hk).1
 have hoff:=(List.getElem?_eq_some_iff.1 hcs).1
 obtain ⟨p,l,c,rfl,hll, -,hx⟩:=ht.openF
 obtain rfl:l=T.length:=by simpa using hll.symm
 obtain ⟨tb,rfl,hcell⟩:=hx ox
 have hW:[T0].all (fun t=> !Nat.beq t qc)=true:=by simp only[List.all_cons,hTS,Bool.not_false,List.all_nil,Bool.and_self]
 have hel:∀w',Fm.ok ⟨w,0,[T0]⟩ w'→w'.cell? ⟨tb,0+k*1,none⟩=some (.string s):=fun w' hf=>by
  have:=hcell ⟨w,0,[T0]⟩ rfl hW w' hf k (.string s) (by rw[List.getElem?_map,hk];rfl)
  simpa using this
 refine jr (args:=[_,_,_]) [(0,_),(1,_),(2,_)] 0 [T0] _ func106 rfl ntmps106 rfl rfl (Hp.one hp (Nat.zero_le _) zp) ?_
 refine sQ fun K1=>jb (jA (k:=jA (k:=K1 (sQ fun K2=>sQ fun K3=>jb (jM (k:=?_))))))
 refine jn rfl (fun _ _ h=>xl Jr rfl h) (K3 (jO rfl (jg (K2 (sQ fun K4=>jb (jM (k:=jN (k:=?_))))))))
 refine jp rfl (fun a w ha hH hf=>Jk 0 rfl rfl ag2 rfl hcs ha hH) (jA (k:=K4 (sQ fun K5=>sQ fun K6=>jb (jM (k:=jS (k:=?_))))))
 refine jV (u:=.bool false) (congrArg Value.bool (decide_eq_false ox)) ?_
 refine jM (k:=?_)
 refine jy rfl rfl (jM (k:=?_))
 refine jy rfl rfl (jM (k:=?_))
 refine jy rfl rfl (jE vG (k:=?_))
 refine jy rfl rfl (jn rfl (fun _ _ h=>Jl rfl rfl h) ?_)
 refine jV (u:=.bool false) (congrArg Value.bool (decide_eq_false ox)) ?_
 refine jK (k:=K6 (CJ.t [(0,_),(1,_),(8,_),(22,_)] (k:=?_)))
 refine jO rfl (jg (K5 (sQ fun K7=>jb (jM (k:=jN (k:=?_))))))
 refine vj (y:=⟨pb,T0,cs,true,true,none⟩) (o:=off) 0 rfl rfl rfl rfl so2 rfl rfl rfl rfl (Nat.ble_eq_true_of_le (show off+1≤cs.length by omega)) ?_
 refine K7 (sQ fun K8=>jb (jM (k:=jM (k:=?_))))
 refine jn rfl (fun _ _ h=>vH (i:=k) vG so9 rfl rfl hkl h) (jp rfl (fun a w ha hH hf=>kP ag9 rfl (hel w hf) ha) (jA (k:=jA (k:=K8 (jj ?_)))))
 exact Vr results106 rfl rfl fun w' hH hf=>⟨rfl,hH.get (i:=0) rfl rfl,Hp.keepX (f:=⟨w,0,[T0]⟩) (hH.drop 0) hf⟩
structure LMd {α:Type} (T:Nat) (enc:α→Value) (B:Nat) (w:World) (mb:Nat) (f:ByteArray→List α) (ms:List (ByteArray×Value)) (es:List MapEntry) (ck:Nat) (row:ByteArray→Ent):Prop where
 hm:w.heap[mb]? =some (.map es.toArray ck)
 hM:vA Value.string ms es ck
 yes:∀k v,xK ms k=some v→f k≠[]∧∃p c,v=.slice p (f k).length c∧Own T 1 (row k) p (f k).length c ((f k).map enc)∧Blk w (row k).b T (row k).cs∧B≤(row k).b
 no:∀k,xK ms k=none→f k=[]
 ne:∀k k' v v',xK ms k=some v→xK ms k'=some v'→k≠k'→(row k).b≠(row k').b
def LM {α:Type} (T:Nat) (enc:α→Value) (B:Nat) (w:World) (mb:Nat) (f:ByteArray→List α):Prop:=∃ms es ck row,LMd T enc B w mb f ms es ck row
theorem LM.nil {α:Type} {enc:α→Value} (h:w.heap[mb]? =some (.map (List.toArray []) ck)):LM T enc B w mb fun _=>[]:=
 ⟨[],[],ck,fun _=>qQ T,h,vA.nil',fun k v h=>by simp[Kb]at h,fun _ _=>rfl,fun k k' v v' h=>by simp[Kb]at h⟩
theorem LMd.keep {α:Type} {enc:α→Value} {f:ByteArray→List α} {ms:List (ByteArray×Value)} {row:ByteArray→Ent} (h:LMd T enc B w mb f ms es ck row) (km:w'.heap[mb]? =some (.map es.toArray ck)) (kr:∀b cs,B≤b→Blk w b T cs→Blk w' b T cs):LMd T enc B w' mb f ms es ck row:=
 ⟨km,h.hM,fun k v hk=>by
  obtain ⟨h1,p,c,h2,h3,h4,h5⟩:=h.yes k v hk
  exact ⟨h1,p,c,h2,h3,kr _ _ h5 h4,h5⟩,h.no,h.ne⟩
theorem LMd.look {α:Type} {enc:α→Value} {f:ByteArray→List α} {ms:List (ByteArray×Value)} {row:ByteArray→Ent} (h:LMd T enc B w mb f ms es ck row) (k:ByteArray):
  ∃y p c,(xK ms k).getD (.slice none 0 0)=.slice p (f k).length c∧Own T 1 y p (f k).length c ((f k).map enc)∧(y.on=true→Blk w y.b T y.cs∧B≤y.b)∧∀k' v',xK ms k'=some v'→k'≠k→y.on=true→(row k').b≠y.b:=by
 cases hg:xK ms k with
 |none=>
  refine ⟨qQ T,none,0,?_,?_,fun h=>by simp[qQ]at h,fun _ _ _ _ h=>by simp[qQ]at h⟩
  ·rw[h.no k hg];rfl
  ·rw[h.no k hg];exact Own.nil
 |some v=>
  obtain ⟨h1,p,c,h2,h3,h4,h5⟩:=h.yes k v hg
  exact ⟨row k,p,c,h2,h3,fun _=>⟨h4,h5⟩,fun k' v' hk' hne _=>h.ne k' k v' v hk' hg hne⟩
theorem LMd.step {α:Type} {enc:α→Value} {f:ByteArray→List α} {ms:List (ByteArray×Value)} {es':List MapEntry} {ck':Nat} {row:ByteArray→Ent} (h:LMd T enc B w mb f ms es ck row) (k:ByteArray) (v:α) {y8:Ent} {p8:Option Addr} {c8:Nat}
  (hy:y.on=true→Blk w y.b T y.cs∧B≤y.b) (hyn:∀k' v',xK ms k'=some v'→k'≠k→y.on=true→(row k').b≠y.b) (hBw:B≤w.heap.size)
  (hm':w'.heap[mb]? =some (.map es'.toArray ck')) (hM':vA Value.string (Jm ms k (.slice p8 ((f k).length+1) c8)) es' ck') (hO8:Own T 1 y8 p8 ((f k).length+1) c8 ((f k).map enc++[enc v])) (hb8:Blk w' y8.b T y8.cs) (hr8:(y.on=true∧y8.b=y.b)∨w.heap.size≤y8.b)
  (kr:∀k' v',xK ms k'=some v'→k'≠k→Blk w (row k').b T (row k').cs→Blk w' (row k').b T (row k').cs):LM T enc B w' mb fun j=>if k=j then f j++[v] else f j:=by
 refine ⟨_,es',ck',fun j=>if k=j then y8 else row j,hm',hM',fun j u hj=>?_,fun j hj=>?_,fun j j' u u' hj hj' hne=>?_⟩
 ·rw[XO]at hj
  by_cases e:k=j
  ·subst e
   rw[if_pos rfl]at hj
   cases hj
   simp only[if_pos]
   refine ⟨by simp,p8,c8,by simp,by simpa using hO8,hb8,?_⟩
   rcases hr8 with ⟨h1,h2⟩|h1
   ·rw[h2];exact (hy h1).2
   ·omega
  ·have e':¬j=k:=fun h=>e h.symm
   rw[if_neg e']at hj
   simp only[if_neg e]
   obtain ⟨h1,p,c,h2,h3,h4,h5⟩:=h.yes j u hj
   exact ⟨h1,p,c,h2,h3,kr j u hj e' h4,h5⟩
 ·rw[XO]at hj
  by_cases e:j=k
  ·rw[if_pos e]at hj;cases hj
  ·rw[if_neg e]at hj
   rw[if_neg fun h=>e h.symm]
   exact h.no j hj
 ·rw[XO]at hj hj'
  have key:∀j u,xK ms j=some u→j≠k→y8.b≠(row j).b:=fun j u hj hne=>by
   rcases hr8 with ⟨h1,h2⟩|h1
   ·rw[h2];exact (hyn j u hj hne h1).symm
   ·obtain ⟨_,_,_,_,_,h4,_⟩:=h.yes j u hj
    have:=h4.lt
    omega
  by_cases e:k=j
  ·subst e
   have e2:¬j'=k:=fun h=>hne h.symm
   rw[if_neg e2]at hj'
   simp only[if_pos,if_neg hne]
   exact key j' u' hj' e2
  ·rw[if_neg fun h=>e h.symm]at hj
   simp only[if_neg e]
   by_cases e2:k=j'
   ·subst e2
    simp only[if_pos]
    exact (key j u hj fun h=>e h.symm).symm
   ·rw[if_neg fun h=>e2 h.symm]at hj'
    simp only[if_neg e2]
    exact h.ne j j' u u' hj hj' hne
def Qb {α:Type} (T:Nat) (enc:α→Value) (w:World) (v:Value) (f:ByteArray→List α):Prop:=
 (v=.map none∧∀k,f k=[])∨∃b ms es ck,v=.map (some b)∧w.heap[b]? =some (.map (List.toArray es) ck)∧vA Value.string ms es ck∧(∀k u,xK ms k=some u→f k≠[]∧OS T 1 w u ((f k).map enc))∧∀k,xK ms k=none→f k=[]
theorem LM.lab {α:Type} {enc:α→Value} {f:ByteArray→List α} (h:LM T enc B w mb f):Qb T enc w (.map (some mb)) f:=by
 obtain ⟨ms,es,ck,row,h⟩:=h
 refine .inr ⟨mb,ms,es,ck,rfl,h.hm,h.hM,fun k u hk=>?_,h.no⟩
 obtain ⟨h1,p,c,h2,h3,h4,h5⟩:=h.yes k u hk
 exact ⟨h1,row k,p,_,c,h2,h3,fun _=>h4⟩
theorem Qb.mono {α:Type} {enc:α→Value} {f:ByteArray→List α} (h:Qb T enc w v f) (kr:∀b cs,Blk w b T cs→Blk w' b T cs) (km:∀(b:Nat) (es:Array MapEntry) (ck:Nat),w.heap[b]? =some (.map es ck)→w'.heap[b]? =some (.map es ck)):Qb T enc w' v f:=by
 rcases h with h|⟨b,ms,es,ck,h1,h2,h3,h4,h5⟩
 ·exact .inl h
 ·exact .inr ⟨b,ms,es,ck,h1,km _ _ _ h2,h3,fun k u hk=>⟨(h4 k u hk).1,(h4 k u hk).2.mono kr⟩,h5⟩
theorem Qb.congr {α:Type} {enc:α→Value} {f f':ByteArray→List α} (h:Qb T enc w v f) (e:∀k,f k=f' k):Qb T enc w v f':=by
 have:f=f':=funext e
 subst this;exact h
def fT (s:ku) (k:ByteArray):List ByteArray:=((s.texts.find? fun t=>t.key=k).map (·.list)).getD []
def fN (s:ku) (k:ByteArray):List Int:=((s.nums.find? fun t=>t.key=k).map (·.list)).getD []
theorem ZE.ft {es:List LE} (h:ZE es s) (k:ByteArray):Jw es k=fT s k:=by
 unfold fT
 cases hf:s.texts.find? fun t=>t.key=k with
 |some t=>
  have h1:=List.find?_some hf
  have h2:=List.mem_of_find?_eq_some hf
  simp only[decide_eq_true_eq]at h1
  rw[← h1];exact h.t t h2
 |none=>
  simp only[Option.map_none,Option.getD_none]
  unfold Jw
  rw[List.filterMap_eq_nil_iff]
  intro e he
  split
  ·next hk=>
   cases hv:e.2.1 with
   |none=>rfl
   |some v=>
    obtain ⟨t,ht,hte⟩:=List.mem_map.1 (h.tk e he v hv)
    have:=List.find?_eq_none.1 hf t ht
    simp only[decide_eq_true_eq]at this
    exact absurd (hte.trans hk) this
  ·rfl
theorem ZE.fn {es:List LE} (h:ZE es s) (k:ByteArray):Jx es k=fN s k:=by
 unfold fN
 cases hf:s.nums.find? fun t=>t.key=k with
 |some t=>
  have h1:=List.find?_some hf
  have h2:=List.mem_of_find?_eq_some hf
  simp only[decide_eq_true_eq]at h1
  rw[← h1];exact h.n t h2
 |none=>
  simp only[Option.map_none,Option.getD_none]
  unfold Jx
  rw[List.filterMap_eq_nil_iff]
  intro e he
  split
  ·next hk=>
   obtain ⟨t,ht,hte⟩:=List.mem_map.1 (h.nk e he hk.2)
   have:=List.find?_eq_none.1 hf t ht
   simp only[decide_eq_true_eq]at this
   exact absurd (hte.trans hk.1) this
  ·rfl
def idM (ids:List Int) (bs:List Nat):List (Int×Value):=ids.zip (bs.map ptr)
structure xC (w:World) (mb:Nat) (ids:List Int) (bs:List Nat):Prop where
 ex:∃es ck,w.heap[mb]? =some (.map (List.toArray es) ck)∧vA (Value.int .u64) (idM ids bs) es ck
theorem xC.keep (h:xC w mb ids bs) (k:∀es ck,w.heap[mb]? =some (.map es ck)→w'.heap[mb]? =some (.map es ck)):xC w' mb ids bs:=by
 obtain ⟨es,ck,h1,h2⟩:=h.ex
 exact ⟨es,ck,k _ _ h1,h2⟩
theorem QW (h:ids.length=bs.length):(idM ids bs).map (·.1)=ids:=by
 unfold idM;rw[List.map_fst_zip];simp;omega
theorem qhG {id:Int} (h:ids.length=bs.length):idM (ids++[id]) (bs++[b])=idM ids bs++[(id,ptr b)]:=by
 unfold idM
 rw[List.map_append,List.zip_append (by simpa using h)];rfl
theorem qcC {id:Int} (h:ids.length=bs.length) (hn:id∉ids):Jm (idM ids bs) id (ptr b)=idM (ids++[id]) (bs++[b]):=by
 rw[qhG h,qbh]
 rw[QW h];exact hn
theorem KR {κ:Type} [DecidableEq κ]:∀{ms:List (κ×Value)} {k:κ} {v:Value},(ms.map (·.1)).Nodup→(k,v)∈ms→xK ms k=some v
 |[],_,_,_,h=>by cases h
 |(k',u)::r,k,v,hn,h=>by
     rw[Jb]
     have hn':=List.nodup_cons.1 (by simpa using hn:(k'::r.map (·.1)).Nodup)
     rcases mC h with h|h
     ·cases h;simp
     ·have:¬k=k':=fun e=>hn'.1 (by rw[← e];exact mq (f:=(·.1)) h)
      have:¬k'=k:=fun e=>this e.symm
      first
       |rw[if_neg this];exact KR hn'.2 h
       |rw[if_neg ‹¬k=k'›];exact KR hn'.2 h
theorem qjy (hl:ids.length=bs.length) (h0:(0:Int)∉ids) (hn:ids.Nodup) (hz:z<ids.length):(xK (idM ids bs) (VB ids z)).getD (.pointer none)=qe bs z:=by
 unfold VB qe
 by_cases h:0≤z
 ·rw[if_pos h,if_pos h]
  have hk:z.toNat<ids.length:=by omega
  rw[List.getD_eq_getElem?_getD,gE hk,Option.getD_some]
  have hm:(ids[z.toNat],ptr bs[z.toNat])∈idM ids bs:=by
   have:(idM ids bs)[z.toNat]? =some (ids[z.toNat],ptr bs[z.toNat]):=by
    unfold idM
    rw[List.getElem?_zip_eq_some]
    exact ⟨gE hk,by rw[List.getElem?_map,gE ox];rfl⟩
   exact mG this
  rw[KR (by rw[QW hl];exact hn) hm,Option.getD_some,gE ox]
  rfl
 ·rw[if_neg h,if_neg h]
  have:xK (idM ids bs) 0=none:=JT.2 (by rw[QW hl];exact h0)
  rw[this];rfl
def KY (w:World) (locs:List Nat) (b:Nat) (s:ku):Prop:=∃ls vs lm nm iv xv,Blk w b kY [ls,vs,lm,nm,.map none,iv,xv]∧OS vD 1 w ls (s.stack.map (qe locs))∧OS qd 1 w vs (s.values.map (.int .i64))∧Qb qc .string w lm (fT s)∧Qb qd (.int .i64) w nm (fN s)∧scal iv=true∧scal xv=true
theorem KY.mono {locs:List Nat} (h:KY w locs b s) (k:∀cs,Blk w b kY cs→Blk w' b kY cs) (k1:∀b cs,Blk w b vD cs→Blk w' b vD cs) (k2:∀b cs,Blk w b qd cs→Blk w' b qd cs) (k3:∀b cs,Blk w b qc cs→Blk w' b qc cs) (km:∀(b:Nat) (es:Array MapEntry) (ck:Nat),w.heap[b]? =some (.map es ck)→w'.heap[b]? =some (.map es ck)):KY w' locs b s:=by
 obtain ⟨ls,vs,lm,nm,iv,xv,h1,h2,h3,h4,h5,h6⟩:=h
 exact ⟨ls,vs,lm,nm,iv,xv,k _ h1,h2.mono k1,h3.mono k2,h4.mono k3 km,h5.mono k2 km,h6⟩
def VR (B:Nat) (w:World) (b:Nat):Prop:=∃cs,Blk w b kY cs∧∀rb n c,cs[0]? =some (.slice (some ⟨rb,0,none⟩) n c)→B≤rb
theorem VR.mono (h:VR B w b) (k:∀cs,Blk w b kY cs→Blk w' b kY cs):VR B w' b:=by
 obtain ⟨cs,h1,h2⟩:=h
 exact ⟨cs,k _ h1,h2⟩
theorem qfc {v:World} {H:ko} {p:Option Addr} (hO:Own T sz y p l c xs) (hH:Hp ⟨v,0,W⟩ w H) {i:Nat} (hy:H[i]? =some y) (hT:W.all (fun t=> !Nat.beq t T)=true) (hs:B≤v.heap.size):∀rb n c',(Value.slice p l c::cs)[0]? =some (.slice (some ⟨rb,0,none⟩) n c')→B≤rb:=by
 intro rb n c' h
 cases Option.some.inj h
 rcases hO.sl.2.2 with ⟨h1,h2, -⟩|⟨-,h2, -⟩
 ·cases h2
  rcases hH.may (mG hy) h1 hO.hw with h|⟨-,h⟩
  ·exact Nat.le_trans hs h
  ·rw[hO.hT]at h;exact absurd h (vd hT)
 ·cases h2
def qaJ (B:Nat) (w:World) (locs:List Nat) (b:Nat) (s:ku):Prop:=KY w locs b s∧VR B w b
theorem qaJ.mono {locs:List Nat} (h:qaJ B w locs b s) (k:∀cs,Blk w b kY cs→Blk w' b kY cs) (k1:∀b cs,Blk w b vD cs→Blk w' b vD cs) (k2:∀b cs,Blk w b qd cs→Blk w' b qd cs) (k3:∀b cs,Blk w b qc cs→Blk w' b qc cs) (km:∀(b:Nat) (es:Array MapEntry) (ck:Nat),w.heap[b]? =some (.map es ck)→w'.heap[b]? =some (.map es ck)):qaJ B w' locs b s:=⟨h.1.mono k k1 k2 k3 km,h.2.mono k⟩
def ZD (B:Nat) (w:World) (g:G) (b:Nat) (l:vP):Prop:=∃p c,Blk w b qH (KB g.maps l (.slice p l.lines.length c))∧Rw (LP B g.locs b) kq 3 w p l.lines.length c (l.lines.flatMap (qk g.funs))
theorem ZD.mono {l:vP} (h:ZD B w g b l) (k:∀cs,Blk w b qH cs→Blk w' b qH cs) (k2:∀r cs,LP B g.locs b r→Blk w r kq cs→Blk w' r kq cs):ZD B w' g b l:=by
 obtain ⟨p,c,h1,h2⟩:=h
 exact ⟨p,c,k _ h1,h2.mono fun r cs hr hk=>⟨k2 r cs hr hk,hr⟩⟩
theorem ZD.p {l:vP} (h:ZD B w g b l):ZS w g.maps g.funs b l:=by
 obtain ⟨p,c,h1,h2⟩:=h
 exact ⟨_,h1,h2.os⟩
structure QS (B:Nat) (w0:World) (T:List ByteArray) (x:jD) (g:G) (n1 n2 n3 n4 n5:Nat) (w:World):Prop where
 fr:Fr B wP w0 w
 pt:Pg n1 g.types x.types (φT w) (rVT T w)
 ps:Pg n2 g.sams x.samples (qaJ B w g.locs) (rSm x T (fun b=>B≤b) w)
 pm:Pg n3 g.maps x.mappings (φM w) (rMp T w)
 pl:Pg n4 g.locs x.locs (ZD B w g) (fun b l=>rLc x (LP B g.locs b) w b l)
 pf:Pg n5 g.funs x.funcs (φF w) (rFn T w)
 pe:∀cs,g.per∉g.types→Blk w0 g.per tVT cs→Blk w g.per tVT cs
theorem QS.keep {T:List ByteArray} {x:jD} {n2:Nat} (h:QS B w0 T x g n1 n2 n3 n4 n5 w) (k:jv [] w w'):QS B w0 T x g n1 n2 n3 n4 n5 w':=by
 have kb:∀(T:Nat) b cs,Blk w b T cs→Blk w' b T cs:=fun T b cs hb=>k.blk hb zp
 have km:∀(b:Nat) (es:Array MapEntry) (ck:Nat),w.heap[b]? =some (.map es ck)→w'.heap[b]? =some (.map es ck):=fun b es ck hb=>k.keep _ _ hb zp
 exact ⟨frK h.fr k zp,h.pt.mono (fun b x hh=>kb _ _ _ hh) (fun b x hh=>hh.mono (kb _ _)),
  h.ps.mono (fun b x hh=>hh.mono (kb _ _) (kb _) (kb _) (kb _) km) (fun b x hh=>hh.mono (kb _ _) (fun b cs hb hk=>⟨kb _ _ _ hk,hb⟩) (fun b cs hb hk=>⟨kb _ _ _ hk,hb⟩) (fun b cs hb hk=>⟨kb _ _ _ hk,hb⟩)),
  h.pm.mono (fun b x hh=>kb _ _ _ hh) (fun b x hh=>hh.mono (kb _ _)),h.pl.mono (fun b x hh=>hh.mono (kb _ _) fun r cs _=>kb _ r cs) (fun b x hh=>hh.mono (kb _ _) (fun b cs hb hk=>⟨kb _ _ _ hk,hb⟩)),
  h.pf.mono (fun b x hh=>kb _ _ _ hh) (fun b x hh=>hh.mono (kb _ _)),fun cs hn hb=>kb _ _ _ (h.pe cs hn hb)⟩
theorem QS.init {T:List ByteArray} {x:jD} {vp:Value} (h:VC B T x g vp w0) (k:Fr 0 [] w0 w):QS B w0 T x g 0 0 0 0 0 w:=
 QS.keep (w:=w0) ⟨Fr.refl _ _ _,fun i b y hb hy=>⟨fun h=>by omega,fun _=>h.types.2 i b y hb hy⟩,fun i b y hb hy=>⟨fun h=>by omega,fun _=>h.sams.2 i b y hb hy⟩,fun i b y hb hy=>⟨fun h=>by omega,fun _=>h.maps.2 i b y hb hy⟩,fun i b y hb hy=>⟨fun h=>by omega,fun _=>h.locs.2 i b y hb hy⟩,fun i b y hb hy=>⟨fun h=>by omega,fun _=>h.funs.2 i b y hb hy⟩,fun _ _ hb=>hb⟩ (jv.of k)
def Tn (w0 u:World) (b:Nat) (L:List Nat):Prop:=∀c∈L,c=b∨(w0.heap.size≤c∧∃es ck,u.heap[c]? =some (.map es ck))
theorem Tn.other {Tc:Nat} (h:Tn w0 u b L) (hbk:Blk u b Tc cs) (k:jv L u w'):∀T0,T0≠Tc→∀c ds,Blk u c T0 ds→Blk w' c T0 ds:=fun T0 hT c ds hc=>k.blk hc fun hm=>by
 rcases h c hm with rfl|⟨-,es,ck,hmap⟩
 ·exact (hc.ne hbk hT) rfl
 ·have h1:u.heap[c]? =some (.cells ds.toArray T0 (0,0)):=hc
  rw[hmap]at h1;cases h1
theorem Tn.same {Tc:Nat} (h:Tn w0 u b L) (k:jv L u w'):∀c ds,c≠b→Blk u c Tc ds→Blk w' c Tc ds:=fun c ds hne hc=>k.blk hc fun hm=>by
 rcases h c hm with rfl|⟨-,es,ck,hmap⟩
 ·exact hne rfl
 ·have h1:u.heap[c]? =some (.cells ds.toArray Tc (0,0)):=hc
  rw[hmap]at h1;cases h1
theorem Tn.fr {Tc:Nat} (h:Tn w0 u b L) (hf:Fr B wP w0 u) (hbk:Blk u b Tc cs) (hB:B≤b) (hT:Tc∈wP) (k:jv L u w'):Fr B wP w0 w':=frK hf k fun c hc=>by
 rcases h c hc with rfl|⟨h1, -⟩
 ·exact .inr ⟨hB,yE hbk hT⟩
 ·exact .inl h1
theorem QS.s1 {T:List ByteArray} {x:jD} {t:xn} (h:QS B w0 T x g n1 0 n3 n4 n5 u) (hn:g.types.Nodup) (hb:g.types[n1]? =some b) (hx:x.types[n1]? =some t) (hB:B≤b) (hbk:Blk u b tVT cs) (k:jv L u w') (hL:Tn w0 u b L) (hφ:φT w' b t):QS B w0 T x g (n1+1) 0 n3 n4 n5 w':=by
 have kO:=hL.other hbk k
 have kS:=hL.same (Tc:=tVT) k
 exact ⟨hL.fr h.fr hbk hB dq k,h.pt.step hn hb hx (fun c y hne hh=>kS _ _ hne hh) (fun c y hne hh=>hh.mono fun cs=>kS _ cs hne) hφ,fun i c y hc hy=>⟨fun hi=>by omega,fun hi=>((h.ps i c y hc hy).2 hi).mono (kO _ dq _) (fun b cs hb hk=>⟨kO _ dq _ _ hk,hb⟩) (fun b cs hb hk=>⟨kO _ dq _ _ hk,hb⟩) (fun b cs hb hk=>⟨kO _ dq _ _ hk,hb⟩)⟩,h.pm.mono (fun c y hh=>kO _ dq _ _ hh) (fun c y hh=>hh.mono (kO _ dq _)),
  h.pl.mono (fun c y hh=>hh.mono (kO _ dq _) fun r cs _=>kO _ dq r cs) (fun c y hh=>hh.mono (kO _ dq _) (fun b cs hb hk=>⟨kO _ dq _ _ hk,hb⟩)),h.pf.mono (fun c y hh=>kO _ dq _ _ hh) (fun c y hh=>hh.mono (kO _ dq _)),fun cs hn' hb'=>kS _ _ (fun e=>hn' (e▸mG hb)) (h.pe cs hn' hb')⟩
theorem QS.s3 {T:List ByteArray} {x:jD} {t:qK} (h:QS B w0 T x g n1 0 n3 n4 n5 u) (hn:g.maps.Nodup) (hb:g.maps[n3]? =some b) (hx:x.mappings[n3]? =some t) (hB:B≤b) (hbk:Blk u b vO cs) (k:jv L u w') (hL:Tn w0 u b L) (hφ:φM w' b t):QS B w0 T x g n1 0 (n3+1) n4 n5 w':=by
 have kO:=hL.other hbk k
 have kS:=hL.same (Tc:=vO) k
 exact ⟨hL.fr h.fr hbk hB dq k,h.pt.mono (fun c y hh=>kO _ dq _ _ hh) (fun c y hh=>hh.mono (kO _ dq _)),fun i c y hc hy=>⟨fun hi=>by omega,fun hi=>((h.ps i c y hc hy).2 hi).mono (kO _ dq _) (fun b cs hb hk=>⟨kO _ dq _ _ hk,hb⟩) (fun b cs hb hk=>⟨kO _ dq _ _ hk,hb⟩) (fun b cs hb hk=>⟨kO _ dq _ _ hk,hb⟩)⟩,h.pm.step hn hb hx (fun c y hne hh=>kS _ _ hne hh) (fun c y hne hh=>hh.mono fun cs=>kS _ cs hne) hφ,
  h.pl.mono (fun c y hh=>hh.mono (kO _ dq _) fun r cs _=>kO _ dq r cs) (fun c y hh=>hh.mono (kO _ dq _) (fun b cs hb hk=>⟨kO _ dq _ _ hk,hb⟩)),h.pf.mono (fun c y hh=>kO _ dq _ _ hh) (fun c y hh=>hh.mono (kO _ dq _)),fun cs hn' hb'=>kO _ dq _ _ (h.pe cs hn' hb')⟩
theorem QS.s5 {T:List ByteArray} {x:jD} {t:yl} (h:QS B w0 T x g n1 0 n3 n4 n5 u) (hn:g.funs.Nodup) (hb:g.funs[n5]? =some b) (hx:x.funcs[n5]? =some t) (hB:B≤b) (hbk:Blk u b xi cs) (k:jv L u w') (hL:Tn w0 u b L) (hφ:φF w' b t):QS B w0 T x g n1 0 n3 n4 (n5+1) w':=by
 have kO:=hL.other hbk k
 have kS:=hL.same (Tc:=xi) k
 exact ⟨hL.fr h.fr hbk hB dq k,h.pt.mono (fun c y hh=>kO _ dq _ _ hh) (fun c y hh=>hh.mono (kO _ dq _)),fun i c y hc hy=>⟨fun hi=>by omega,fun hi=>((h.ps i c y hc hy).2 hi).mono (kO _ dq _) (fun b cs hb hk=>⟨kO _ dq _ _ hk,hb⟩) (fun b cs hb hk=>⟨kO _ dq _ _ hk,hb⟩) (fun b cs hb hk=>⟨kO _ dq _ _ hk,hb⟩)⟩,h.pm.mono (fun c y hh=>kO _ dq _ _ hh) (fun c y hh=>hh.mono (kO _ dq _)),
  h.pl.mono (fun c y hh=>hh.mono (kO _ dq _) fun r cs _=>kO _ dq r cs) (fun c y hh=>hh.mono (kO _ dq _) (fun b cs hb hk=>⟨kO _ dq _ _ hk,hb⟩)),h.pf.step hn hb hx (fun c y hne hh=>kS _ _ hne hh) (fun c y hne hh=>hh.mono fun cs=>kS _ cs hne) hφ,fun cs hn' hb'=>kO _ dq _ _ (h.pe cs hn' hb')⟩
theorem QS.s4 {T:List ByteArray} {x:jD} {rb:Nat} {t:vP} (h:QS B w0 T x g n1 0 n3 n4 n5 u) (hn:g.locs.Nodup) (hb:g.locs[n4]? =some b) (hx:x.locs[n4]? =some t) (hB:B≤b) (hbk:Blk u b qH cs) (hrow:∀c∈L,c≠b→(w0.heap.size≤c∧∃es ck,u.heap[c]? =some (.map es ck))∨(c=rb∧(∃ds,Blk u c kq ds)∧B≤c∧b≤c∧∀b'∈g.locs,b<b'→c<b')) (k:jv L u w')
  (hφ:ZD B w' g b t):QS B w0 T x g n1 0 n3 (n4+1) n5 w':=by
 have kO:∀T0,T0≠qH→T0≠kq→∀c ds,Blk u c T0 ds→Blk w' c T0 ds:=fun T0 h1 h2 c ds hc=>k.blk hc fun hm=>by
  by_cases e:c=b
  ·subst e;exact (hc.ne hbk h1) rfl
  ·rcases hrow c hm e with ⟨-,es,ck,hmap⟩|⟨-,⟨ds',hd⟩, -⟩
   ·have h3:u.heap[c]? =some (.cells ds.toArray T0 (0,0)):=hc
    rw[hmap]at h3;cases h3
   ·exact (hc.ne hd h2) rfl
 have kS:∀c ds,c≠b→Blk u c qH ds→Blk w' c qH ds:=fun c ds hne hc=>k.blk hc fun hm=>by
  rcases hrow c hm hne with ⟨-,es,ck,hmap⟩|⟨-,⟨ds',hd⟩, -⟩
  ·have h3:u.heap[c]? =some (.cells ds.toArray qH (0,0)):=hc
   rw[hmap]at h3;cases h3
  ·exact (hc.ne hd dq) rfl
 refine ⟨frK h.fr k fun c hc=>?_,h.pt.mono (fun c y hh=>kO _ dq dq _ _ hh) (fun c y hh=>hh.mono (kO _ dq dq _)),fun i c y hc hy=>⟨fun hi=>by omega,fun hi=>((h.ps i c y hc hy).2 hi).mono (kO _ dq dq _) (fun b cs hb hk=>⟨kO _ dq dq _ _ hk,hb⟩) (fun b cs hb hk=>⟨kO _ dq dq _ _ hk,hb⟩) (fun b cs hb hk=>⟨kO _ dq dq _ _ hk,hb⟩)⟩,h.pm.mono (fun c y hh=>kO _ dq dq _ _ hh) (fun c y hh=>hh.mono (kO _ dq dq _)),fun i c y hc hy=>?_,h.pf.mono (fun c y hh=>kO _ dq dq _ _ hh) (fun c y hh=>hh.mono (kO _ dq dq _)),fun cs hn' hb'=>kO _ dq dq _ _ (h.pe cs hn' hb')⟩
 ·by_cases e:c=b
  ·subst e;exact .inr ⟨hB,yE hbk dq⟩
  ·rcases hrow c hc e with ⟨h1, -⟩|⟨-,⟨ds',hd⟩,h1, -⟩
   ·exact .inl h1
   ·exact .inr ⟨h1,yE hd dq⟩
 ·have key:i≠n4→c≠b∧∀r ds,LP B g.locs c r→Blk u r kq ds→Blk w' r kq ds:=fun hi=>by
   have hne:c≠b:=fun e=>by
    subst e
    have l1:=(List.getElem?_eq_some_iff.1 hc).1
    have l2:=(List.getElem?_eq_some_iff.1 hb).1
    rw[gE l1]at hc
    rw[gE l2]at hb
    exact hi (zN hn l1 l2 (by simp at hc hb;rw[hc,hb]))
   refine ⟨hne,fun r ds hr hk=>k.blk hk fun hm=>?_⟩
   by_cases e:r=b
   ·subst e;exact (hk.ne hbk dq) rfl
   ·rcases hrow r hm e with ⟨-,es,ck,hmap⟩|⟨-, -, -,h4,h5⟩
    ·have h3:u.heap[r]? =some (.cells ds.toArray kq (0,0)):=hk
     rw[hmap]at h3;cases h3
    ·obtain ⟨-,h6,h7⟩:=hr
     rcases Nat.lt_trichotomy b c with h8|h8|h8
     ·have:=h5 c (mG hc) h8;omega
     ·exact hne h8.symm
     ·have:=h7 b (mG hb) h8;omega
  refine ⟨fun hi=>?_,fun hi=>?_⟩
  ·by_cases e:i=n4
   ·subst e
    rw[hb]at hc;rw[hx]at hy
    cases hc;cases hy
    exact hφ
   ·obtain ⟨hne,hr⟩:=key e
    exact ((h.pl i c y hc hy).1 ox).mono (fun cs=>kS _ cs hne) hr
  ·obtain ⟨hne,hr⟩:=key ox
   exact ((h.pl i c y hc hy).2 ox).mono (fun cs=>kS _ cs hne) fun r ds h1 h2=>⟨hr r ds h1 h2,h1⟩
theorem QS.s2 {T:List ByteArray} {x:jD} {n2:Nat} {t:ku} (h:QS B w0 T x g n1 n2 n3 n4 n5 u) (hn:g.sams.Nodup) (hb:g.sams[n2]? =some b) (hx:x.samples[n2]? =some t) (hB:B≤b) (hbk:Blk u b kY cs) (k:jv [b] u w') (hφ:qaJ B w' g.locs b t):QS B w0 T x g n1 (n2+1) n3 n4 n5 w':=by
 have kO:∀T0,T0≠kY→∀c ds,Blk u c T0 ds→Blk w' c T0 ds:=fun T0 hT c ds hc=>k.blk hc (by simpa using hc.ne hbk hT)
 have km:∀(c:Nat) (es:Array MapEntry) (ck:Nat),u.heap[c]? =some (.map es ck)→w'.heap[c]? =some (.map es ck):=fun c es ck hc=>k.keep _ _ hc fun hm=>by
  simp at hm
  subst hm
  have h1:u.heap[c]? =some (.cells cs.toArray kY (0,0)):=hbk
  rw[hc]at h1;cases h1
 have kS:∀c ds,c≠b→Blk u c kY ds→Blk w' c kY ds:=fun c ds hne hc=>k.blk hc (by simpa using hne)
 exact ⟨frK h.fr k fun c hc=>by simp at hc;subst hc;exact .inr ⟨hB,yE hbk dq⟩,h.pt.mono (fun c y hh=>kO _ dq _ _ hh) (fun c y hh=>hh.mono (kO _ dq _)),
  h.ps.step hn hb hx (fun c y hne hh=>hh.mono (fun cs=>kS _ cs hne) (kO _ dq) (kO _ dq) (kO _ dq) km) (fun c y hne hh=>hh.mono (fun cs=>kS _ cs hne) (fun b cs hb hk=>⟨kO _ dq _ _ hk,hb⟩) (fun b cs hb hk=>⟨kO _ dq _ _ hk,hb⟩) (fun b cs hb hk=>⟨kO _ dq _ _ hk,hb⟩)) hφ,
  h.pm.mono (fun c y hh=>kO _ dq _ _ hh) (fun c y hh=>hh.mono (kO _ dq _)),h.pl.mono (fun c y hh=>hh.mono (kO _ dq _) fun r cs _=>kO _ dq r cs) (fun c y hh=>hh.mono (kO _ dq _) (fun b cs hb hk=>⟨kO _ dq _ _ hk,hb⟩)),
  h.pf.mono (fun c y hh=>kO _ dq _ _ hh) (fun c y hh=>hh.mono (kO _ dq _)),fun cs hn' hb'=>kO _ dq _ _ (h.pe cs hn' hb')⟩
end Go.Proofs.YtifdadlhmlhfiaaGreatDoor
namespace Go.Fw
open Go
variable {y:Ent} {W:List Nat} {xs:List Value} {T c j l o sz:Nat} {p:Option Addr} {v:Value}
section
variable {P:Program} {c:Code} {Q:Exit→Act→World→Prop} {n:Nat} {e:Env}
theorem CJ.turnW {ws:World} {H:ko} (hH:Hp ⟨ws,0,W⟩ ws H) (h:CJ P c Q n ⟨ws,0,W⟩ e H):CJ P c Q n ⟨ws,0,[]⟩ e []:=fun w _ hf=>h w (hH.fr hf) (hf.quiet 0 W)
end
theorem Kq {w w1:World} {B:Nat} {W1:List Nat} {b:Nat} {k:Nat} (hF:Fr B W w w1) (hW:W.all (fun t=> !Nat.beq t T)=true) (hW1:W1.all (fun t=> !Nat.beq t T)=true) (hc:∀f:Fm,f.ws=w→f.W.all (fun t=> !Nat.beq t T)=true→∀w',f.ok w'→∀(j:Nat) (u:Value),xs[j]? =some u→w'.cell? ⟨b,j,none⟩=some u) (hv:xs[k]? =some v):
  ∀w',Fm.ok ⟨w1,0,W1⟩ w'→∀(j:Nat) (u:Value),[v][j]? =some u→w'.cell? ⟨b,0+k*1+j,none⟩=some u:=fun w' kp j u hu=>by
 cases j with
 |zero=>
  simp at hu;subst hu
  have h1:Fm.ok ⟨w,0,W++W1⟩ w':=Fr.trans (hF.mono (.inr ⟨Nat.zero_le _,fun _ h=>List.mem_append_left _ h⟩)) (Fr.mono kp (B':=0) (W':=W++W1) (.inr ⟨Nat.le_refl _,fun _ h=>List.mem_append_right _ h⟩)) (.inr ⟨Nat.le_refl _,fun _ h=>h⟩)
  simpa using hc ⟨w,0,W++W1⟩ rfl (by simp only[List.all_append,hW,hW1,Bool.and_self]) w' h1 k v hv
 |succ j=>simp at hu
theorem qgC {cs:List Value} (h:o<cs.length):(kH cs o [v])[j]? =if j=o then some v else cs[j]? :=by
 have:kH cs o [v]=cs.set o v:=by
  simp only[kH]
 rw[this,List.getElem?_set]
 by_cases e:o=j
 ·subst e;simp[h]
 ·rw[if_neg e,if_neg (Ne.symm e)]
theorem Own.put (h:Own T sz y p l c xs) (ho:o<xs.length):Own T sz ⟨y.b,y.T,kH y.cs o [v],true,true,none⟩ p l c (xs.set o v):=by
 obtain ⟨h1,h2,h3⟩:=h.sl
 have hl:0<l:=by
  rcases Nat.eq_zero_or_pos l with e|e
  ·subst e;simp at h1;rw[h1]at ho;simp at ho
  ·exact e
 rcases h3 with ⟨h4,h5,⟨ex,h6⟩,h7⟩|⟨h4, -,h7⟩
 ·have hs:kH y.cs o [v]=xs.set o v++ex:=by
   have:kH y.cs o [v]=y.cs.set o v:=by simp only[kH]
   rw[this,h6,List.set_append_left _ _ ho]
  exact ⟨h.hT,rfl,rfl,by simpa using h1,h2,.inl ⟨rfl,h5,⟨ex,hs⟩,by rw[hs,lA,List.length_set, ← lA, ← h6];exact h7⟩⟩
 ·omega
theorem Own.at_ (h:Own T sz y p l c xs) {u:Value} (hj:xs[j]? =some u):y.on=true∧p=some ⟨y.b,0,none⟩∧y.cs[j]? =some u:=by
 have hl:=(List.getElem?_eq_some_iff.1 hj).1
 obtain ⟨h1,h2,h3⟩:=h.sl
 rcases h3 with ⟨h4,h5,⟨ex,h6⟩,h7⟩|⟨h4, -,h7⟩
 ·exact ⟨h4,h5,by rw[h6,aq hl];exact hj⟩
 ·subst h7;have:l=0:=by omega
  subst this;simp at h1;rw[h1]at hl;simp at hl
end Go.Fw
namespace Go.Proofs.YtifdadlhmlhfiaaGreatDoor
open Go Go.Fw Go.Proofs Go.Proofs.Tryz
variable {y:Ent} {z:Int} {ids:List Int} {bs funs:List Nat} {b j mb:Nat} {w w':World}
theorem xC.step {k:Nat} {id:Int} (hl:bs.length=ids.length) (hn:ids.Nodup) (hi:ids[k]? =some id) (hb:bs[k]? =some b) {es':List MapEntry} {ck':Nat} (hm:w'.heap[mb]? =some (.map es'.toArray ck')) (hM:vA (Value.int .u64) (Jm (idM (ids.take k) (bs.take k)) id (ptr b)) es' ck'):xC w' mb (ids.take (k+1)) (bs.take (k+1)):=by
 have hk:=(List.getElem?_eq_some_iff.1 hi).1
 have hkb:=(List.getElem?_eq_some_iff.1 hb).1
 rw[qcC (by simp[hl]) (fun hm=>by
  obtain ⟨j,hj,e⟩:=List.mem_take_iff_getElem.1 hm
  have h1:=(List.getElem?_eq_some_iff.1 hi).2
  have:=zN hn ox hk (e.trans h1.symm)
  omega)]at hM
 refine ⟨es',ck',hm,?_⟩
 rw[← tG hk, ← tG hkb,(List.getElem?_eq_some_iff.1 hi).2,(List.getElem?_eq_some_iff.1 hb).2]
 exact hM
theorem xC.lt (h:xC w mb ids bs):mb<w.heap.size:=by
 obtain ⟨es,ck,h1, -⟩:=h.ex
 exact (Array.getElem?_eq_some_iff.1 h1).1
theorem xC.other {L:List Nat} (h:xC w mb ids bs) (k:jv L w w') (hL:mb∉L):xC w' mb ids bs:=h.keep fun es ck hm=>k.keep _ _ hm hL
theorem xC.neB {T:Nat} {cs:List Value} (h:xC w mb ids bs) (hb:Blk w b T cs):mb≠b:=fun e=>by
 obtain ⟨es,ck,h1, -⟩:=h.ex
 have h2:w.heap[b]? =some (.cells cs.toArray T (0,0)):=hb
 rw[← e,h1]at h2;cases h2
theorem xC.has (h:xC w mb ids bs) (hl:ids.length=bs.length) (h0:(0:Int)∉ids) (hn:ids.Nodup) (hz:z<ids.length):ZC (Value.int .u64) mb (VB ids z) (.pointer none) (qe bs z) w:=by
 obtain ⟨es,ck,h1,h2⟩:=h.ex
 exact ⟨_,es,ck,h1,h2,qjy hl h0 hn hz⟩
section
variable {ops:Array Oper} {Q:Exit→Act→World→Prop} {n:Nat} {f:Fm} {e:Env} {H:ko} {rest:List Oper} {d ty:Nat} {pos:String} {af:Array Edge}
theorem QV {t:Nat} {x z:Operand} {o:Nat} {v:Value} (i:Nat) (hy:H[i]? =some y) (ho:y.on=true) (hob:y.ob=none) (hwr:y.wr=true) (hsz:∀w,(sizeOf t).run Tryz.prog w=.ok 1 w) (hx:ev e x=some (.pointer (some ⟨y.b,o,none⟩))) (hz:ev e z=some v) (hc:v.cells= #[v]) (hs:scal v=true) (hl:o<y.cs.length)
  (k:J Tryz.prog ops Q n f e (yn H i ⟨y.b,y.T,kH y.cs o [v],true,true,none⟩) rest):J Tryz.prog ops Q n f e H (⟨none,.store t x z,ty,pos,af,none⟩::rest):=by
 refine vj i hy ho hob hwr hsz hx hz (by rw[hc];rfl) (by rw[hc];simp[hs]) (by rw[hc];exact Nat.ble_eq_true_of_le (show o+1≤y.cs.length from hl)) ?_
 rw[hc,QL hy,hwr,ho,hob]
 exact k
theorem qbm {args:Array Operand} {tys:Array TypeId} {off:Nat} {m:Int} {s:ByteArray} {T:List ByteArray} {tv:Value} (i:Nat) (hy:H[i]? =some y) (ho:y.on=true) (hob:y.ob=none) (hwr:y.wr=true) (hcs:y.cs[off]? =some (.int .i64 m)) (hn:At T m s) (ht:∀w,Hp f w H→f.ok w→OS qc 1 w tv (T.map .string)) (hTS:Nat.beq y.T qc=false) (hl:T.length≤1000000000)
  (hargs:evL e args.toList=some [tv,.pointer (some ⟨y.b,off,none⟩),.nilIface]) (hd:Nat.blt d n=true)
  (k:J Tryz.prog ops Q n f ((d,.tuple #[.string s,.nilIface])::e) (yn H i ⟨y.b,y.T,kH y.cs off [.int .i64 0],true,true,none⟩) rest):
  J Tryz.prog ops Q n f e H (⟨some d,.call ⟨.value (.func 106),args,tys⟩,ty,pos,af,none⟩::rest):=
 YH (φ:=fun v cs'=>v=.tuple #[.string s,.nilIface]∧cs'=kH y.cs off [.int .i64 0]) i hy ho hob hwr Tryz.call106 hargs hd
  (fun w hH hf=>Calls.mono (qcD w y.b y.T off y.cs T m s tv (hH.get hy ho) hcs hn (ht w hH hf) hTS hl) (Ret.mono fun _ _ h=>⟨_,⟨h.1,rfl⟩,h.2.1,h.2.2⟩))
  fun v cs' ⟨h1,h2⟩=>by subst h1;subst h2;exact k
theorem Jf {args:Array Operand} {tys:Array TypeId} {off:Nat} {m:Int} {s:ByteArray} {T:List ByteArray} {tv:Value} (i:Nat) (hy:H[i]? =some y) (ho:y.on=true) (hob:y.ob=none) (hwr:y.wr=true) (hcs:y.cs[off]? =some (.int .i64 m)) (hn:At T m s) (ht:OS qc 1 f.ws tv (T.map .string)) (hW:f.W.all (fun t=> !Nat.beq t qc)=true) (hTS:Nat.beq y.T qc=false) (hl:T.length≤1000000000)
  (hargs:evL e args.toList=some [tv,.pointer (some ⟨y.b,off,none⟩),.nilIface]) (hd:Nat.blt d n=true)
  (k:J Tryz.prog ops Q n f ((d,.tuple #[.string s,.nilIface])::e) (yn H i ⟨y.b,y.T,kH y.cs off [.int .i64 0],true,true,none⟩) rest):
  J Tryz.prog ops Q n f e H (⟨some d,.call ⟨.value (.func 106),args,tys⟩,ty,pos,af,none⟩::rest):=
 qbm i hy ho hob hwr hcs hn (fun _ _ hf=>ht.mono fun _ _ hb=>kC hf hb hW) hTS hl hargs hd k
end
def QD (x:jD) (funs:List Nat) (ls:List vz) (j:Nat):List Value:=(ls.take j).flatMap (qk funs)++(ls.drop j).flatMap (Xa x)
theorem qgb (funs:List Nat) (ls:List vz):(ls.flatMap (qk funs)).length=ls.length*3:=by
 induction ls with
 |nil=>rfl
 |cons a r ih=>rw[List.flatMap_cons,lA,ih,List.length_cons];simp[qk];omega
theorem qfp {x:jD} {ls:List vz}:QD x funs ls 0=ls.flatMap (Xa x):=by simp[QD]
theorem qfq {x:jD} {ls:List vz} (h:ls.length≤j):QD x funs ls j=ls.flatMap (qk funs):=by
 unfold QD;rw[tL h,List.drop_eq_nil_of_le h];simp
theorem VX {x:jD} {ls:List vz} (h:j<ls.length):QD x funs ls j=(ls.take j).flatMap (qk funs)++(Xa x ls[j]++(ls.drop (j+1)).flatMap (Xa x)):=by
 unfold QD;rw[List.drop_eq_getElem_cons h,List.flatMap_cons]
theorem qaq {x:jD} {ls:List vz} (h:j<ls.length):QD x funs ls (j+1)=(ls.take j).flatMap (qk funs)++(qk funs ls[j]++(ls.drop (j+1)).flatMap (Xa x)):=by
 unfold QD;rw[← tG h,List.flatMap_append];simp
theorem KT {ls:List vz} (h:j<ls.length):((ls.take j).flatMap (qk funs)).length=j*3:=by
 rw[qgb,List.length_take,Nat.min_eq_left (Nat.le_of_lt h)]
theorem qhd {x:jD} {ls:List vz} {i:Nat} {u:Value} (h:j<ls.length) (hu:(Xa x ls[j])[i]? =some u):(QD x funs ls j)[j*3+i]? =some u:=by
 have hi:=(List.getElem?_eq_some_iff.1 hu).1
 rw[VX h,List.getElem?_append_right (by rw[KT h];omega),KT h,aq ox,Nat.add_sub_cancel_left]
 exact hu
theorem qhc {x:jD} {ls:List vz} (h:j<ls.length):((QD x funs ls j).set (j*3) (qe funs ls[j].fn)).set (j*3+2) (.int .u64 0)=QD x funs ls (j+1):=by
 rw[VX h,qaq h,List.set_append_right _ _ (by rw[KT h];omega),KT h,Nat.sub_self,List.set_append_right _ _ (by rw[KT h];omega),KT h,Nat.add_sub_cancel_left]
 rfl
theorem qap {x:jD} {ls:List vz} (h:j<ls.length) (h0:(0:Int)∉x.funcs.map (·.id)) (hf:ls[j].fn<x.funcs.length) (hz:fnid x ls[j].fn=0):QD x funs ls j=QD x funs ls (j+1):=by
 rw[VX h,qaq h]
 have hn:¬(0≤ls[j].fn):=fun hp=>by
  unfold fnid VB at hz
  rw[if_pos hp,List.getD_eq_getElem?_getD,gE (by simp;omega),Option.getD_some]at hz
  exact h0 (hz▸List.getElem_mem _)
 have e1:Xa x ls[j]=qk funs ls[j]:=by
  unfold Xa qk qe
  rw[if_neg hn,hz]
 rw[e1]
theorem qlH {x:jD} (hz:fnid x z≠0):0≤z:=by
 rcases Int.lt_or_le z 0 with h|h
 ·exact absurd (by unfold fnid VB;rw[if_neg ox]) hz
 ·exact h
theorem XJ (h0:0≤z) (h:z<bs.length):∃b,qe bs z=ptr b:=⟨bs[z.toNat]' ox,by unfold qe;rw[if_pos h0,gE ox];rfl⟩
end Go.Proofs.YtifdadlhmlhfiaaGreatDoor
