/-
  Part 2 of the proof. Conditions: as each lemma states them.
-/
import Derived.Test.YtifdadlhmlhfiaaGreatDoorX1
namespace Go.Fw
open Go
variable {k n:Nat}
theorem qcS {t:Nat} (hk:k<1048576) (ht:t<8):IntKind.u64.wrap ((BitVec.ofInt 64 ((8*k:Nat):Int)|||BitVec.ofInt 64 (t:Int)).toNat:Nat)=((8*k+t:Nat):Int):=by
 have h1:(BitVec.ofInt 64 ((8*k:Nat):Int)).toNat=8*k:=by
  rw[BitVec.ofInt_natCast,BitVec.toNat_ofNat];exact Nat.mod_eq_of_lt ox
 have h2:(BitVec.ofInt 64 (t:Int)).toNat=t:=by
  rw[BitVec.ofInt_natCast,BitVec.toNat_ofNat];exact Nat.mod_eq_of_lt ox
 rw[BitVec.toNat_or,h1,h2]
 have h3:=Nat.two_pow_add_eq_or_of_lt (i:=3) (b:=t) ox k
 have h4:8*k|||t=8*k+t:=by simpa using h3.symm
 rw[h4]
 simp[IntKind.wrap,IntKind.bits,IntKind.signed];omega
set_option maxRecDepth 20000 in
theorem or128:∀x:Fin 256,(x.val|||128)=x.val%128+128:=by decide
theorem qgd (n:Nat):IntKind.u8.wrap ((BitVec.ofInt 8 (IntKind.u8.wrap (n:Int))|||BitVec.ofInt 8 128).toNat:Nat)=((n%128+128:Nat):Int):=by
 have h0:IntKind.u8.wrap (n:Int)=((n%256:Nat):Int):=by simp[IntKind.wrap,IntKind.bits,IntKind.signed]
 have h1:(BitVec.ofInt 8 ((n%256:Nat):Int)).toNat=n%256:=by
  rw[BitVec.ofInt_natCast,BitVec.toNat_ofNat];exact Nat.mod_eq_of_lt ox
 have h2:(BitVec.ofInt 8 (128:Int)).toNat=128:=rfl
 rw[h0,BitVec.toNat_or,h1,h2,or128 ⟨n%256,by omega⟩]
 simp[IntKind.wrap,IntKind.bits,IntKind.signed];omega
theorem conv8 (h:n<128):IntKind.u8.wrap (n:Int)=(n:Int):=by simp[IntKind.wrap,IntKind.bits,IntKind.signed];omega
theorem Zt (h:n<4611686018427387904):IntKind.u64.wrap (n:Int)=(n:Int):=by simp[IntKind.wrap,IntKind.bits,IntKind.signed];omega
theorem shl3 (hk:k<1048576):IntKind.u64.wrap ((k:Int)*2^(min 3 IntKind.u64.bits))=((8*k:Nat):Int):=by
 have:min 3 IntKind.u64.bits=3:=rfl
 rw[this]
 simp[IntKind.wrap,IntKind.bits,IntKind.signed];omega
theorem shr7 (n:Nat):(n:Int).fdiv (2^(min 7 IntKind.u64.bits))=((n/128:Nat):Int):=by
 have:min 7 IntKind.u64.bits=7:=rfl
 rw[this,Int.fdiv_eq_ediv_of_nonneg _ ox]
 simp
end Go.Fw
namespace Go.Proofs.YtifdadlhmlhfiaaGreatDoor
open Go Go.Fw Go.Proofs Go.Proofs.Tryz
variable {y:Ent} {D W:List Nat} {B bb c k n:Nat} {p:Option Addr} {w w':World}
abbrev qx:Nat:=198
abbrev tU8:Nat:=5
def yg (f t u:Int) (dv:Value) (tmp:List Value):List Value:=.int .i64 f::.int .i64 t::.int .u64 u::dv::tmp
structure Bf (B:Nat) (w:World) (bb:Nat) (D:List Nat):Prop where
 ge:B≤bb
 ex:∃f t u p c tmp y,Blk w bb qx (yg f t u (.slice p D.length c) tmp)∧tmp.length=16∧tmp.all scal=true∧Own tU8 1 y p D.length c (D.map bv)∧(y.on=true→B≤y.b∧Blk w y.b tU8 y.cs)
abbrev wE:List Nat:=[qx,tU8]
theorem qjA {f t u:Int} {tmp:List Value} (hB:B≤bb) (hb:Blk w bb qx (yg f t u (.slice p D.length c) tmp)) (hO:Own tU8 1 y p D.length c (D.map bv)) (hy:y.on=true→B≤y.b∧Blk w y.b tU8 y.cs):
  Hp ⟨w,B,wE⟩ w [⟨bb,qx,yg f t u (.slice p D.length c) tmp,true,true,none⟩,y]:=by
 have hyH:Hp ⟨w,B,wE⟩ w [y]:=by
  refine ⟨⟨fun ho=>by rw[hO.hT];exact (hy ho).2,fun o ho=>by rw[hO.ho]at ho;cases ho⟩,fun he _=>.inr ?_,by simp,trivial⟩
  have hon:y.on=true:=by simpa[Ent.ex,hO.ho]using he
  exact ⟨(hy hon).1,by rw[hO.tag];simp⟩
 refine hyH.add hb (fun _=>.inr ⟨hB,by simp⟩) ?_
 intro z hz he
 simp at hz
 subst hz
 have hon:z.on=true:=by simpa[Ent.ex,hO.ho]using he
 exact (Blk.ne hb (hy hon).2 dq).symm
theorem qjU {f t u:Int} {tmp:List Value} (hs:B≤w.heap.size) (hB:B≤bb) (ht:tmp.length=16∧tmp.all scal=true) (hO:Own tU8 1 y p D.length c (D.map bv)) {i j:Nat} {H:ko}
  (hH:Hp ⟨w,B,wE⟩ w' H) (hi:H[i]? =some ⟨bb,qx,yg f t u (.slice p D.length c) tmp,true,true,none⟩) (hj:H[j]? =some y):Bf B w' bb D:=
 ⟨hB,f,t,u,p,c,tmp,y,hH.get hi rfl,ht.1,ht.2,hO,fun ho=>by
  have h1:=hH.get hj ho
  rw[hO.hT]at h1
  rcases hH.may (mG hj) ho hO.hw with h|⟨h, -⟩
  ·exact ⟨Nat.le_trans hs h,h1⟩
  ·exact ⟨h,h1⟩⟩
theorem Bf.fr (h:Bf B w bb D) (k:Fr 0 [] w w'):Bf B w' bb D:=by
 obtain ⟨f,t,u,p,c,tmp,y,h1,h2,h3,h4,h5⟩:=h.ex
 exact ⟨h.ge,f,t,u,p,c,tmp,y,k.blk h1 (.inr zp),h2,h3,h4,fun ho=>⟨(h5 ho).1,k.blk (h5 ho).2 (.inr zp)⟩⟩
theorem Bf.size (h:Bf B w bb D):B≤w.heap.size:=by
 obtain ⟨f,t,u,p,c,tmp,y,h1, -⟩:=h.ex
 exact Nat.le_trans h.ge (Nat.le_of_lt h1.lt)
theorem QJ (B:Nat) (w:World) (bb:Nat) (D:List Nat) (n:Nat) (hn:n<18446744073709551616) (h:Bf B w bb D) (hl:D.length+10≤100000000000):
  Calls Tryz.prog 220 #[ptr bb,.int .u64 (n:Nat)] w (Ret fun _ w'=>Bf B w' bb (D++vint n)∧Fr B wE w w'):=by
 obtain ⟨f,t,u,p,c,tmp,y,h1,h2,h3,h4,h5⟩:=h.ex
 have hs:=h.size
 refine jr (args:=[_,_]) [(0,_),(1,_)] B wE _ Tryz.func220 rfl Tryz.ntmps220 rfl rfl (qjA h.ge h1 h4 h5) ?_
 refine sQ fun K1=>jh ?_
 refine jZ (σ:=List Nat×Nat×Option Addr×Nat×Ent) (fun s=>[(0,ptr bb),(1,.int .u64 (s.2.1:Nat))]) (fun s=>[⟨bb,qx,yg f t u (.slice s.2.2.1 s.1.length s.2.2.2.1) tmp,true,true,none⟩,s.2.2.2.2])
  (fun s _=>Own tU8 1 s.2.2.2.2 s.2.2.1 s.1.length s.2.2.2.1 (s.1.map bv)∧s.1++vint s.2.1=D++vint n) (fun s=>s.2.1) (D,n,p,c,y) ⟨rfl,rfl,trivial⟩ (fun w' hH hf=>⟨hH,h4,rfl⟩) ?_
 rintro ⟨E,m,q,cc,z⟩ w1 ⟨hO,hE⟩ hf1 hH1 KL hKL
 try dsimp only at hO hE
 have hEl:E.length+10≤100000000000+10:=by
  have:=congrArg List.length hE
  simp at this
  have:=zB hn
  omega
 have hEs:E.length+1≤100000000000:=by
  have:=congrArg List.length hE
  simp at this
  have:=zB hn
  have:=KD m
  omega
 refine C.begin _ _ hf1 hH1 ?_
 try dsimp only
 refine sQ fun K2=>sQ fun K3=>jb (jM (k:=?_))
 refine jn rfl (fun _ _ h=>Jl rfl rfl h) (K3 ?_)
 refine jq rfl (fun h5'=>?_) (fun h5'=>?_)
 ·have hm:¬m<128:=by omega
  refine jg (K2 (jh (sQ fun K4=>jb (jM (k:=jM (k:=jN (k:=jF 3 qh ye (k:=jH 0 JN (k:=jM (k:=?_))))))))))
  refine jn rfl (fun _ _ h=>qO xu ru5 rfl h) (jn rfl (fun _ _ h=>Xg rfl rfl h) ?_)
  refine jV (u:=bv (m%128+128)) (congrArg (Value.int .u8) (qgd m)) ?_
  refine kj vY so5 zv5 rfl rfl rfl rfl rfl fun b14=>?_
  refine qY 1 rfl hO vY el5 rfl rfl rfl rfl rfl hEs rfl fun y15 p15 c15 hO15=>?_
  refine jN (k:=jF 3 qh ye (k:=jB (_::_::_::_::_) [_,_] 0 ye (k:=K4 (CJ.t [(0,_),(1,_)] (k:=jb (jM (k:=?_)))))))
  refine jn rfl (fun _ _ h=>qcc (q:=7) rfl rfl h) ?_
  refine jV (u:=.int .u64 ((m/128:Nat):Int)) (congrArg (Value.int .u64) (shr7 m)) ?_
  refine jA (k:=jw (Qq (ji ?_)))
  exact fun w' hH hf=>hKL (E++[m%128+128],m/128,p15,c15,y15) _ w' ⟨by have h:Own tU8 1 y15 p15 (E.length+1) c15 (E.map bv++[bv (m%128+128)]):=hO15;simpa using h,by rw[← hE,Yx hm];simp⟩ hf (by show Hp _ _ [⟨bb,qx,yg f t u (.slice p15 (E++[m%128+128]).length c15) tmp,true,true,none⟩,y15];rw[lA];exact hH) (by simp only;omega) ⟨rfl,rfl,trivial⟩
 ·have hm:m<128:=by omega
  refine jt (K1 (jb (jM (k:=jM (k:=jN (k:=jF 3 qh ye (k:=jH 0 JN (k:=jM (k:=?_)))))))))
  refine jn rfl (fun _ _ h=>qO xu ru5 rfl h) ?_
  refine jV (u:=bv m) (congrArg (Value.int .u8) (conv8 hm)) ?_
  refine kj vY so5 zv5 rfl rfl rfl rfl rfl fun b27=>?_
  refine qY 1 rfl hO vY el5 rfl rfl rfl rfl rfl hEs rfl fun y28 p28 c28 hO28=>?_
  refine jN (k:=jF 3 qh ye (k:=jB (_::_::_::_::_) [_,_] 0 ye (k:=jw ?_)))
  refine ?_
  refine vK Tryz.results220 fun w' hH hf=>?_
  have hO2:Own tU8 1 y28 p28 (D++vint n).length c28 ((D++vint n).map bv):=by
   have h:Own tU8 1 y28 p28 (E.length+1) c28 (E.map bv++[bv m]):=hO28
   rw[← hE,Qd hm];simpa using h
  have hb:=hH.get (i:=0) rfl rfl
  have hl:E.length+1=(D++vint n).length:=by rw[← hE,Qd hm];simp
  rw[hl]at hH
  exact ⟨qjU hs h.ge ⟨h2,h3⟩ hO2 (i:=0) (j:=1) hH rfl rfl,hf⟩
theorem frE {a b c:World} (h:Fr B W a b) (k:Fr B W b c):Fr B W a c:=h.trans k (.inr ⟨Nat.le_refl _,fun _ h=>h⟩)
theorem frQ {a b c:World} (h:Fr B W a b) (k:Fr 0 [] b c):Fr B W a c:=frE h (k.quiet _ _)
section
variable {P:Program} {Q:Exit→Act→World→Prop} {n:Nat} {f:Fm} {e:Env} {H:ko} {ops:Array Oper} {rest:List Oper} {d ty:Nat} {pos:String} {af:Array Edge}
theorem ky {D':List Nat} {w0 ws:World} {g:FuncId} {args:Array Operand} {vs:List Value} {tys:Array TypeId} (hF0:Fr B wE w0 ws) (hB0:Bf B ws bb D) (hg:∀(az:Array Value) (w:World),(callFunc g az).run P w=.ok (.enter g az) w)
  (hargs:evL e args.toList=some vs) (hd:Nat.blt d n=true) (hc:∀w,Fr 0 [] ws w→Bf B w bb D→Calls P g vs.toArray w (Ret fun _ w'=>Bf B w' bb D'∧Fr B wE w w'))
  (k:∀v w2,Bf B w2 bb D'→Fr B wE w0 w2→J P ops Q n ⟨w2,0,[]⟩ ((d,v)::e) [] rest):J P ops Q n ⟨ws,0,[]⟩ e H (⟨some d,.call ⟨.value (.func g),args,tys⟩,ty,pos,af,none⟩::rest):=
 kQ (R:=fun w1 _ w2=>Bf B w2 bb D'∧Fr B wE w1 w2) hg hargs hd (fun w _ hf=>hc w hf (hB0.fr hf)) fun w1 v w2 _ hf1 hR=>
  J.begin ⟨w2,0,[]⟩ [] jx .nil (k v w2 hR.1 (frE (frQ hF0 hf1) hR.2))
end
def qr (len:Nat) (tag:Nat):List Nat:=vint (8*tag+2)++vint len
theorem qhj {len tag:Nat} (h1:tag<1048576) (h2:len<18446744073709551616):(qr len tag).length≤20:=by
 unfold qr
 have:=zB (n:=8*tag+2) ox
 have:=zB h2
 simp;omega
theorem Zi (B:Nat) (w:World) (bb:Nat) (D:List Nat) (tag len:Nat) (ht:tag<1048576) (hn:len<4611686018427387904) (h:Bf B w bb D) (hl:D.length+20≤100000000000):
  Calls Tryz.prog 214 #[ptr bb,.int .i64 (tag:Nat),.int .i64 (len:Nat)] w (Ret fun _ w'=>Bf B w' bb (D++qr len tag)∧Fr B wE w w'):=by
 have hv:=zB (n:=8*tag+2) ox
 refine jr (args:=[_,_,_]) [(0,_),(1,_),(2,_)] 0 [] [] Tryz.func214 rfl Tryz.ntmps214 rfl rfl .nil ?_
 refine sQ fun K1=>jb (jM (k:=jM (k:=?_)))
 refine jn rfl (fun _ _ h=>qO ru3 xu rfl h) ?_
 refine jV (u:=.int .u64 (tag:Nat)) (congrArg (Value.int .u64) (Zt ox)) ?_
 refine jn rfl (fun _ _ h=>KP (q:=3) rfl rfl h) ?_
 refine jV (u:=.int .u64 ((8*tag:Nat):Int)) (congrArg (Value.int .u64) (shl3 ht)) ?_
 refine jn rfl (fun _ _ h=>Xg rfl rfl h) ?_
 refine jV (u:=.int .u64 ((8*tag+2:Nat):Int)) (congrArg (Value.int .u64) (qcS (t:=2) ht ox)) ?_
 refine ky (D':=D++vint (8*tag+2)) (Fr.refl _ _ w) h Tryz.call220 rfl rfl (fun w1 hf hB=>QJ B w1 bb D (8*tag+2) ox hB ox) fun v w2 hB2 hF2=>?_
 refine K1 (jb (jM (k:=jM (k:=?_))))
 refine jn rfl (fun _ _ h=>qO ru3 xu rfl h) ?_
 refine jV (u:=.int .u64 (len:Nat)) (congrArg (Value.int .u64) (Zt ox)) ?_
 refine ky (D':=D++qr len tag) hF2 hB2 Tryz.call220 rfl rfl (fun w1 hf hB=>by rw[qr, ← List.append_assoc];exact QJ B w1 bb _ len ox hB (by simp;omega)) fun v w3 hB3 hF3=>?_
 refine jw ?_
 refine ?_
 exact vK Tryz.results214 fun w' hH hf=>⟨hB3.fr hf,frQ hF3 hf⟩
def JZ (k n:Nat):List Nat:=vint (8*k)++vint n
theorem Zc (h1:k<1048576) (h2:n<18446744073709551616):(JZ k n).length≤20:=by
 unfold JZ
 have:=zB (n:=8*k) ox
 have:=zB h2
 simp;omega
theorem Xc (B:Nat) (w:World) (bb:Nat) (D:List Nat) (tag n:Nat) (ht:tag<1048576) (hn:n<18446744073709551616) (h:Bf B w bb D) (hl:D.length+20≤100000000000):
  Calls Tryz.prog 221 #[ptr bb,.int .i64 (tag:Nat),.int .u64 (n:Nat)] w (Ret fun _ w'=>Bf B w' bb (D++JZ tag n)∧Fr B wE w w'):=by
 have hv:=zB (n:=8*tag) ox
 refine jr (args:=[_,_,_]) [(0,_),(1,_),(2,_)] 0 [] [] Tryz.func221 rfl Tryz.ntmps221 rfl rfl .nil ?_
 refine sQ fun K1=>jb (jM (k:=jM (k:=?_)))
 refine jn rfl (fun _ _ h=>qO ru3 xu rfl h) ?_
 refine jV (u:=.int .u64 (tag:Nat)) (congrArg (Value.int .u64) (Zt ox)) ?_
 refine jn rfl (fun _ _ h=>KP (q:=3) rfl rfl h) ?_
 refine jV (u:=.int .u64 ((8*tag:Nat):Int)) (congrArg (Value.int .u64) (shl3 ht)) ?_
 refine jn rfl (fun _ _ h=>Xg rfl rfl h) ?_
 refine jV (u:=.int .u64 ((8*tag:Nat):Int)) (congrArg (Value.int .u64) (qcS (t:=0) ht ox)) ?_
 refine ky (D':=D++vint (8*tag)) (Fr.refl _ _ w) h Tryz.call220 rfl rfl (fun w1 hf hB=>QJ B w1 bb D (8*tag) ox hB ox) fun v w2 hB2 hF2=>?_
 refine K1 (jb (jM (k:=jM (k:=?_))))
 refine ky (D':=D++JZ tag n) hF2 hB2 Tryz.call220 rfl rfl (fun w1 hf hB=>by rw[JZ, ← List.append_assoc];exact QJ B w1 bb _ _ hn hB (by simp;omega)) fun v w3 hB3 hF3=>?_
 refine jw ?_
 refine ?_
 exact vK Tryz.results221 fun w' hH hf=>⟨hB3.fr hf,frQ hF3 hf⟩
def u64 (z:Int):Nat:=(IntKind.u64.wrap z).toNat
theorem kX (z:Int):u64 z<18446744073709551616:=by
 unfold u64
 simp[IntKind.wrap,IntKind.bits,IntKind.signed];omega
theorem Xd (z:Int):((u64 z:Nat):Int)=IntKind.u64.wrap z:=by
 unfold u64
 simp[IntKind.wrap,IntKind.bits,IntKind.signed];omega
theorem qbL {z:Int} (h:IntKind.i64.wrap z=z):u64 z=0↔z=0:=by
 rw[← Int.natCast_inj,Xd]
 simp[IntKind.wrap,IntKind.bits,IntKind.signed]at h⊢
 omega
theorem qey (B:Nat) (w:World) (bb:Nat) (D:List Nat) (tag:Nat) (z:Int) (ht:tag<1048576) (h:Bf B w bb D) (hl:D.length+20≤100000000000):
  Calls Tryz.prog 216 #[ptr bb,.int .i64 (tag:Nat),.int .i64 z] w (Ret fun _ w'=>Bf B w' bb (D++JZ tag (u64 z))∧Fr B wE w w'):=by
 refine jr (args:=[_,_,_]) [(0,_),(1,_),(2,_)] 0 [] [] Tryz.func216 rfl Tryz.ntmps216 rfl rfl .nil ?_
 refine sQ fun K1=>jb (jM (k:=?_))
 refine jn rfl (fun _ _ h=>qO ru2 xu rfl h) ?_
 refine jV (u:=.int .u64 (u64 z:Nat)) (congrArg (Value.int .u64) (Xd z).symm) ?_
 refine jA (k:=K1 (jb (jM (k:=jM (k:=jM (k:=?_))))))
 refine ky (D':=D++JZ tag (u64 z)) (Fr.refl _ _ w) h Tryz.call221 rfl rfl (fun w1 hf hB=>Xc B w1 bb D _ _ ht (kX z) hB hl) fun v w2 hB2 hF2=>?_
 refine jw ?_
 refine ?_
 exact vK Tryz.results216 fun w' hH hf=>⟨hB2.fr hf,frQ hF2 hf⟩
def ki (k n:Nat):List Nat:=if n=0 then [] else JZ k n
theorem kh (h1:k<1048576) (h2:n<18446744073709551616):(ki k n).length≤20:=by
 unfold ki;split
 ·simp
 ·exact Zc h1 h2
theorem ve (B:Nat) (w:World) (bb:Nat) (D:List Nat) (tag:Nat) (z:Int) (ht:tag<1048576) (hz:IntKind.i64.wrap z=z) (h:Bf B w bb D) (hl:D.length+20≤100000000000):
  Calls Tryz.prog 196 #[ptr bb,.int .i64 (tag:Nat),.int .i64 z] w (Ret fun _ w'=>Bf B w' bb (D++ki tag (u64 z))∧Fr B wE w w'):=by
 refine jr (args:=[_,_,_]) [(0,_),(1,_),(2,_)] 0 [] [] Tryz.func196 rfl Tryz.ntmps196 rfl rfl .nil ?_
 refine sQ fun K1=>sQ fun K2=>jb (jM (k:=jQ (k:=K2 ?_)))
 refine jq rfl (fun h7=>?_) (fun h7=>?_)
 ·refine jj ?_
  exact YI Tryz.results196 fun w' hH hf=>⟨by rw[ki,if_pos ((qbL hz).2 h7),List.append_nil];exact h.fr hf,hf.quiet _ _⟩
 ·refine jg (K1 (jb (jM (k:=jM (k:=jM (k:=?_))))))
  refine ky (D':=D++JZ tag (u64 z)) (Fr.refl _ _ w) h Tryz.call216 rfl rfl (fun w1 hf hB=>qey B w1 bb D _ _ ht hB hl) fun v w2 hB2 hF2=>?_
  refine jw ?_
  refine ?_
  exact vK Tryz.results196 fun w' hH hf=>⟨by rw[ki,if_neg (fun h0=>h7 ((qbL hz).1 h0))];exact hB2.fr hf,frQ hF2 hf⟩
theorem xL (B:Nat) (w:World) (bb:Nat) (D:List Nat) (tag n:Nat) (ht:tag<1048576) (hn:n<18446744073709551616) (h:Bf B w bb D) (hl:D.length+20≤100000000000):
  Calls Tryz.prog 230 #[ptr bb,.int .i64 (tag:Nat),.int .u64 (n:Nat)] w (Ret fun _ w'=>Bf B w' bb (D++ki tag n)∧Fr B wE w w'):=by
 refine jr (args:=[_,_,_]) [(0,_),(1,_),(2,_)] 0 [] [] Tryz.func230 rfl Tryz.ntmps230 rfl rfl .nil ?_
 refine sQ fun K1=>sQ fun K2=>jb (jM (k:=jQ (k:=K2 ?_)))
 refine jq rfl (fun h7=>?_) (fun h7=>?_)
 ·refine jj ?_
  exact YI Tryz.results230 fun w' hH hf=>⟨by rw[ki,if_pos ox,List.append_nil];exact h.fr hf,hf.quiet _ _⟩
 ·refine jg (K1 (jb (jM (k:=jM (k:=jM (k:=?_))))))
  refine ky (D':=D++JZ tag n) (Fr.refl _ _ w) h Tryz.call221 rfl rfl (fun w1 hf hB=>Xc B w1 bb D _ _ ht hn hB hl) fun v w2 hB2 hF2=>?_
  refine jw ?_
  refine ?_
  exact vK Tryz.results230 fun w' hH hf=>⟨by rw[ki,if_neg ox];exact hB2.fr hf,frQ hF2 hf⟩
theorem qlY (B:Nat) (w:World) (bb:Nat) (D:List Nat) (tag:Nat) (h:Bf B w bb D) (ht:tag<1048576) (hl:D.length+20≤100000000000):
  Calls Tryz.prog 244 #[ptr bb,.int .i64 (tag:Nat),.bool true] w (Ret fun _ w'=>Bf B w' bb (D++JZ tag 1)∧Fr B wE w w'):=by
 refine jr (args:=[_,_,_]) [(0,_),(1,_),(2,_)] 0 [] [] Tryz.func244 rfl Tryz.ntmps244 rfl rfl .nil ?_
 refine sQ fun K1=>jb (jM (k:=K1 ?_))
 refine ql rfl (jb (jM (k:=jM (k:=?_))))
 refine ky (D':=D++JZ tag 1) (Fr.refl _ _ w) h Tryz.call221 rfl rfl (fun w1 hf hB=>Xc B w1 bb D tag 1 ht ox hB hl) fun v w2 hB2 hF2=>?_
 refine jw ?_
 refine ?_
 exact vK Tryz.results244 fun w' hH hf=>⟨hB2.fr hf,frQ hF2 hf⟩
def zc (b:Bool):Nat:=if b then 1 else 0
theorem Vu (B:Nat) (w:World) (bb:Nat) (D:List Nat) (tag:Nat) (b:Bool) (ht:tag<1048576) (h:Bf B w bb D) (hl:D.length+20≤100000000000):
  Calls Tryz.prog 231 #[ptr bb,.int .i64 (tag:Nat),.bool b] w (Ret fun _ w'=>Bf B w' bb (D++ki tag (zc b))∧Fr B wE w w'):=by
 refine jr (args:=[_,_,_]) [(0,_),(1,_),(2,_)] 0 [] [] Tryz.func231 rfl Tryz.ntmps231 rfl rfl .nil ?_
 refine sQ fun K1=>sQ fun K2=>jb (jM (k:=jU (k:=K2 ?_)))
 refine qZ rfl (fun h7=>?_) (fun h7=>?_)
 ·obtain rfl:b=false:=by simpa using h7
  refine jj ?_
  exact YI Tryz.results231 fun w' hH hf=>⟨by rw[show ki tag (zc false)=[] from rfl,List.append_nil];exact h.fr hf,hf.quiet _ _⟩
 ·obtain rfl:b=true:=by simpa using h7
  refine jg (K1 (jb (jM (k:=jM (k:=jM (k:=?_))))))
  refine ky (D':=D++JZ tag 1) (Fr.refl _ _ w) h Tryz.call244 rfl rfl (fun w1 hf hB=>qlY B w1 bb D _ hB ht hl) fun v w2 hB2 hF2=>?_
  refine jw ?_
  refine ?_
  exact vK Tryz.results231 fun w' hH hf=>⟨by rw[show ki tag (zc true)=JZ tag 1 from rfl];exact hB2.fr hf,frQ hF2 hf⟩
theorem qfE {s:ByteArray} (w:World):(Builtin.firstCells 1 s.size (.string s)).run Tryz.prog w=.ok ((sB s).map bv).toArray w:=by
 have h:s.extract 0 s.size=s:=by simp
 simp only[Builtin.firstCells,h]
 have h2:(s.data.map fun b=>(Value.int .u8 (b.toNat:Int)))=((sB s).map bv).toArray:=by
  apply Array.toList_inj.1
  simp[sB,Function.comp_def]
 rw[← h2];rfl
theorem qgw (B:Nat) (w:World) (bb:Nat) (D:List Nat) (tag:Nat) (s:ByteArray) (ht:tag<1048576) (h:Bf B w bb D) (hl:D.length+s.size+20≤100000000000):
  Calls Tryz.prog 215 #[ptr bb,.int .i64 (tag:Nat),.string s] w (Ret fun _ w'=>Bf B w' bb (D++xO (.bys tag (sB s)))∧Fr B wE w w'):=by
 have hll:=qhj (len:=s.size) ht ox
 refine jr (args:=[_,_,_]) [(0,_),(1,_),(2,_)] 0 [] [] Tryz.func215 rfl Tryz.ntmps215 rfl rfl .nil ?_
 refine sQ fun K1=>jb (jM (k:=jM (k:=jM (k:=?_))))
 refine jn rfl (fun _ _ h=>zI ru9 rfl h) ?_
 refine ky (D':=D++qr s.size tag) (Fr.refl _ _ w) h Tryz.call214 rfl rfl (fun w1 hf hB=>Zi B w1 bb D _ _ ht ox hB ox) fun v w2 hB2 hF2=>?_
 obtain ⟨f,t,u,p,c,tmp,y,h1,h2,h3,h4,h5⟩:=hB2.ex
 refine fun w3 hH3 hf3=>?_
 refine J.begin ⟨w3,B,wE⟩ _ jx (qjA hB2.ge (hf3.blk h1 (.inr zp)) h4 fun ho=>⟨(h5 ho).1,hf3.blk (h5 ho).2 (.inr zp)⟩) ?_
 refine K1 (jb (jM (k:=jM (k:=jN (k:=jF 3 qh ye (k:=jH 0 JN (k:=jM (k:=?_))))))))
 refine KU 1 rfl h4.hT h4.ho h4.hw vY ru9 (.inr rfl) el5 rfl rfl rfl h4.sl (qbk s) (fun w1 w2 hH hf k=>qfE w2) (by simp[qaV]) (by simp[List.all_eq_true,scal]) (by simp;omega) rfl fun y17 p17 c17 q1 q2 q3 q4=>?_
 refine jN (k:=jF 3 qh ye (k:=jB (_::_::_::_::_) [_,_] 0 ye (k:=jw ?_)))
 refine ?_
 refine vK Tryz.results215 fun w' hH hf=>?_
 have hD:D++xO (.bys tag (sB s))=(D++qr s.size tag)++sB s:=by simp[xO,qr,qaV]
 have hl:(D++qr s.size tag).length+s.size=((D++qr s.size tag)++sB s).length:=by simp[qaV];omega
 rw[hl]at hH
 have hO2:Own tU8 1 y17 p17 ((D++qr s.size tag)++sB s).length c17 (((D++qr s.size tag)++sB s).map bv):=by
  rw[hl]at q4
  exact ⟨q1,q2,q3,by rw[List.map_append];exact q4⟩
 rw[hD]
 exact ⟨qjU (Nat.le_trans h.size (Nat.le_trans hF2.size hf3.size)) h.ge ⟨h2,h3⟩ hO2 (i:=0) (j:=1) hH rfl rfl,frE (frQ hF2 hf3) hf⟩
end Go.Proofs.YtifdadlhmlhfiaaGreatDoor
namespace Go.Fw
open Go
variable {b m n:Nat}
theorem KW {l:List Nat}:(l.map bv).all scal=true:=by simp[List.all_eq_true,scal]
theorem qfr (a b:Nat):0<(vint a++vint b).length:=by have:=KD a;simp;omega
theorem KH:∀(vs:List Value) (a:Value) (cs:List Value) (o:Nat),kH (a::cs) (o+1) vs=a::kH cs o vs
 |[],_,_,_=>rfl
 |v::vs,a,cs,o=>by simp only[kH,List.set_cons_succ];exact KH vs a _ (o+1)
theorem XM {a:Nat} (h:a≤b):Nat.min a b=a:=Nat.min_eq_left h
theorem XV {c T o:Nat} {cs ys:List Value} {w:World} {P:Program} (hb:Blk w b T cs) (h:(cs.drop o).take m=ys) (hl:ys.length=m):(Builtin.firstCells 1 m (.slice (some ⟨b,o,none⟩) m c)).run P w=.ok ys.toArray w:=Zq hb (by rw[Nat.mul_one];exact h) ox
theorem qal (D M L:List Nat) (ex:List Value) (hn:n=D.length+M.length) (hm:m=L.length):(((D++M++L).map bv++ex).drop n).take m=L.map bv:=by
 subst hn;subst hm
 rw[List.map_append,List.append_assoc,List.drop_append_of_le_length zp,List.drop_of_length_le zp,List.nil_append,List.take_append_of_le_length zp,tL zp]
theorem qcn (D M L:List Nat) (ex:List Value) (hn:n=D.length) (hm:m=M.length):(((D++M++L).map bv++ex).drop n).take m=M.map bv:=by
 subst hn;subst hm
 rw[List.append_assoc,List.map_append,List.append_assoc,List.drop_append_of_le_length zp,List.drop_of_length_le zp,List.nil_append,List.map_append,List.append_assoc,List.take_append_of_le_length zp,tL zp]
theorem qai (D M L:List Nat) (ex:List Value) (c:Nat) (hL:0<L.length) (hc:c=(D++M++L).length+ex.length):
  kH (kH ((D++M++L).map bv++ex) (cut 0 c (D.length+L.length) 1) (M.map bv)) (cut 0 c D.length 1) (L.map bv)=(D++L++M).map bv++ex:=by
 simp only[lA]at hc
 have h2:cut 0 c D.length 1=D.length:=by rw[cut,if_neg ox];omega
 rw[h2]
 by_cases hM:M=[]
 ·subst hM
  simp only[List.map_nil,kH,List.append_nil,List.map_append]
  have:=QK (L.map bv) (D.map bv) (L.map bv) ex rfl
  simpa using this
 ·have hMp:0<M.length:=List.length_pos_iff.2 hM
  have h1:cut 0 c (D.length+L.length) 1=D.length+L.length:=by rw[cut,if_neg ox];omega
  rw[h1]
  obtain ⟨W,Z,hW,hWl⟩:∃W Z,M++L=W++Z∧W.length=L.length:=⟨(M++L).take L.length,(M++L).drop L.length,by simp,by simp⟩
  have hZ:Z.length=M.length:=by have:=congrArg List.length hW;simp at this;omega
  have e1:(D++M++L).map bv++ex=(D++W).map bv++Z.map bv++ex:=by rw[List.append_assoc,hW];simp
  rw[e1]
  have e2:=QK (M.map bv) ((D++W).map bv) (Z.map bv) ex (by simp[hZ])
  rw[show ((D++W).map bv).length=D.length+L.length by simp[hWl]]at e2
  rw[e2]
  have e3:=QK (L.map bv) (D.map bv) (W.map bv) (M.map bv++ex) (by simp[hWl])
  rw[show (D.map bv).length=D.length by simp]at e3
  simpa using e3
end Go.Fw
namespace Go.Proofs.YtifdadlhmlhfiaaGreatDoor
open Go Go.Fw Go.Proofs Go.Proofs.Tryz
variable {B T b k mb:Nat} {v:Value} {w w':World}
theorem Qj {len tag:Nat} (h1:tag<1048576) (h2:len≤100000000000):(qr len tag).length≤11:=by
 unfold qr
 have:=zA 4 (8*tag+2) ox
 have:=zA 5 len ox
 simp;omega
theorem Zj (a b:Nat):0<(qr a b).length:=qfr _ _
theorem qeC {f t u:Int} {dv:Value} {tmp T1 T2:List Value} {L:List Nat} (h:tmp=T1++T2) (hl:T1.length=L.length):kH (yg f t u dv tmp) 4 (L.map bv)=yg f t u dv (L.map bv++T2):=by
 subst h
 unfold yg
 rw[KH,KH,KH,KH]
 have:=QK (L.map bv) [] T1 T2 (by simp[hl])
 simp at this
 rw[this]
abbrev qbx:String:= "loop.example/pub-profileroads/pub/goprofile.encode"
set_option maxHeartbeats 1000000 in
theorem yZ (B:Nat) (w:World) (bb:Nat) (D:List Nat) (tag:Nat) (T:Nat) (v0:Value) (g:FuncId) (rv:Value) (M:List Nat) (ht:tag<1048576) (h:Bf B w bb D) (hl:D.length+M.length+60≤100000000000)
  (hg:∀w,(callMethod (.iface T v0) qbx #[ptr bb]).run Tryz.prog w=.ok (.enter g #[rv,ptr bb]) w)
  (hm:∀w1,Fr 0 [] w w1→Bf B w1 bb D→Calls Tryz.prog g #[rv,ptr bb] w1 (Ret fun _ w'=>Bf B w' bb (D++M)∧Fr B wE w1 w')):
  Calls Tryz.prog 194 #[ptr bb,.int .i64 (tag:Nat),.iface T v0] w (Ret fun _ w'=>Bf B w' bb (D++xO (.bys tag M))∧Fr B wE w w'):=by
 have hLl:(qr M.length tag).length≤11:=Qj ht ox
 obtain ⟨f,t,u,p,c,tmp0,y,h1,h2,h3,h4,h5⟩:=id h.ex
 have hcb:=mc (f:=⟨w,0,[]⟩) h1 rfl
 refine jr (args:=[_,_,_]) [(0,_),(1,_),(2,_)] 0 [] [] Tryz.func194 rfl Tryz.ntmps194 rfl rfl .nil ?_
 refine sQ fun K1=>jb (jM (k:=jN (k:=jF 3 qh ye (k:=jL JN hcb 3 (k:=jE vY (k:=jA (k:=K1 ?_)))))))
 refine qP fun K2 hK2=>jb (jM (k:=jM (k:=?_)))
 refine qew (as':=[rv,ptr bb]) (R:=fun w1 _ w2=>Bf B w2 bb (D++M)∧Fr B wE w1 w2) hg rfl rfl rfl (fun w1 hH hf=>hm w1 hf (h.fr hf)) fun w1 v w2 hH1 hf1 hR=>?_
 have hB2:Bf B w2 bb (D++M):=hR.1
 have hF2:Fr B wE w w2:=frE (hf1.quiet _ _) hR.2
 obtain ⟨f2,t2,u2,p2,c2,tmp2,y2,k1, -⟩:=id hB2.ex
 have hcb:=mc (f:=⟨w2,0,[]⟩) k1 rfl
 refine J.begin ⟨w2,0,[]⟩ [] jx .nil ?_
 refine jw (ji (hK2 _ _ _ (sQ fun K3=>jb (jM (k:=jN (k:=jF 3 qh ye (k:=jL JN hcb 3 (k:=jE vY (k:=jA (k:=K3 (CJ.t [(0,_),(1,_),(6,_),(7,_)] (k:=sQ fun K4=>jb ?_))))))))))))
 refine jM (k:=jM (k:=jM (k:=jM (k:=?_))))
 refine jn rfl (fun _ _ h=>QQ rfl rfl h) ?_
 refine jV (u:=.int .i64 (M.length:Nat)) (by rw[kG (by simp;omega) (by simp;omega)];congr 1;simp;omega) ?_
 refine ky (D':=D++M++qr M.length tag) hF2 hB2 Tryz.call214 rfl rfl (fun w1 hf hB=>Zi B w1 bb _ _ _ ht ox hB (by simp;omega)) fun v w3 hB3 hF3=>?_
 obtain ⟨f3,t3,u3,p3,c3,tmp3,y3,k2, -⟩:=id hB3.ex
 have hcb:=mc (f:=⟨w3,0,[]⟩) k2 rfl
 refine K4 (sQ fun K5=>jb (jM (k:=jN (k:=jF 3 qh ye (k:=jL JN hcb 3 (k:=jE vY (k:=jA (k:=K5 (CJ.t [(0,_),(6,_),(7,_),(8,_)] (k:=sQ fun K6=>?_))))))))))
 intro w9 hH9 hf9
 obtain ⟨ff,tt,uu,pp,cc,tmp,yy,g1,g2,g3,g4,g5⟩:=hB3.ex
 have hLp:0<(qr M.length tag).length:=Zj _ _
 have hln:(D++M++qr M.length tag).length=D.length+M.length+(qr M.length tag).length:=by simp;omega
 have hmn:(D++M).length=D.length+M.length:=by simp
 have hcap:(D++M++qr M.length tag).length≤cc:=g4.sl.2.1
 obtain ⟨hon,rfl⟩:=g4.pos ox
 obtain ⟨ex,hex,hexl⟩:∃ex,yy.cs=(D++M++qr M.length tag).map bv++ex∧yy.cs.length=cc*1:=by
  rcases g4.sl.2.2 with ⟨-, -,⟨ex,q⟩,q2⟩|⟨q, -⟩
  ·exact ⟨ex,q,q2⟩
  ·rw[hon]at q;cases q
 obtain ⟨T1,T2,hT,hTl⟩:∃T1 T2,tmp=T1++T2∧T1.length=(qr M.length tag).length:=⟨tmp.take (qr M.length tag).length,tmp.drop (qr M.length tag).length,by simp,by simp;omega⟩
 refine C.begin ⟨w9,B,wE⟩ _ jx (qjA hB3.ge (hf9.blk g1 (.inr zp)) g4 fun ho=>⟨(g5 ho).1,hf9.blk (g5 ho).2 (.inr zp)⟩) ?_
 refine jC 11 (lts [0,1,2,3,4,5,6,7,8,9,10]++(11,false)::[]) [0,1] rfl (by kernel_rfl) (by kernel_rfl) (dM [0,1] (k:=dN [0,1] (k:=dF [0,1] 4 qh qec (k:=?_))))
 refine jo rfl rfl (jd [0,1] rfl) (fun _ _ h=>qgL qef so5 rfl h) (dM [0,1] (k:=dN [0,1] (k:=dF [0,1] 3 qh ye (k:=dH [0,1] 0 JN (k:=dM [0,1] (k:=dM [0,1] (k:=?_)))))))
 refine jo rfl rfl (jd [0,1] rfl) (fun _ _ h=>YB (i:=(D++M).length) (j:=(D++M++qr M.length tag).length) vY so5 rfl rfl rfl ox hcap h) (dE (h:=fun Kd=>?_))
 refine XT (m:=(D++M++qr M.length tag).length - (D++M).length) (news:=(qr M.length tag).map bv) 0 rfl rfl rfl rfl vY so5 rfl rfl (fun w=>vJ _ _ _ _) (fun w hH hf=>?_) KW (by simp[yg];omega) rfl ?_
 ·have hb:=hH.get (i:=1) rfl hon
  rw[XM ox]
  rw[cut,if_neg ox]
  exact XV hb (by rw[hex];exact qal D M (qr M.length tag) ex ox ox) (by simp;omega)
 refine Kd (.inl rfl) (K6 (CJ.t [(0,_),(6,_),(7,_),(8,_)] (k:=sQ fun K7=>?_)))
 refine CJ.heap [⟨bb,qx,yg ff tt uu (.slice (some ⟨yy.b,0,none⟩) (D++M++qr M.length tag).length cc) ((qr M.length tag).map bv++T2),true,true,none⟩,yy] (fun w hH hf=>by rw[← qeC hT hTl];exact hH) ?_
 refine jC 17 (lts [0,1,2,3,4,5,6,7,8,9,10,11,12,13,14,15,16]++(17,false)::[]) [0,1] rfl (by kernel_rfl) (by kernel_rfl) (dM [0,1] (k:=dN [0,1] (k:=dF [0,1] 3 qh ye (k:=dH [0,1] 0 JN (k:=dM [0,1] (k:=dM [0,1] (k:=dM [0,1] (k:=?_))))))))
 refine jo rfl rfl (jd [0,1] rfl) (fun _ _ h=>QQ rfl rfl h) ?_
 refine zi (u:=.int .i64 (((qr M.length tag).length:Nat):Int)) (by rw[hln,kG ox ox];congr 1;omega) ?_
 refine jo rfl rfl (jd [0,1] rfl) (fun _ _ h=>Yj rfl rfl h) ?_
 refine zi (u:=.int .i64 ((D.length+(qr M.length tag).length:Nat):Int)) (by rw[kG ox ox];congr 1) ?_
 refine jo rfl rfl (jd [0,1] rfl) (fun _ _ h=>Kn (i:=D.length+(qr M.length tag).length) vY so5 rfl rfl ox h) (dM [0,1] (k:=dN [0,1] (k:=dF [0,1] 3 qh ye (k:=dH [0,1] 0 JN (k:=dM [0,1] (k:=dM [0,1] (k:=?_)))))))
 refine jo rfl rfl (jd [0,1] rfl) (fun _ _ h=>YB (i:=D.length) (j:=(D++M).length) vY so5 rfl rfl rfl ox ox h) (dE (h:=fun Kd=>?_))
 refine XT (m:=(D++M).length - D.length) (news:=M.map bv) 1 rfl hon g4.ho g4.hw vY so5 rfl rfl (fun w=>vJ _ _ _ _) (fun w hH hf=>?_) KW ?_ rfl ?_
 ·have hb:=hH.get (i:=1) rfl hon
  rw[XM ox]
  rw[cut,if_neg ox]
  exact XV hb (by rw[hex];exact qcn D M (qr M.length tag) ex ox ox) zp
 ·unfold cut
  split
  ·simp;omega
  ·simp;omega
 refine Kd (.inl rfl) (K7 (CJ.t [(0,_),(6,_),(7,_),(8,_)] (k:=?_)))
 refine jC 13 (lts [0,1,2,3,4,5,6,7,8,9,10,11,12]++(13,false)::[]) [0,1] rfl (by kernel_rfl) (by kernel_rfl) (dM [0,1] (k:=dN [0,1] (k:=dF [0,1] 3 qh ye (k:=dH [0,1] 0 JN (k:=dM [0,1] (k:=?_))))))
 refine jo rfl rfl (jd [0,1] rfl) (fun _ _ h=>Kn (i:=D.length) vY so5 rfl rfl ox h) (dM [0,1] (k:=dN [0,1] (k:=dF [0,1] 4 qh qec (k:=dM [0,1] (k:=dM [0,1] (k:=?_))))))
 refine jo rfl rfl (jd [0,1] rfl) (fun _ _ h=>QQ rfl rfl h) ?_
 refine zi (u:=.int .i64 (((qr M.length tag).length:Nat):Int)) (by rw[hln,kG ox ox];congr 1;omega) ?_
 refine jo rfl rfl (jd [0,1] rfl) (fun _ _ h=>qcd (j:=(qr M.length tag).length) qef so5 rfl rfl ox h) (dE (h:=fun Kd=>?_))
 refine XT (m:=(qr M.length tag).length) (news:=(qr M.length tag).map bv) 1 rfl hon g4.ho g4.hw vY so5 rfl rfl (fun w=>vJ _ _ _ _) (fun w hH hf=>?_) KW ?_ rfl ?_
 ·have hb:=hH.get (i:=0) rfl rfl
  rw[XM ox]
  exact XV hb (by simp[yg]) zp
 ·unfold cut
  split
  ·omega
  ·simp[yi];omega
 refine Kd (.inl rfl) (QZ ?_)
 refine ?_
 refine vK Tryz.results194 fun w' hH hf=>?_
 have hcs:=hH.get (i:=1) rfl hon
 have hrot:kH (kH yy.cs (cut 0 cc (D.length+(qr M.length tag).length) 1) (M.map bv)) (cut 0 cc D.length 1) ((qr M.length tag).map bv)=(D++qr M.length tag++M).map bv++ex:=by
  rw[hex];exact qai D M (qr M.length tag) ex cc hLp (by have:=congrArg List.length hex;simp at this;omega)
 have hl2:(D++M++qr M.length tag).length=(D++qr M.length tag++M).length:=by simp;omega
 have hO2:Own tU8 1 ⟨yy.b,yy.T,kH (kH yy.cs (cut 0 cc (D.length+(qr M.length tag).length) 1) (M.map bv)) (cut 0 cc D.length 1) ((qr M.length tag).map bv),yy.wr,yy.on,yy.ob⟩ (some ⟨yy.b,0,none⟩) (D++qr M.length tag++M).length cc ((D++qr M.length tag++M).map bv):=
  ⟨g4.hT,g4.hw,g4.ho,by simp,by omega,.inl ⟨hon,rfl,⟨ex,hrot⟩,by simp[yi];omega⟩⟩
 have hD:D++xO (.bys tag M)=D++qr M.length tag++M:=by simp[xO,qr]
 rw[hD]
 rw[hl2]at hH
 exact ⟨qjU (Nat.le_trans h.size (Nat.le_trans hF3.size hf9.size)) h.ge ⟨by simp;rw[hT]at g2;simp at g2;omega,by rw[hT]at g3;simp[scal]at g3⊢;exact g3.2⟩ hO2 (i:=0) (j:=1) hH rfl rfl,frE (frQ hF3 hf9) hf⟩
abbrev vR:Nat:=71
theorem xU {α β:Type} {xs:List α} {g:α→List β} (hk:k<xs.length):(xs.take (k+1)).flatMap g=(xs.take k).flatMap g++g xs[k]:=by
 rw[← tG hk,List.flatMap_append];simp
theorem yu {α β:Type} (xs:List α) (g:α→List β) (k:Nat):((xs.take k).flatMap g).length≤(xs.flatMap g).length:=by
 conv=>rhs;rw[← List.take_append_drop k xs,List.flatMap_append,lA]
 omega
theorem XG:∀{ns:List Nat},(∀n∈ns,n<18446744073709551616)→(ns.flatMap vint).length≤10*ns.length
 |[],_=>by simp
 |n::r,h=>by
    have:=zB (h n zp)
    have:=XG fun m hm=>h m (List.mem_cons_of_mem _ hm)
    rw[List.flatMap_cons,lA,List.length_cons];omega
theorem XL {tag:Nat} (ht:tag<1048576):∀{ns:List Nat},(∀n∈ns,n<18446744073709551616)→(ns.flatMap (JZ tag)).length≤20*ns.length
 |[],_=>by simp
 |n::r,h=>by
    have:=Zc ht (h n zp)
    have:=XL ht fun m hm=>h m (List.mem_cons_of_mem _ hm)
    rw[List.flatMap_cons,lA,List.length_cons];omega
theorem zu {w1:World} {W:List Nat} {xs:List Value} (hF:Fr B W w w1) (hW:W.all (fun t=> !Nat.beq t T)=true) (hc:∀f:Fm,f.ws=w→f.W.all (fun t=> !Nat.beq t T)=true→∀w',f.ok w'→∀(j:Nat) (u:Value),xs[j]? =some u→w'.cell? ⟨b,j,none⟩=some u) (hv:xs[k]? =some v):
  ∀w',Fm.ok ⟨w1,0,[]⟩ w'→∀(j:Nat) (u:Value),[v][j]? =some u→w'.cell? ⟨b,0+k*1+j,none⟩=some u:=fun w' kp j u hu=>by
 cases j with
 |zero=>simp at hu;subst hu;simpa using hc ⟨w,B,W⟩ rfl hW w' (frQ hF kp) k v hv
 |succ j=>simp at hu
def usB (tag:Nat) (ns:List Nat):List Nat:=if 2<ns.length then xO (.bys tag (ns.flatMap vint)) else ns.flatMap (JZ tag)
set_option maxHeartbeats 1000000 in
theorem qeV (B:Nat) (w:World) (bb:Nat) (D:List Nat) (tag:Nat) (sv:Value) (ns:List Nat) (ht:tag<1048576) (hs:OS vR 1 w sv (ns.map fun (n:Nat)=>Value.int .u64 (n:Int))) (hn:∀n∈ns,n<18446744073709551616) (h:Bf B w bb D) (hl:D.length+20*ns.length+60≤100000000000):
  Calls Tryz.prog 263 #[ptr bb,.int .i64 (tag:Nat),sv] w (Ret fun _ w'=>Bf B w' bb (D++usB tag ns)∧Fr B wE w w'):=by
 obtain ⟨ps,ls,cs,rfl,hls,hlsc,hlsx⟩:=hs.openF
 obtain rfl:ls=ns.length:=by simpa using hls.symm
 have hv:=XG hn
 have hnb:=XL ht hn
 obtain ⟨f,t,u,p,c,tmp0,y,h1,h2,h3,h4,h5⟩:=id h.ex
 have hcb:=mc (f:=⟨w,0,[]⟩) h1 rfl
 refine jr (args:=[_,_,_]) [(0,_),(1,_),(2,_)] 0 [] [] Tryz.func263 rfl Tryz.ntmps263 rfl rfl .nil ?_
 refine sQ fun K1=>qP fun K2 hK2=>jb (jM (k:=jE zm (k:=jG (k:=jw (ji (hK2 _ _ _ ?_))))))
 refine jq rfl (fun h15=>?_) (fun h15=>?_)
 ·have hgt:2<ns.length:=by omega
  refine sQ fun K3=>jb (jM (k:=jN (k:=jF 3 qh ye (k:=jL JN hcb 3 (k:=jE vY (k:=jA (k:=K3 (sQ fun K4=>sQ fun K5=>jb (jM (k:=jE zm (k:=?_)))))))))))
  refine jM (k:=K5 (CJ.t [(0,_),(1,_),(6,_),(21,_),(22,_),(23,_)] (k:=jh ?_)))
  intro w0 hH0 hf0
  refine vk (σ:=Nat) (fun k=>[(0,ptr bb),(1,.int .i64 (tag:Nat)),(6,.int .i64 (D.length:Nat)),(21,.slice ps ns.length cs),(22,.int .i64 (ns.length:Nat)),(23,.int .i64 (k:Nat))])
   (fun k w'=>k≤ns.length∧Bf B w' bb (D++(ns.take k).flatMap vint)∧Fr B wE w w') (fun k=>ns.length - k) 0 sR ⟨Nat.zero_le _,by simpa using h.fr hf0,hf0.quiet _ _⟩ ?_
  rintro k w1 ⟨hk,hB1,hF1⟩ KL hKL
  have htl:=yu ns vint k
  refine C.begin ⟨w1,0,[]⟩ [] jx .nil ?_
  refine sQ fun K6=>jb (jS (k:=K6 (sQ fun K7=>?_)))
  refine jq rfl (fun h24=>?_) (fun h24=>?_)
  ·have hk':k<ns.length:=by omega
   obtain ⟨bq,rfl,hsq⟩:=hlsx ox
   have hcell:=zu (k:=k) (v:=.int .u64 ((ns[k]:Nat):Int)) hF1 rfl hsq (by simp[hk'])
   refine jg (K7 (sQ fun K8=>jh (sQ fun K9=>jb (jJ zm kU (k:=jL vy hcell 0 (k:=jA (k:=K9 (jb (jM (k:=jM (k:=?_)))))))))))
   refine ky (D':=D++(ns.take (k+1)).flatMap vint) hF1 hB1 Tryz.call220 rfl rfl (fun w2 hf hB=>by rw[xU hk', ← List.append_assoc];exact QJ B w2 bb _ ns[k] (hn _ (List.getElem_mem hk')) hB (by rw[lA];omega)) fun v w2 hB2 hF2=>?_
   refine K8 (jb (jI (k:=jM (k:=jw (ji ?_)))))
   exact fun w' hH hf=>hKL (k+1) _ w' ⟨hk',hB2.fr hf,frQ hF2 hf⟩ ox sR
  ·have hke:k=ns.length:=by omega
   subst hke
   rw[tL (Nat.le_refl _)]at hB1
   generalize hM:ns.flatMap vint=M at*
   obtain ⟨f2,t2,u2,p2,c2,tmp2,y2,k1, -⟩:=id hB1.ex
   have hcb:=mc (f:=⟨w1,0,[]⟩) k1 rfl
   have hLl:(qr M.length tag).length≤11:=Qj ht ox
   refine jt (K4 (sQ fun K10=>jb (jM (k:=jN (k:=jF 3 qh ye (k:=jL JN hcb 3 (k:=jE vY (k:=jA (k:=K10 (CJ.t [(0,_),(1,_),(6,_),(9,_)] (k:=sQ fun K11=>jb (jM (k:=?_)))))))))))))
   refine jM (k:=jM (k:=jM (k:=?_)))
   refine jn rfl (fun _ _ h=>QQ rfl rfl h) ?_
   refine jV (u:=.int .i64 (M.length:Nat)) (by rw[kG (by simp;omega) (by simp;omega)];congr 1;simp;omega) ?_
   refine ky (D':=D++M++qr M.length tag) hF1 hB1 Tryz.call214 rfl rfl (fun w1 hf hB=>Zi B w1 bb _ _ _ ht ox hB (by simp;omega)) fun v w3 hB3 hF3=>?_
   obtain ⟨f3,t3,u3,p3,c3,tmp3,y3,k2, -⟩:=id hB3.ex
   have hcb:=mc (f:=⟨w3,0,[]⟩) k2 rfl
   refine K11 (sQ fun K12=>jb (jM (k:=jN (k:=jF 3 qh ye (k:=jL JN hcb 3 (k:=jE vY (k:=jA (k:=K12 (CJ.t [(0,_),(6,_),(9,_),(10,_)] (k:=sQ fun K13=>?_))))))))))
   intro w9 hH9 hf9
   obtain ⟨ff,tt,uu,pp,cc,tmp,yy,g1,g2,g3,g4,g5⟩:=hB3.ex
   have hLp:0<(qr M.length tag).length:=Zj _ _
   have hln:(D++M++qr M.length tag).length=D.length+M.length+(qr M.length tag).length:=by simp;omega
   have hmn:(D++M).length=D.length+M.length:=by simp
   have hcap:(D++M++qr M.length tag).length≤cc:=g4.sl.2.1
   obtain ⟨hon,rfl⟩:=g4.pos ox
   obtain ⟨ex,hex,hexl⟩:∃ex,yy.cs=(D++M++qr M.length tag).map bv++ex∧yy.cs.length=cc*1:=by
    rcases g4.sl.2.2 with ⟨-, -,⟨ex,q⟩,q2⟩|⟨q, -⟩
    ·exact ⟨ex,q,q2⟩
    ·rw[hon]at q;cases q
   obtain ⟨T1,T2,hT,hTl⟩:∃T1 T2,tmp=T1++T2∧T1.length=(qr M.length tag).length:=⟨tmp.take (qr M.length tag).length,tmp.drop (qr M.length tag).length,by simp,by simp;omega⟩
   refine C.begin ⟨w9,B,wE⟩ _ jx (qjA hB3.ge (hf9.blk g1 (.inr zp)) g4 fun ho=>⟨(g5 ho).1,hf9.blk (g5 ho).2 (.inr zp)⟩) ?_
   refine jC 11 (lts [0,1,2,3,4,5,6,7,8,9,10]++(11,false)::[]) [0,1] rfl (by kernel_rfl) (by kernel_rfl) (dM [0,1] (k:=dN [0,1] (k:=dF [0,1] 4 qh qec (k:=?_))))
   refine jo rfl rfl (jd [0,1] rfl) (fun _ _ h=>qgL qef so5 rfl h) (dM [0,1] (k:=dN [0,1] (k:=dF [0,1] 3 qh ye (k:=dH [0,1] 0 JN (k:=dM [0,1] (k:=dM [0,1] (k:=?_)))))))
   refine jo rfl rfl (jd [0,1] rfl) (fun _ _ h=>YB (i:=(D++M).length) (j:=(D++M++qr M.length tag).length) vY so5 rfl rfl rfl ox hcap h) (dE (h:=fun Kd=>?_))
   refine XT (m:=(D++M++qr M.length tag).length - (D++M).length) (news:=(qr M.length tag).map bv) 0 rfl rfl rfl rfl vY so5 rfl rfl (fun w=>vJ _ _ _ _) (fun w hH hf=>?_) KW (by simp[yg];omega) rfl ?_
   ·have hb:=hH.get (i:=1) rfl hon
    rw[XM ox]
    rw[cut,if_neg ox]
    exact XV hb (by rw[hex];exact qal D M (qr M.length tag) ex ox ox) (by simp;omega)
   refine Kd (.inl rfl) (K13 (CJ.t [(0,_),(6,_),(9,_),(10,_)] (k:=sQ fun K14=>?_)))
   refine CJ.heap [⟨bb,qx,yg ff tt uu (.slice (some ⟨yy.b,0,none⟩) (D++M++qr M.length tag).length cc) ((qr M.length tag).map bv++T2),true,true,none⟩,yy] (fun w hH hf=>by rw[← qeC hT hTl];exact hH) ?_
   refine jC 17 (lts [0,1,2,3,4,5,6,7,8,9,10,11,12,13,14,15,16]++(17,false)::[]) [0,1] rfl (by kernel_rfl) (by kernel_rfl) (dM [0,1] (k:=dN [0,1] (k:=dF [0,1] 3 qh ye (k:=dH [0,1] 0 JN (k:=dM [0,1] (k:=dM [0,1] (k:=dM [0,1] (k:=?_))))))))
   refine jo rfl rfl (jd [0,1] rfl) (fun _ _ h=>QQ rfl rfl h) ?_
   refine zi (u:=.int .i64 (((qr M.length tag).length:Nat):Int)) (by rw[hln,kG ox ox];congr 1;omega) ?_
   refine jo rfl rfl (jd [0,1] rfl) (fun _ _ h=>Yj rfl rfl h) ?_
   refine zi (u:=.int .i64 ((D.length+(qr M.length tag).length:Nat):Int)) (by rw[kG ox ox];congr 1) ?_
   refine jo rfl rfl (jd [0,1] rfl) (fun _ _ h=>Kn (i:=D.length+(qr M.length tag).length) vY so5 rfl rfl ox h) (dM [0,1] (k:=dN [0,1] (k:=dF [0,1] 3 qh ye (k:=dH [0,1] 0 JN (k:=dM [0,1] (k:=dM [0,1] (k:=?_)))))))
   refine jo rfl rfl (jd [0,1] rfl) (fun _ _ h=>YB (i:=D.length) (j:=(D++M).length) vY so5 rfl rfl rfl ox ox h) (dE (h:=fun Kd=>?_))
   refine XT (m:=(D++M).length - D.length) (news:=M.map bv) 1 rfl hon g4.ho g4.hw vY so5 rfl rfl (fun w=>vJ _ _ _ _) (fun w hH hf=>?_) KW ?_ rfl ?_
   ·have hb:=hH.get (i:=1) rfl hon
    rw[XM ox]
    rw[cut,if_neg ox]
    exact XV hb (by rw[hex];exact qcn D M (qr M.length tag) ex ox ox) zp
   ·unfold cut
    split
    ·simp;omega
    ·simp;omega
   refine Kd (.inl rfl) (K14 (CJ.t [(0,_),(6,_),(9,_),(10,_)] (k:=sQ fun K15=>?_)))
   refine jC 13 (lts [0,1,2,3,4,5,6,7,8,9,10,11,12]++(13,false)::[]) [0,1] rfl (by kernel_rfl) (by kernel_rfl) (dM [0,1] (k:=dN [0,1] (k:=dF [0,1] 3 qh ye (k:=dH [0,1] 0 JN (k:=dM [0,1] (k:=?_))))))
   refine jo rfl rfl (jd [0,1] rfl) (fun _ _ h=>Kn (i:=D.length) vY so5 rfl rfl ox h) (dM [0,1] (k:=dN [0,1] (k:=dF [0,1] 4 qh qec (k:=dM [0,1] (k:=dM [0,1] (k:=?_))))))
   refine jo rfl rfl (jd [0,1] rfl) (fun _ _ h=>QQ rfl rfl h) ?_
   refine zi (u:=.int .i64 (((qr M.length tag).length:Nat):Int)) (by rw[hln,kG ox ox];congr 1;omega) ?_
   refine jo rfl rfl (jd [0,1] rfl) (fun _ _ h=>qcd (j:=(qr M.length tag).length) qef so5 rfl rfl ox h) (dE (h:=fun Kd=>?_))
   refine XT (m:=(qr M.length tag).length) (news:=(qr M.length tag).map bv) 1 rfl hon g4.ho g4.hw vY so5 rfl rfl (fun w=>vJ _ _ _ _) (fun w hH hf=>?_) KW ?_ rfl ?_
   ·have hb:=hH.get (i:=0) rfl rfl
    rw[XM ox]
    exact XV hb (by simp[yg]) zp
   ·unfold cut
    split
    ·omega
    ·simp[yi];omega
   refine Kd (.inl rfl) (K15 (CJ.t [] (k:=jj (YI Tryz.results263 fun w' hH hf=>?_))))
   have hus:usB tag ns=xO (.bys tag M):=by rw[usB,if_pos hgt,hM]
   rw[hus]
   have hcs:=hH.get (i:=1) rfl hon
   have hrot:kH (kH yy.cs (cut 0 cc (D.length+(qr M.length tag).length) 1) (M.map bv)) (cut 0 cc D.length 1) ((qr M.length tag).map bv)=(D++qr M.length tag++M).map bv++ex:=by
    rw[hex];exact qai D M (qr M.length tag) ex cc hLp (by have:=congrArg List.length hex;simp at this;omega)
   have hl2:(D++M++qr M.length tag).length=(D++qr M.length tag++M).length:=by simp;omega
   have hO2:Own tU8 1 ⟨yy.b,yy.T,kH (kH yy.cs (cut 0 cc (D.length+(qr M.length tag).length) 1) (M.map bv)) (cut 0 cc D.length 1) ((qr M.length tag).map bv),yy.wr,yy.on,yy.ob⟩ (some ⟨yy.b,0,none⟩) (D++qr M.length tag++M).length cc ((D++qr M.length tag++M).map bv):=
    ⟨g4.hT,g4.hw,g4.ho,by simp,by omega,.inl ⟨hon,rfl,⟨ex,hrot⟩,by simp[yi];omega⟩⟩
   have hD:D++xO (.bys tag M)=D++qr M.length tag++M:=by simp[xO,qr]
   rw[hD]
   rw[hl2]at hH
   exact ⟨qjU (Nat.le_trans h.size (Nat.le_trans hF3.size hf9.size)) h.ge ⟨by simp;rw[hT]at g2;simp at g2;omega,by rw[hT]at g3;simp[scal]at g3⊢;exact g3.2⟩ hO2 (i:=0) (j:=1) hH rfl rfl,frE (frQ hF3 hf9) hf⟩
 ·have hgt:¬2<ns.length:=by omega
  refine jg (K1 (sQ fun K16=>jb (jM (k:=jE zm (k:=jM (k:=K16 (jh ?_)))))))
  intro w0 hH0 hf0
  refine vk (σ:=Nat) (fun k=>[(0,ptr bb),(1,.int .i64 (tag:Nat)),(91,.slice ps ns.length cs),(92,.int .i64 (ns.length:Nat)),(93,.int .i64 (k:Nat))])
   (fun k w'=>k≤ns.length∧Bf B w' bb (D++(ns.take k).flatMap (JZ tag))∧Fr B wE w w') (fun k=>ns.length - k) 0 sR ⟨Nat.zero_le _,by simpa using h.fr hf0,hf0.quiet _ _⟩ ?_
  rintro k w1 ⟨hk,hB1,hF1⟩ KL hKL
  have htl:=yu ns (JZ tag) k
  refine C.begin ⟨w1,0,[]⟩ [] jx .nil ?_
  refine sQ fun K17=>jb (jS (k:=K17 (sQ fun K18=>?_)))
  refine jq rfl (fun h94=>?_) (fun h94=>?_)
  ·have hk':k<ns.length:=by omega
   obtain ⟨bq,rfl,hsq⟩:=hlsx ox
   have hcell:=zu (k:=k) (v:=.int .u64 ((ns[k]:Nat):Int)) hF1 rfl hsq (by simp[hk'])
   refine jg (K18 (sQ fun K19=>jh (sQ fun K20=>jb (jJ zm kU (k:=jL vy hcell 0 (k:=jA (k:=K20 (jb (jM (k:=jM (k:=jM (k:=?_))))))))))))
   refine ky (D':=D++(ns.take (k+1)).flatMap (JZ tag)) hF1 hB1 Tryz.call221 rfl rfl (fun w2 hf hB=>by rw[xU hk', ← List.append_assoc];exact Xc B w2 bb _ tag ns[k] ht (hn _ (List.getElem_mem hk')) hB (by rw[lA];omega)) fun v w2 hB2 hF2=>?_
   refine K19 (jb (jI (k:=jM (k:=jw (ji ?_)))))
   exact fun w' hH hf=>hKL (k+1) _ w' ⟨hk',hB2.fr hf,frQ hF2 hf⟩ ox sR
  ·have hke:k=ns.length:=by omega
   subst hke
   rw[tL (Nat.le_refl _)]at hB1
   refine jt (qg (qg (xy (?_))))
   exact vK Tryz.results263 fun w' hH hf=>⟨by rw[usB,if_neg hgt];exact hB1.fr hf,frQ hF1 hf⟩
def xD (tag:Nat) (ss:List ByteArray):List Nat:=ss.flatMap fun s=>xO (.bys tag (sB s))
theorem qgx (tag:Nat) (s:ByteArray):s.size≤(xO (.bys tag (sB s))).length:=by simp[xO,qaV];omega
theorem qeY (B:Nat) (w:World) (bb:Nat) (D:List Nat) (tag:Nat) (sv:Value) (ss:List ByteArray) (ht:tag<1048576) (hs:OS qc 1 w sv (ss.map .string)) (h:Bf B w bb D) (hl:D.length+(xD tag ss).length+60≤100000000000):
  Calls Tryz.prog 195 #[ptr bb,.int .i64 (tag:Nat),sv] w (Ret fun _ w'=>Bf B w' bb (D++xD tag ss)∧Fr B wE w w'):=by
 obtain ⟨ps,ls,cs,rfl,hls,hlsc,hlsx⟩:=hs.openF
 obtain rfl:ls=ss.length:=by simpa using hls.symm
 have hle:ss.length≤(xD tag ss).length:=by
  have:∀l:List ByteArray,l.length≤(xD tag l).length:=by
   intro l
   induction l with
   |nil=>simp
   |cons a r ih=>
    have h1:=Zj (sB a).length tag
    have h2:(xD tag (a::r)).length=(xO (.bys tag (sB a))).length+(xD tag r).length:=by simp[xD]
    have h3:(xO (.bys tag (sB a))).length=(qr (sB a).length tag).length+(sB a).length:=by simp[xO,qr];omega
    rw[h2];simp only[List.length_cons];omega
  exact this ss
 refine jr (args:=[_,_,_]) [(0,_),(1,_),(2,_)] 0 [] [] Tryz.func195 rfl Tryz.ntmps195 rfl rfl .nil ?_
 refine sQ fun K1=>jb (jM (k:=jE vG (k:=jM (k:=K1 (jh ?_)))))
 intro w0 hH0 hf0
 refine vk (σ:=Nat) (fun k=>[(0,ptr bb),(1,.int .i64 (tag:Nat)),(8,.slice ps ss.length cs),(9,.int .i64 (ss.length:Nat)),(10,.int .i64 (k:Nat))])
  (fun k w'=>k≤ss.length∧Bf B w' bb (D++xD tag (ss.take k))∧Fr B wE w w') (fun k=>ss.length - k) 0 sR ⟨Nat.zero_le _,by simpa[xD]using h.fr hf0,hf0.quiet _ _⟩ ?_
 rintro k w1 ⟨hk,hB1,hF1⟩ KL hKL
 refine C.begin ⟨w1,0,[]⟩ [] jx .nil ?_
 refine sQ fun K2=>jb (jS (k:=K2 (sQ fun K3=>?_)))
 refine jq rfl (fun h11=>?_) (fun h11=>?_)
 ·have hk':k<ss.length:=by omega
  obtain ⟨bq,rfl,hsq⟩:=hlsx ox
  have hcell:=zu (k:=k) (v:=.string ss[k]) hF1 rfl hsq (by simp[hk'])
  have hst:xD tag (ss.take (k+1))=xD tag (ss.take k)++xO (.bys tag (sB ss[k])):=xU hk'
  have htl:(xD tag (ss.take (k+1))).length≤(xD tag ss).length:=yu ss _ (k+1)
  have hsl:=qgx tag ss[k]
  have hst':=congrArg List.length hst
  rw[lA]at hst'
  refine jg (K3 (sQ fun K4=>jh (sQ fun K5=>jb (jJ vG so9 (k:=jL ag9 hcell 0 (k:=jA (k:=K5 (jb (jM (k:=jM (k:=jM (k:=?_))))))))))))
  refine ky (D':=D++xD tag (ss.take (k+1))) hF1 hB1 Tryz.call215 rfl rfl (fun w2 hf hB=>by rw[hst, ← List.append_assoc];exact qgw B w2 bb _ tag ss[k] ht hB (by simp;omega)) fun v w2 hB2 hF2=>?_
  refine K4 (jb (jI (k:=jM (k:=jw (ji ?_)))))
  exact fun w' hH hf=>hKL (k+1) _ w' ⟨hk',hB2.fr hf,frQ hF2 hf⟩ ox sR
 ·have hke:k=ss.length:=by omega
  subst hke
  rw[tL (Nat.le_refl _)]at hB1
  refine jt (qg (qg (xy (?_))))
  exact vK Tryz.results195 fun w' hH hf=>⟨hB1.fr hf,frQ hF1 hf⟩
abbrev vq:Nat:=193
theorem qha (v a:Value) (w:World):(callMethod (.iface 123 v) qbx #[a]).run Tryz.prog w=.ok (.enter 223 #[v,a]) w:=by kernel_rfl
theorem qln (v a:Value) (w:World):(callMethod (.iface 142 v) qbx #[a]).run Tryz.prog w=.ok (.enter 261 #[v,a]) w:=by kernel_rfl
theorem qlo (v a:Value) (w:World):(callMethod (.iface 128 v) qbx #[a]).run Tryz.prog w=.ok (.enter 228 #[v,a]) w:=by kernel_rfl
theorem qlp (v a:Value) (w:World):(callMethod (.iface 134 v) qbx #[a]).run Tryz.prog w=.ok (.enter 254 #[v,a]) w:=by kernel_rfl
theorem qls (v a:Value) (w:World):(callMethod (.iface 131 v) qbx #[a]).run Tryz.prog w=.ok (.enter 246 #[v,a]) w:=by kernel_rfl
theorem qlq (v a:Value) (w:World):(callMethod (.iface 311 v) qbx #[a]).run Tryz.prog w=.ok (.enter 279 #[v,a]) w:=by kernel_rfl
theorem qlr (v a:Value) (w:World):(callMethod (.iface 193 v) qbx #[a]).run Tryz.prog w=.ok (.enter 271 #[v,a]) w:=by kernel_rfl
theorem qme {f:Fm} {off:Nat} {cs:List Value} (hF:Fr B wE w f.ws) (hb:∀w',Fr B wE w w'→∀(j:Nat) (u:Value),cs[j]? =some u→w'.cell? ⟨b,off+j,none⟩=some u) (hq:f.B=0∧f.W=[]:=by exact ⟨rfl,rfl⟩):
  ∀w',f.ok w'→∀(j:Nat) (u:Value),cs[j]? =some u→w'.cell? ⟨b,off+j,none⟩=some u:=fun w' hf=>hb w' (frQ hF (by have:Fr f.B f.W f.ws w':=hf;rw[hq.1,hq.2]at this;exact this))
theorem Ku (b:Bool):zc b<18446744073709551616:=by cases b<;>decide
def vtB (tx:Int) (ux:Int):List Nat:=ki 1 (u64 tx)++(ki 2 (u64 ux))
theorem qaO (tx:Int) (ux:Int) (h1:IntKind.i64.wrap tx=tx) (h2:IntKind.i64.wrap ux=ux):(vtB tx ux).length≤40:=by
 have o0:=kh (k:=1) (n:=(u64 tx)) ox (kX _)
 have o1:=kh (k:=2) (n:=(u64 ux)) ox (kX _)
 simp only[vtB,lA];omega
theorem qaM (B:Nat) (w:World) (bb:Nat) (D:List Nat) (tx:Int) (ux:Int) (h1:IntKind.i64.wrap tx=tx) (h2:IntKind.i64.wrap ux=ux) {ty un:ByteArray} (hb:Blk w b tVT [.string ty,.string un,.int .i64 tx,.int .i64 ux]) (h:Bf B w bb D) (hl:D.length+60≤100000000000):
  Calls Tryz.prog 223 #[ptr b,ptr bb] w (Ret fun _ w'=>Bf B w' bb (D++vtB tx ux)∧Fr B wE w w'):=by
 have o0:=kh (k:=1) (n:=(u64 tx)) ox (kX _)
 have o1:=kh (k:=2) (n:=(u64 ux)) ox (kX _)
 have hF0:Fr B wE w w:=Fr.refl _ _ _
 have hc0:=mc (f:=⟨w,0,[]⟩) (jk (Fr.refl B wE w) rfl _ _ hb) rfl
 refine jr (args:=[_,_]) [(0,_),(1,_)] 0 [] [] func223 rfl ntmps223 rfl rfl .nil ?_
 refine sQ fun K1=>jb (jM (k:=jM (k:=jN (k:=jF 2 xF so2 (k:=jL ag2 hc0 2 (k:=?_))))))
 refine ky (D':=D++ki 1 (u64 tx)) hF0 h call196 rfl rfl (fun w1 hf hB=>ve B w1 bb _ 1 tx ox h1 hB (by first|omega|(simp only[lA];omega))) fun v w10 hB1 hF1=>?_
 have hc0:=mc (f:=⟨w10,0,[]⟩) (jk hF1 rfl _ _ hb) rfl
 refine K1 (jb (jM (k:=jM (k:=jN (k:=jF 3 xF so2 (k:=jL ag2 hc0 3 (k:=?_)))))))
 refine ky (D':=D++ki 1 (u64 tx)++ki 2 (u64 ux)) hF1 hB1 call196 rfl rfl (fun w1 hf hB=>ve B w1 bb _ 2 ux ox h2 hB (by first|omega|(simp only[lA];omega))) fun v w11 hB2 hF2=>?_
 have hc0:=mc (f:=⟨w11,0,[]⟩) (jk hF2 rfl _ _ hb) rfl
 refine jw ?_
 refine ?_
 exact vK results223 fun w' hH hf=>⟨by have:=hB2.fr hf;simp only[vtB,List.append_assoc]at this⊢;exact this,frQ hF2 hf⟩
def mpB (id:Nat) (st:Nat) (li:Nat) (of:Nat) (fx:Int) (bx:Int) (q0:Bool) (q1:Bool) (q2:Bool) (q3:Bool):List Nat:=ki 1 id++(ki 2 st++(ki 3 li++(ki 4 of++(ki 5 (u64 fx)++(ki 6 (u64 bx)++(ki 7 (zc q0)++(ki 8 (zc q1)++(ki 9 (zc q2)++(ki 10 (zc q3))))))))))
theorem qja (id:Nat) (st:Nat) (li:Nat) (of:Nat) (fx:Int) (bx:Int) (q0:Bool) (q1:Bool) (q2:Bool) (q3:Bool) (lid:id<18446744073709551616) (lst:st<18446744073709551616) (lli:li<18446744073709551616) (lof:of<18446744073709551616) (h1:IntKind.i64.wrap fx=fx) (h2:IntKind.i64.wrap bx=bx):(mpB id st li of fx bx q0 q1 q2 q3).length≤200:=by
 have o0:=kh (k:=1) (n:=id) ox (ox)
 have o1:=kh (k:=2) (n:=st) ox (ox)
 have o2:=kh (k:=3) (n:=li) ox (ox)
 have o3:=kh (k:=4) (n:=of) ox (ox)
 have o4:=kh (k:=5) (n:=(u64 fx)) ox (kX _)
 have o5:=kh (k:=6) (n:=(u64 bx)) ox (kX _)
 have o6:=kh (k:=7) (n:=(zc q0)) ox ((Ku _))
 have o7:=kh (k:=8) (n:=(zc q1)) ox ((Ku _))
 have o8:=kh (k:=9) (n:=(zc q2)) ox ((Ku _))
 have o9:=kh (k:=10) (n:=(zc q3)) ox ((Ku _))
 simp only[mpB,lA];omega
theorem qiX (B:Nat) (w:World) (bb:Nat) (D:List Nat) (id:Nat) (st:Nat) (li:Nat) (of:Nat) (fx:Int) (bx:Int) (q0:Bool) (q1:Bool) (q2:Bool) (q3:Bool) (lid:id<18446744073709551616) (lst:st<18446744073709551616) (lli:li<18446744073709551616) (lof:of<18446744073709551616) (h1:IntKind.i64.wrap fx=fx) (h2:IntKind.i64.wrap bx=bx) {fi bu:ByteArray} (hb:Blk w b vO [.int .u64 (id:Nat),.int .u64 (st:Nat),.int .u64 (li:Nat),.int .u64 (of:Nat),.string fi,.string bu,.bool q0,.bool q1,.bool q2,.bool q3,.int .i64 fx,.int .i64 bx]) (h:Bf B w bb D) (hl:D.length+220≤100000000000):
  Calls Tryz.prog 228 #[ptr b,ptr bb] w (Ret fun _ w'=>Bf B w' bb (D++mpB id st li of fx bx q0 q1 q2 q3)∧Fr B wE w w'):=by
 have o0:=kh (k:=1) (n:=id) ox (ox)
 have o1:=kh (k:=2) (n:=st) ox (ox)
 have o2:=kh (k:=3) (n:=li) ox (ox)
 have o3:=kh (k:=4) (n:=of) ox (ox)
 have o4:=kh (k:=5) (n:=(u64 fx)) ox (kX _)
 have o5:=kh (k:=6) (n:=(u64 bx)) ox (kX _)
 have o6:=kh (k:=7) (n:=(zc q0)) ox ((Ku _))
 have o7:=kh (k:=8) (n:=(zc q1)) ox ((Ku _))
 have o8:=kh (k:=9) (n:=(zc q2)) ox ((Ku _))
 have o9:=kh (k:=10) (n:=(zc q3)) ox ((Ku _))
 have hF0:Fr B wE w w:=Fr.refl _ _ _
 have hc0:=mc (f:=⟨w,0,[]⟩) (jk (Fr.refl B wE w) rfl _ _ hb) rfl
 refine jr (args:=[_,_]) [(0,_),(1,_)] 0 [] [] func228 rfl ntmps228 rfl rfl .nil ?_
 refine sQ fun K1=>jb (jM (k:=jM (k:=jN (k:=jF 0 vg kU (k:=jL vy hc0 0 (k:=?_))))))
 refine ky (D':=D++ki 1 id) hF0 h call230 rfl rfl (fun w1 hf hB=>xL B w1 bb _ 1 id ox ox hB (by first|omega|(simp only[lA];omega))) fun v w10 hB1 hF1=>?_
 have hc0:=mc (f:=⟨w10,0,[]⟩) (jk hF1 rfl _ _ hb) rfl
 refine K1 (sQ fun K2=>jb (jM (k:=jM (k:=jN (k:=jF 1 vg kU (k:=jL vy hc0 1 (k:=?_)))))))
 refine ky (D':=D++ki 1 id++ki 2 st) hF1 hB1 call230 rfl rfl (fun w1 hf hB=>xL B w1 bb _ 2 st ox ox hB (by first|omega|(simp only[lA];omega))) fun v w11 hB2 hF2=>?_
 have hc0:=mc (f:=⟨w11,0,[]⟩) (jk hF2 rfl _ _ hb) rfl
 refine K2 (CJ.t [(0,_),(1,_)] (k:=sQ fun K3=>jb (jM (k:=jM (k:=jN (k:=jF 2 vg kU (k:=jL vy hc0 2 (k:=?_))))))))
 refine ky (D':=D++ki 1 id++ki 2 st++ki 3 li) hF2 hB2 call230 rfl rfl (fun w1 hf hB=>xL B w1 bb _ 3 li ox ox hB (by first|omega|(simp only[lA];omega))) fun v w12 hB3 hF3=>?_
 have hc0:=mc (f:=⟨w12,0,[]⟩) (jk hF3 rfl _ _ hb) rfl
 refine K3 (sQ fun K4=>jb (jM (k:=jM (k:=jN (k:=jF 3 vg kU (k:=jL vy hc0 3 (k:=?_)))))))
 refine ky (D':=D++ki 1 id++ki 2 st++ki 3 li++ki 4 of) hF3 hB3 call230 rfl rfl (fun w1 hf hB=>xL B w1 bb _ 4 of ox ox hB (by first|omega|(simp only[lA];omega))) fun v w13 hB4 hF4=>?_
 have hc0:=mc (f:=⟨w13,0,[]⟩) (jk hF4 rfl _ _ hb) rfl
 refine K4 (CJ.t [(0,_),(1,_)] (k:=sQ fun K5=>jb (jM (k:=jM (k:=jN (k:=jF 10 vg so2 (k:=jL ag2 hc0 10 (k:=?_))))))))
 refine ky (D':=D++ki 1 id++ki 2 st++ki 3 li++ki 4 of++ki 5 (u64 fx)) hF4 hB4 call196 rfl rfl (fun w1 hf hB=>ve B w1 bb _ 5 fx ox h1 hB (by first|omega|(simp only[lA];omega))) fun v w14 hB5 hF5=>?_
 have hc0:=mc (f:=⟨w14,0,[]⟩) (jk hF5 rfl _ _ hb) rfl
 refine K5 (sQ fun K6=>jb (jM (k:=jM (k:=jN (k:=jF 11 vg so2 (k:=jL ag2 hc0 11 (k:=?_)))))))
 refine ky (D':=D++ki 1 id++ki 2 st++ki 3 li++ki 4 of++ki 5 (u64 fx)++ki 6 (u64 bx)) hF5 hB5 call196 rfl rfl (fun w1 hf hB=>ve B w1 bb _ 6 bx ox h2 hB (by first|omega|(simp only[lA];omega))) fun v w15 hB6 hF6=>?_
 have hc0:=mc (f:=⟨w15,0,[]⟩) (jk hF6 rfl _ _ hb) rfl
 refine K6 (CJ.t [(0,_),(1,_)] (k:=sQ fun K7=>jb (jM (k:=jM (k:=jN (k:=jF 6 vg so4 (k:=jL ag4 hc0 6 (k:=?_))))))))
 refine ky (D':=D++ki 1 id++ki 2 st++ki 3 li++ki 4 of++ki 5 (u64 fx)++ki 6 (u64 bx)++ki 7 (zc q0)) hF6 hB6 call231 rfl rfl (fun w1 hf hB=>Vu B w1 bb _ 7 q0 ox hB (by first|omega|(simp only[lA];omega))) fun v w16 hB7 hF7=>?_
 have hc0:=mc (f:=⟨w16,0,[]⟩) (jk hF7 rfl _ _ hb) rfl
 refine K7 (sQ fun K8=>jb (jM (k:=jM (k:=jN (k:=jF 7 vg so4 (k:=jL ag4 hc0 7 (k:=?_)))))))
 refine ky (D':=D++ki 1 id++ki 2 st++ki 3 li++ki 4 of++ki 5 (u64 fx)++ki 6 (u64 bx)++ki 7 (zc q0)++ki 8 (zc q1)) hF7 hB7 call231 rfl rfl (fun w1 hf hB=>Vu B w1 bb _ 8 q1 ox hB (by first|omega|(simp only[lA];omega))) fun v w17 hB8 hF8=>?_
 have hc0:=mc (f:=⟨w17,0,[]⟩) (jk hF8 rfl _ _ hb) rfl
 refine K8 (CJ.t [(0,_),(1,_)] (k:=sQ fun K9=>jb (jM (k:=jM (k:=jN (k:=jF 8 vg so4 (k:=jL ag4 hc0 8 (k:=?_))))))))
 refine ky (D':=D++ki 1 id++ki 2 st++ki 3 li++ki 4 of++ki 5 (u64 fx)++ki 6 (u64 bx)++ki 7 (zc q0)++ki 8 (zc q1)++ki 9 (zc q2)) hF8 hB8 call231 rfl rfl (fun w1 hf hB=>Vu B w1 bb _ 9 q2 ox hB (by first|omega|(simp only[lA];omega))) fun v w18 hB9 hF9=>?_
 have hc0:=mc (f:=⟨w18,0,[]⟩) (jk hF9 rfl _ _ hb) rfl
 refine K9 (jb (jM (k:=jM (k:=jN (k:=jF 9 vg so4 (k:=jL ag4 hc0 9 (k:=?_)))))))
 refine ky (D':=D++ki 1 id++ki 2 st++ki 3 li++ki 4 of++ki 5 (u64 fx)++ki 6 (u64 bx)++ki 7 (zc q0)++ki 8 (zc q1)++ki 9 (zc q2)++ki 10 (zc q3)) hF9 hB9 call231 rfl rfl (fun w1 hf hB=>Vu B w1 bb _ 10 q3 ox hB (by first|omega|(simp only[lA];omega))) fun v w19 hB10 hF10=>?_
 have hc0:=mc (f:=⟨w19,0,[]⟩) (jk hF10 rfl _ _ hb) rfl
 refine jw ?_
 refine ?_
 exact vK results228 fun w' hH hf=>⟨by have:=hB10.fr hf;simp only[mpB,List.append_assoc]at this⊢;exact this,frQ hF10 hf⟩
def fnB (id:Nat) (nx:Int) (sx:Int) (fx:Int) (sl:Int):List Nat:=ki 1 id++(ki 2 (u64 nx)++(ki 3 (u64 sx)++(ki 4 (u64 fx)++(ki 5 (u64 sl)))))
theorem qjH (id:Nat) (nx:Int) (sx:Int) (fx:Int) (sl:Int) (lid:id<18446744073709551616) (h1:IntKind.i64.wrap nx=nx) (h2:IntKind.i64.wrap sx=sx) (h3:IntKind.i64.wrap fx=fx) (h4:IntKind.i64.wrap sl=sl):(fnB id nx sx fx sl).length≤100:=by
 have o0:=kh (k:=1) (n:=id) ox (ox)
 have o1:=kh (k:=2) (n:=(u64 nx)) ox (kX _)
 have o2:=kh (k:=3) (n:=(u64 sx)) ox (kX _)
 have o3:=kh (k:=4) (n:=(u64 fx)) ox (kX _)
 have o4:=kh (k:=5) (n:=(u64 sl)) ox (kX _)
 simp only[fnB,lA];omega
theorem qjE (B:Nat) (w:World) (bb:Nat) (D:List Nat) (id:Nat) (nx:Int) (sx:Int) (fx:Int) (sl:Int) (lid:id<18446744073709551616) (h1:IntKind.i64.wrap nx=nx) (h2:IntKind.i64.wrap sx=sx) (h3:IntKind.i64.wrap fx=fx) (h4:IntKind.i64.wrap sl=sl) {na sy fi:ByteArray} (hb:Blk w b xi [.int .u64 (id:Nat),.string na,.string sy,.string fi,.int .i64 sl,.int .i64 nx,.int .i64 sx,.int .i64 fx]) (h:Bf B w bb D) (hl:D.length+120≤100000000000):
  Calls Tryz.prog 246 #[ptr b,ptr bb] w (Ret fun _ w'=>Bf B w' bb (D++fnB id nx sx fx sl)∧Fr B wE w w'):=by
 have o0:=kh (k:=1) (n:=id) ox (ox)
 have o1:=kh (k:=2) (n:=(u64 nx)) ox (kX _)
 have o2:=kh (k:=3) (n:=(u64 sx)) ox (kX _)
 have o3:=kh (k:=4) (n:=(u64 fx)) ox (kX _)
 have o4:=kh (k:=5) (n:=(u64 sl)) ox (kX _)
 have hF0:Fr B wE w w:=Fr.refl _ _ _
 have hc0:=mc (f:=⟨w,0,[]⟩) (jk (Fr.refl B wE w) rfl _ _ hb) rfl
 refine jr (args:=[_,_]) [(0,_),(1,_)] 0 [] [] func246 rfl ntmps246 rfl rfl .nil ?_
 refine sQ fun K1=>jb (jM (k:=jM (k:=jN (k:=jF 0 xc kU (k:=jL vy hc0 0 (k:=?_))))))
 refine ky (D':=D++ki 1 id) hF0 h call230 rfl rfl (fun w1 hf hB=>xL B w1 bb _ 1 id ox ox hB (by first|omega|(simp only[lA];omega))) fun v w10 hB1 hF1=>?_
 have hc0:=mc (f:=⟨w10,0,[]⟩) (jk hF1 rfl _ _ hb) rfl
 refine K1 (sQ fun K2=>jb (jM (k:=jM (k:=jN (k:=jF 5 xc so2 (k:=jL ag2 hc0 5 (k:=?_)))))))
 refine ky (D':=D++ki 1 id++ki 2 (u64 nx)) hF1 hB1 call196 rfl rfl (fun w1 hf hB=>ve B w1 bb _ 2 nx ox h1 hB (by first|omega|(simp only[lA];omega))) fun v w11 hB2 hF2=>?_
 have hc0:=mc (f:=⟨w11,0,[]⟩) (jk hF2 rfl _ _ hb) rfl
 refine K2 (CJ.t [(0,_),(1,_)] (k:=sQ fun K3=>jb (jM (k:=jM (k:=jN (k:=jF 6 xc so2 (k:=jL ag2 hc0 6 (k:=?_))))))))
 refine ky (D':=D++ki 1 id++ki 2 (u64 nx)++ki 3 (u64 sx)) hF2 hB2 call196 rfl rfl (fun w1 hf hB=>ve B w1 bb _ 3 sx ox h2 hB (by first|omega|(simp only[lA];omega))) fun v w12 hB3 hF3=>?_
 have hc0:=mc (f:=⟨w12,0,[]⟩) (jk hF3 rfl _ _ hb) rfl
 refine K3 (sQ fun K4=>jb (jM (k:=jM (k:=jN (k:=jF 7 xc so2 (k:=jL ag2 hc0 7 (k:=?_)))))))
 refine ky (D':=D++ki 1 id++ki 2 (u64 nx)++ki 3 (u64 sx)++ki 4 (u64 fx)) hF3 hB3 call196 rfl rfl (fun w1 hf hB=>ve B w1 bb _ 4 fx ox h3 hB (by first|omega|(simp only[lA];omega))) fun v w13 hB4 hF4=>?_
 have hc0:=mc (f:=⟨w13,0,[]⟩) (jk hF4 rfl _ _ hb) rfl
 refine K4 (CJ.t [(0,_),(1,_)] (k:=jb (jM (k:=jM (k:=jN (k:=jF 4 xc so2 (k:=jL ag2 hc0 4 (k:=?_))))))))
 refine ky (D':=D++ki 1 id++ki 2 (u64 nx)++ki 3 (u64 sx)++ki 4 (u64 fx)++ki 5 (u64 sl)) hF4 hB4 call196 rfl rfl (fun w1 hf hB=>ve B w1 bb _ 5 sl ox h4 hB (by first|omega|(simp only[lA];omega))) fun v w14 hB5 hF5=>?_
 have hc0:=mc (f:=⟨w14,0,[]⟩) (jk hF5 rfl _ _ hb) rfl
 refine jw ?_
 refine ?_
 exact vK results246 fun w' hH hf=>⟨by have:=hB5.fr hf;simp only[fnB,List.append_assoc]at this⊢;exact this,frQ hF5 hf⟩
def lnB (fx:Nat) (li:Int):List Nat:=ki 1 fx++(ki 2 (u64 li))
theorem qji (fx:Nat) (li:Int) (lfx:fx<18446744073709551616) (h1:IntKind.i64.wrap li=li):(lnB fx li).length≤40:=by
 have o0:=kh (k:=1) (n:=fx) ox (ox)
 have o1:=kh (k:=2) (n:=(u64 li)) ox (kX _)
 simp only[lnB,lA];omega
theorem qjf (B:Nat) (w:World) (bb:Nat) (D:List Nat) (fx:Nat) (li:Int) (lfx:fx<18446744073709551616) (h1:IntKind.i64.wrap li=li) {off:Nat} {fp:Value} (hb:∀w',Fr B wE w w'→∀(j:Nat) (u:Value),[fp,.int .i64 li,.int .u64 (fx:Nat)][j]? =some u→w'.cell? ⟨b,off+j,none⟩=some u) (h:Bf B w bb D) (hl:D.length+60≤100000000000):
  Calls Tryz.prog 279 #[.pointer (some ⟨b,off,none⟩),ptr bb] w (Ret fun _ w'=>Bf B w' bb (D++lnB fx li)∧Fr B wE w w'):=by
 have o0:=kh (k:=1) (n:=fx) ox (ox)
 have o1:=kh (k:=2) (n:=(u64 li)) ox (kX _)
 have hF0:Fr B wE w w:=Fr.refl _ _ _
 have hc0:=qme (f:=⟨w,0,[]⟩) (Fr.refl B wE w) hb
 refine jr (args:=[_,_]) [(0,_),(1,_)] 0 [] [] func279 rfl ntmps279 rfl rfl .nil ?_
 refine sQ fun K1=>jb (jM (k:=jM (k:=jN (k:=jF 2 Jj kU (k:=jL vy hc0 2 (k:=?_))))))
 refine ky (D':=D++ki 1 fx) hF0 h call230 rfl rfl (fun w1 hf hB=>xL B w1 bb _ 1 fx ox ox hB (by first|omega|(simp only[lA];omega))) fun v w10 hB1 hF1=>?_
 have hc0:=qme (f:=⟨w10,0,[]⟩) hF1 hb
 refine K1 (jb (jM (k:=jM (k:=jN (k:=jF 1 Jj so2 (k:=jL ag2 hc0 1 (k:=?_)))))))
 refine ky (D':=D++ki 1 fx++ki 2 (u64 li)) hF1 hB1 call196 rfl rfl (fun w1 hf hB=>ve B w1 bb _ 2 li ox h1 hB (by first|omega|(simp only[lA];omega))) fun v w11 hB2 hF2=>?_
 have hc0:=qme (f:=⟨w11,0,[]⟩) hF2 hb
 refine jw ?_
 refine ?_
 exact vK results279 fun w' hH hf=>⟨by have:=hB2.fr hf;simp only[lnB,List.append_assoc]at this⊢;exact this,frQ hF2 hf⟩
def lbB (kx:Int) (sx:Int) (nx:Int):List Nat:=ki 1 (u64 kx)++(ki 2 (u64 sx)++(ki 3 (u64 nx)))
theorem qjv (kx:Int) (sx:Int) (nx:Int) (h1:IntKind.i64.wrap kx=kx) (h2:IntKind.i64.wrap sx=sx) (h3:IntKind.i64.wrap nx=nx):(lbB kx sx nx).length≤60:=by
 have o0:=kh (k:=1) (n:=(u64 kx)) ox (kX _)
 have o1:=kh (k:=2) (n:=(u64 sx)) ox (kX _)
 have o2:=kh (k:=3) (n:=(u64 nx)) ox (kX _)
 simp only[lbB,lA];omega
theorem qjs (B:Nat) (w:World) (bb:Nat) (D:List Nat) (kx:Int) (sx:Int) (nx:Int) (h1:IntKind.i64.wrap kx=kx) (h2:IntKind.i64.wrap sx=sx) (h3:IntKind.i64.wrap nx=nx) (h:Bf B w bb D) (hl:D.length+80≤100000000000):
  Calls Tryz.prog 271 #[.agg #[.int .i64 kx,.int .i64 sx,.int .i64 nx],ptr bb] w (Ret fun _ w'=>Bf B w' bb (D++lbB kx sx nx)∧Fr B wE w w'):=by
 have o0:=kh (k:=1) (n:=(u64 kx)) ox (kX _)
 have o1:=kh (k:=2) (n:=(u64 sx)) ox (kX _)
 have o2:=kh (k:=3) (n:=(u64 nx)) ox (kX _)
 refine jr (args:=[_,_]) [(0,_),(1,_)] 0 [] [] func271 rfl ntmps271 rfl rfl .nil ?_
 refine sQ fun K1=>jb (qA (vs:=[_,_,_]) rfl rfl fun b2=>K1 (sQ fun K2=>?_))
 intro wb hHb hfb
 have hb:=hHb.get (i:=0) rfl rfl
 have hF0:Fr B wE wb wb:=Fr.refl _ _ _
 have h:Bf B wb bb D:=h.fr hfb
 have hc0:=mc (f:=⟨wb,0,[]⟩) hb rfl
 refine C.begin ⟨wb,0,[]⟩ [] jx .nil ?_
 refine jb (jM (k:=jF 0 QO so2 (k:=jL ag2 hc0 0 (k:=?_))))
 refine ky (D':=D++ki 1 (u64 kx)) hF0 h call196 rfl rfl (fun w1 hf hB=>ve B w1 bb _ 1 kx ox h1 hB (by first|omega|(simp only[lA];omega))) fun v w10 hB1 hF1=>?_
 have hc0:=mc (f:=⟨w10,0,[]⟩) (jk hF1 rfl _ _ hb) rfl
 refine K2 (sQ fun K3=>jb (jM (k:=jF 1 QO so2 (k:=jL ag2 hc0 1 (k:=?_)))))
 refine ky (D':=D++ki 1 (u64 kx)++ki 2 (u64 sx)) hF1 hB1 call196 rfl rfl (fun w1 hf hB=>ve B w1 bb _ 2 sx ox h2 hB (by first|omega|(simp only[lA];omega))) fun v w11 hB2 hF2=>?_
 have hc0:=mc (f:=⟨w11,0,[]⟩) (jk hF2 rfl _ _ hb) rfl
 refine K3 (jb (jM (k:=jF 2 QO so2 (k:=jL ag2 hc0 2 (k:=?_)))))
 refine ky (D':=D++ki 1 (u64 kx)++ki 2 (u64 sx)++ki 3 (u64 nx)) hF2 hB2 call196 rfl rfl (fun w1 hf hB=>ve B w1 bb _ 3 nx ox h3 hB (by first|omega|(simp only[lA];omega))) fun v w12 hB3 hF3=>?_
 have hc0:=mc (f:=⟨w12,0,[]⟩) (jk hF3 rfl _ _ hb) rfl
 refine jw ?_
 refine ?_
 exact vK results271 fun w' hH hf=>⟨by have:=hB3.fr hf;simp only[lbB,List.append_assoc]at this⊢;exact this,frQ (frE (hfb.quiet _ _) hF3) hf⟩
def Enc (B bb:Nat) (w:World) (g:FuncId) (rv:Value) (M:List Nat):Prop:=∀w1 D,Fr B wE w w1→Bf B w1 bb D→D.length+M.length+100000000≤100000000000→Calls Tryz.prog g #[rv,ptr bb] w1 (Ret fun _ w'=>Bf B w' bb (D++M)∧Fr B wE w1 w')
theorem Enc.later {bb:Nat} {g:FuncId} {rv:Value} {M:List Nat} (h:Enc B bb w g rv M) (k:Fr B wE w w'):Enc B bb w' g rv M:=fun w1 D hF hB hl=>h w1 D (frE k hF) hB hl
def msB (tag:Nat) (Ms:List (List Nat)):List Nat:=Ms.flatMap fun M=>xO (.bys tag M)
theorem Ka {tag:Nat} {Ms:List (List Nat)} (hk:k<Ms.length):msB tag (Ms.take (k+1))=msB tag (Ms.take k)++xO (.bys tag Ms[k]):=xU hk
theorem VU (tag:Nat) (Ms:List (List Nat)) (k:Nat):(msB tag (Ms.take k)).length≤(msB tag Ms).length:=yu Ms _ k
theorem Qp (tag:Nat) (M:List Nat):M.length≤(xO (.bys tag M)).length:=by simp[xO];omega
theorem osEl {α:Type} {sz:Nat} {xs:List α} {c:α→List Value} (hsz:∀a,(c a).length=sz) {a:α} (hW:wE.all (fun t=> !Nat.beq t T)=true) (hc:∀f:Fm,f.ws=w→f.W.all (fun t=> !Nat.beq t T)=true→∀w',f.ok w'→∀(j:Nat) (u:Value),(xs.flatMap c)[j]? =some u→w'.cell? ⟨b,j,none⟩=some u) (ha:xs[k]? =some a):
  ∀w',Fr B wE w w'→∀(j:Nat) (u:Value),(c a)[j]? =some u→w'.cell? ⟨b,0+k*sz+j,none⟩=some u:=fun w' hF j u hu=>by
 rw[Nat.zero_add]
 exact hc ⟨w,B,wE⟩ rfl hW w' hF _ u (xg hsz ha j u hu)
def cLn (q:Value×Int×Nat):List Value:=[q.1,.int .i64 q.2.1,.int .u64 (q.2.2:Nat)]
def lcB (id mx ad:Nat) (lns:List (Value×Int×Nat)):List Nat:=ki 1 id++(ki 2 mx++(ki 3 ad++msB 4 (lns.map fun q=>lnB q.2.2 q.2.1)))
structure LnOK (lns:List (Value×Int×Nat)):Prop where
 ok:∀q∈lns,q.2.2<18446744073709551616∧IntKind.i64.wrap q.2.1=q.2.1
 len:lns.length≤2000000
set_option maxHeartbeats 1000000 in
theorem qjl (B:Nat) (w:World) (bb:Nat) (b:Nat) (id mx ad:Nat) (mp:Option Addr) (lv:Value) (fo:Bool) (lns:List (Value×Int×Nat)) (h1:id<18446744073709551616) (h2:mx<18446744073709551616) (h3:ad<18446744073709551616) (hq:LnOK lns)
  (hb:Blk w b qH [.int .u64 (id:Nat),.pointer mp,.int .u64 (ad:Nat),lv,.bool fo,.int .u64 (mx:Nat)]) (hs:OS kq 3 w lv (lns.flatMap cLn)):Enc B bb w 254 (ptr b) (lcB id mx ad lns):=by
 intro w0 D hF h hl
 have hb:=jk hF rfl _ _ hb
 have hs:=hs.mono (jk hF rfl)
 clear hF
 obtain ⟨ps,ls,cs,rfl,hls,hlsc,hlsx⟩:=hs.openF
 have hl3:=qw (c:=cLn) (sz:=3) (fun _=>rfl) lns
 obtain rfl:ls=lns.length:=by omega
 have o0:=kh (k:=1) (n:=id) ox h1
 have o1:=kh (k:=2) (n:=mx) ox h2
 have o2:=kh (k:=3) (n:=ad) ox h3
 have hlen:(lcB id mx ad lns).length=(ki 1 id).length+((ki 2 mx).length+((ki 3 ad).length+(msB 4 (lns.map fun q=>lnB q.2.2 q.2.1)).length)):=by simp only[lcB,lA]
 have hc0:=mc (f:=⟨w0,0,[]⟩) hb rfl
 refine jr (args:=[_,_]) [(0,_),(1,_)] 0 [] [] func254 rfl ntmps254 rfl rfl .nil ?_
 refine sQ fun K1=>jb (jM (k:=jM (k:=jN (k:=jF 0 vc kU (k:=jL vy hc0 0 (k:=?_))))))
 refine ky (D':=D++ki 1 id) (Fr.refl B wE w0) h call230 rfl rfl (fun w1 hf hB=>xL B w1 bb _ 1 id ox h1 hB ox) fun v w1 hB1 hF1=>?_
 have hc0:=mc (f:=⟨w1,0,[]⟩) (jk hF1 rfl _ _ hb) rfl
 refine K1 (sQ fun K2=>jb (jM (k:=jM (k:=jN (k:=jF 5 vc kU (k:=jL vy hc0 5 (k:=?_)))))))
 refine ky (D':=D++ki 1 id++ki 2 mx) hF1 hB1 call230 rfl rfl (fun w1 hf hB=>xL B w1 bb _ 2 mx ox h2 hB (by simp only[lA];omega)) fun v w2 hB2 hF2=>?_
 have hc0:=mc (f:=⟨w2,0,[]⟩) (jk hF2 rfl _ _ hb) rfl
 refine K2 (CJ.t [(0,_),(1,_)] (k:=sQ fun K3=>jb (jM (k:=jM (k:=jN (k:=jF 2 vc kU (k:=jL vy hc0 2 (k:=?_))))))))
 refine ky (D':=D++ki 1 id++ki 2 mx++ki 3 ad) hF2 hB2 call230 rfl rfl (fun w1 hf hB=>xL B w1 bb _ 3 ad ox h3 hB (by simp only[lA];omega)) fun v w3 hB3 hF3=>?_
 have hc0:=mc (f:=⟨w3,0,[]⟩) (jk hF3 rfl _ _ hb) rfl
 refine K3 (sQ fun K4=>jb (jM (k:=jN (k:=jF 3 vc xW (k:=jL zX hc0 3 (k:=jE xX (k:=jM (k:=K4 (CJ.t [(0,_),(1,_),(27,_),(28,_)] (k:=jh ?_))))))))))
 intro w4 hH4 hf4
 refine vk (σ:=Nat) (fun k=>[(0,ptr b),(1,ptr bb),(27,.int .i64 (lns.length:Nat)),(28,.int .i64 (k:Nat))])
  (fun k w'=>k≤lns.length∧Bf B w' bb (D++ki 1 id++ki 2 mx++ki 3 ad++msB 4 ((lns.map fun q=>lnB q.2.2 q.2.1).take k))∧Fr B wE w0 w') (fun k=>lns.length - k) 0 sR ⟨Nat.zero_le _,by simpa[msB]using hB3.fr hf4,frQ hF3 hf4⟩ ?_
 rintro k w5 ⟨hk,hB5,hF5⟩ KL hKL
 have hc0:=mc (f:=⟨w5,0,[]⟩) (jk hF5 rfl _ _ hb) rfl
 have hql:=hq.len
 refine C.begin ⟨w5,0,[]⟩ [] jx .nil ?_
 refine sQ fun K5=>jb (jS (k:=K5 (sQ fun K6=>?_)))
 refine jq rfl (fun h29=>?_) (fun h29=>?_)
 ·have hk':k<lns.length:=by omega
  obtain ⟨bq,rfl,hsq⟩:=hlsx ox
  have hq0:=hq.ok lns[k] (List.getElem_mem hk')
  have hel:=osEl (B:=B) (c:=cLn) (sz:=3) (fun _=>rfl) rfl hsq (gE hk')
  have hst:=Ka (tag:=4) (Ms:=lns.map fun q=>lnB q.2.2 q.2.1) (k:=k) (by simpa using hk')
  have hle:=VU 4 (lns.map fun q=>lnB q.2.2 q.2.1) (k+1)
  have hMk:(lns.map fun q=>lnB q.2.2 q.2.1)[k]'(by simpa using hk')=lnB lns[k].2.2 lns[k].2.1:=by simp
  rw[hMk]at hst
  have hst':=congrArg List.length hst
  rw[lA]at hst'
  have hel':=Qp 4 (lnB lns[k].2.2 lns[k].2.1)
  refine jg (K6 (sQ fun K7=>jh (sQ fun K8=>jb (jM (k:=jA (k:=K8 (jb (jM (k:=jM (k:=jN (k:=jF 3 vc xW (k:=jL zX hc0 3 (k:=?_)))))))))))))
  refine jM (k:=jJ xX xE (k:=?_))
  refine jn rfl (fun _ _ h=>zK qee rfl rfl h) ?_
  refine ky (D':=D++ki 1 id++ki 2 mx++ki 3 ad++msB 4 ((lns.map fun q=>lnB q.2.2 q.2.1).take (k+1))) hF5 hB5 call194 rfl rfl (fun w1 hf hB=>by
    rw[hst, ← List.append_assoc]
    exact yZ B w1 bb _ 4 _ _ _ _ _ ox hB (by simp only[lA];omega) (fun w=>qlq _ _ w) fun w2 hf2 hB2'=>qjf B w2 bb _ _ _ hq0.1 hq0.2 (fun w' hF=>hel w' (frE (frQ (frQ hF5 hf) hf2) hF)) hB2' (by simp only[lA];omega)) fun v w6 hB6 hF6=>?_
  refine K7 (CJ.t [(0,_),(1,_),(27,_),(28,_)] (k:=jb (jI (k:=jM (k:=jw (ji ?_))))))
  exact fun w' hH hf=>hKL (k+1) _ w' ⟨hk',hB6.fr hf,frQ hF6 hf⟩ ox sR
 ·have hke:k=lns.length:=by omega
  subst hke
  rw[tL zp]at hB5
  refine jt (qg (qg (xy (?_))))
  exact vK results254 fun w' hH hf=>⟨by have:=hB5.fr hf;simp only[lcB,List.append_assoc]at this⊢;exact this,frQ hF5 hf⟩
def cLb (q:Int×Int×Int):List Value:=[.int .i64 q.1,.int .i64 q.2.1,.int .i64 q.2.2]
def zsB (tag:Nat) (zs:List Int):List Nat:=zs.flatMap fun z=>JZ tag (u64 z)
theorem qdV {tag:Nat} (ht:tag<1048576) (zs:List Int):(zsB tag zs).length≤20*zs.length:=by
 induction zs with
 |nil=>simp[zsB]
 |cons z r ih=>
  have:=Zc ht (kX z)
  have h:(zsB tag (z::r)).length=(JZ tag (u64 z)).length+(zsB tag r).length:=by simp[zsB]
  rw[h,List.length_cons];omega
theorem qdY {tag:Nat} (ht:tag<1048576) {ns:List Nat} (h:∀n∈ns,n<18446744073709551616) (hl:ns.length≤2000000):(usB tag ns).length≤20*ns.length+20:=by
 unfold usB
 split
 ·have:=XG h
  have h2:=Qj (len:=(ns.flatMap vint).length) ht ox
  have:(xO (.bys tag (ns.flatMap vint))).length=(qr (ns.flatMap vint).length tag).length+(ns.flatMap vint).length:=by simp[xO,qr];omega
  omega
 ·have:=XL ht h;omega
def smB (ns:List Nat) (zs:List Int) (lbs:List (Int×Int×Int)):List Nat:=usB 1 ns++(zsB 2 zs++msB 3 (lbs.map fun q=>lbB q.1 q.2.1 q.2.2))
structure SmOK (ns:List Nat) (zs:List Int) (lbs:List (Int×Int×Int)):Prop where
 okn:∀n∈ns,n<18446744073709551616
 okl:∀q∈lbs,IntKind.i64.wrap q.1=q.1∧IntKind.i64.wrap q.2.1=q.2.1∧IntKind.i64.wrap q.2.2=q.2.2
 l1:ns.length≤2000000
 l2:zs.length≤2000000
 l3:lbs.length≤2000000
set_option maxHeartbeats 1000000 in
theorem qiA (B:Nat) (w:World) (bb:Nat) (b:Nat) (lo vv la na nu iv xv:Value) (ns:List Nat) (zs:List Int) (lbs:List (Int×Int×Int)) (hq:SmOK ns zs lbs)
  (hb:Blk w b kY [lo,vv,la,na,nu,iv,xv]) (hi:OS vR 1 w iv (ns.map fun (n:Nat)=>Value.int .u64 (n:Int))) (hv:OS qd 1 w vv (zs.map (.int .i64))) (hx:OS vq 3 w xv (lbs.flatMap cLb)):Enc B bb w 261 (ptr b) (smB ns zs lbs):=by
 intro w0 D hF h hl
 have hb:=jk hF rfl _ _ hb
 have hi:=hi.mono (jk hF rfl)
 have hv:=hv.mono (jk hF rfl)
 have hx:=hx.mono (jk hF rfl)
 clear hF
 obtain ⟨pz,lz,cz,rfl,hlz, -,hzx⟩:=hv.openF
 obtain rfl:lz=zs.length:=by simpa using hlz.symm
 obtain ⟨pl,ll,cl,rfl,hll, -,hlx⟩:=hx.openF
 have hl3:=qw (c:=cLb) (sz:=3) (fun _=>rfl) lbs
 obtain rfl:ll=lbs.length:=by omega
 have o0:=qdY (tag:=1) ox hq.okn (by have:=hq.l1;omega)
 have o1:=qdV (tag:=2) ox zs
 have q1:=hq.l1
 have q2:=hq.l2
 have q3:=hq.l3
 have hlen:(smB ns zs lbs).length=(usB 1 ns).length+((zsB 2 zs).length+(msB 3 (lbs.map fun q=>lbB q.1 q.2.1 q.2.2)).length):=by simp only[smB,lA]
 have hc0:=mc (f:=⟨w0,0,[]⟩) hb rfl
 refine jr (args:=[_,_]) [(0,_),(1,_)] 0 [] [] func261 rfl ntmps261 rfl rfl .nil ?_
 refine sQ fun K1=>jb (jM (k:=jM (k:=jN (k:=jF 5 vl XH (k:=jL qgf hc0 5 (k:=?_))))))
 refine ky (D':=D++usB 1 ns) (Fr.refl B wE w0) h call263 rfl rfl (fun w1 hf hB=>qeV B w1 bb _ 1 _ ns ox (hi.mono fun b cs h=>hf.blk h (.inr zp)) hq.okn hB ox) fun v w1 hB1 hF1=>?_
 have hc0:=mc (f:=⟨w1,0,[]⟩) (jk hF1 rfl _ _ hb) rfl
 refine K1 (sQ fun K2=>sQ fun K3=>jb (jM (k:=jN (k:=jF 1 vl Jt (k:=jL KC hc0 1 (k:=jE xI (k:=jM (k:=K3 (CJ.t [(0,_),(1,_),(17,_),(18,_),(19,_)] (k:=jh ?_))))))))))
 intro w2 hH2 hf2
 refine vk (σ:=Nat) (fun k=>[(0,ptr b),(1,ptr bb),(17,.slice pz zs.length cz),(18,.int .i64 (zs.length:Nat)),(19,.int .i64 (k:Nat))])
  (fun k w'=>k≤zs.length∧Bf B w' bb (D++usB 1 ns++zsB 2 (zs.take k))∧Fr B wE w0 w') (fun k=>zs.length - k) 0 sR ⟨Nat.zero_le _,by simpa[zsB]using hB1.fr hf2,frQ hF1 hf2⟩ ?_
 rintro k w3 ⟨hk,hB3,hF3⟩ KL hKL
 have hc0:=mc (f:=⟨w3,0,[]⟩) (jk hF3 rfl _ _ hb) rfl
 refine C.begin ⟨w3,0,[]⟩ [] jx .nil ?_
 refine sQ fun K4=>jb (jS (k:=K4 (sQ fun K5=>?_)))
 refine jq rfl (fun h20=>?_) (fun h20=>?_)
 ·have hk':k<zs.length:=by omega
  obtain ⟨bq,rfl,hsq⟩:=hzx ox
  have hcell:=zu (k:=k) (v:=.int .i64 zs[k]) hF3 rfl hsq (by simp[hk'])
  have hst:zsB 2 (zs.take (k+1))=zsB 2 (zs.take k)++JZ 2 (u64 zs[k]):=xU hk'
  have hle:(zsB 2 (zs.take k)).length≤(zsB 2 zs).length:=yu zs _ k
  refine jg (K5 (sQ fun K6=>jh (sQ fun K7=>jb (jJ xI so2 (k:=jL ag2 hcell 0 (k:=jA (k:=K7 (jb (jM (k:=jM (k:=?_)))))))))))
  refine ky (D':=D++usB 1 ns++zsB 2 (zs.take (k+1))) hF3 hB3 call216 rfl rfl (fun w4 hf hB=>by rw[hst, ← List.append_assoc];exact qey B w4 bb _ 2 zs[k] ox hB (by simp only[lA];omega)) fun v w4 hB4 hF4=>?_
  refine K6 (jb (jI (k:=jM (k:=jw (ji ?_)))))
  exact fun w' hH hf=>hKL (k+1) _ w' ⟨hk',hB4.fr hf,frQ hF4 hf⟩ ox sR
 ·have hke:k=zs.length:=by omega
  subst hke
  rw[tL (Nat.le_refl _)]at hB3
  refine jt (K2 (sQ fun K8=>jb (jM (k:=jN (k:=jF 6 vl JV (k:=jL ZA hc0 6 (k:=jE Qu (k:=jM (k:=K8 (CJ.t [(1,_),(30,_),(31,_),(32,_)] (k:=jh ?_)))))))))))
  intro w5 hH5 hf5
  refine vk (σ:=Nat) (fun k=>[(1,ptr bb),(30,.slice pl lbs.length cl),(31,.int .i64 (lbs.length:Nat)),(32,.int .i64 (k:Nat))])
   (fun k w'=>k≤lbs.length∧Bf B w' bb (D++usB 1 ns++zsB 2 zs++msB 3 ((lbs.map fun q=>lbB q.1 q.2.1 q.2.2).take k))∧Fr B wE w0 w') (fun k=>lbs.length - k) 0 sR ⟨Nat.zero_le _,by simpa[msB]using hB3.fr hf5,frQ hF3 hf5⟩ ?_
  rintro k w6 ⟨hk,hB6,hF6⟩ KL hKL
  refine C.begin ⟨w6,0,[]⟩ [] jx .nil ?_
  refine sQ fun K9=>jb (jS (k:=K9 (sQ fun K10=>?_)))
  refine jq rfl (fun h33=>?_) (fun h33=>?_)
  ·have hk':k<lbs.length:=by omega
   obtain ⟨bq,rfl,hsq⟩:=hlx ox
   have hq0:=hq.okl lbs[k] (List.getElem_mem hk')
   have hel:=osEl (B:=B) (c:=cLb) (sz:=3) (fun _=>rfl) rfl hsq (gE hk')
   have hcell:∀w',Fm.ok ⟨w6,0,[]⟩ w'→∀(j:Nat) (u:Value),(cLb lbs[k])[j]? =some u→w'.cell? ⟨bq,0+k*3+j,none⟩=some u:=fun w' hf=>hel w' (frQ hF6 hf)
   have hst:=Ka (tag:=3) (Ms:=lbs.map fun q=>lbB q.1 q.2.1 q.2.2) (k:=k) (by simpa using hk')
   have hle:=VU 3 (lbs.map fun q=>lbB q.1 q.2.1 q.2.2) (k+1)
   have hMk:(lbs.map fun q=>lbB q.1 q.2.1 q.2.2)[k]'(by simpa using hk')=lbB lbs[k].1 lbs[k].2.1 lbs[k].2.2:=by simp
   rw[hMk]at hst
   have hst':=congrArg List.length hst
   rw[lA]at hst'
   have hel':=Qp 3 (lbB lbs[k].1 lbs[k].2.1 lbs[k].2.2)
   refine jg (K10 (sQ fun K11=>jh (sQ fun K12=>jb (jJ Qu Qt (k:=?_)))))
   refine jp rfl (fun a w ha hH hf=>kD qeK Qt rfl rfl (hcell w (hf)) ha) (jW (zs:=[(.int .i64 0),(.int .i64 0),(.int .i64 0)]) qbF rfl fun b7=>jB [_,_,_] [_] 0 Qt (k:=K12 (jb (jM (k:=?_)))))
   refine jp rfl (fun a w ha hH hf=>vo (vs:=[_,_,_]) 0 rfl rfl qeK Qt rfl rfl rfl ha hH) (jn rfl (fun _ _ h=>zK QO rfl rfl h) ?_)
   refine ky (D':=D++usB 1 ns++zsB 2 zs++msB 3 ((lbs.map fun q=>lbB q.1 q.2.1 q.2.2).take (k+1))) hF6 hB6 call194 rfl rfl (fun w1 hf hB=>by
     rw[hst, ← List.append_assoc]
     exact yZ B w1 bb _ 3 _ _ _ _ _ ox hB (by simp only[lA];omega) (fun w=>qlr _ _ w) fun w2 hf2 hB2'=>qjs B w2 bb _ _ _ _ hq0.1 hq0.2.1 hq0.2.2 hB2' (by simp only[lA];omega)) fun v w7 hB7 hF7=>?_
   refine K11 (jb (jI (k:=jM (k:=jw (ji ?_)))))
   exact fun w' hH hf=>hKL (k+1) _ w' ⟨hk',hB7.fr hf,frQ hF7 hf⟩ ox sR
  ·have hke:k=lbs.length:=by omega
   subst hke
   rw[tL zp]at hB6
   refine jt (qg (qg (xy (?_))))
   exact vK results261 fun w' hH hf=>⟨by have:=hB6.fr hf;simp only[smB,List.append_assoc]at this⊢;exact this,frQ hF6 hf⟩
structure yX (B bb:Nat) (w:World) (g:FuncId) (bs:List Nat) (Ms:List (List Nat)):Prop where
 len:bs.length=Ms.length
 each:∀(i:Nat) b M,bs[i]? =some b→Ms[i]? =some M→Enc B bb w g (ptr b) M
 few:Ms.length≤2000000
structure PIn where (ts ss ms ls fs:List (List Nat)) (tab:List ByteArray) (dx kx ti du pe tx ux:Int)
def pfB (q:PIn):List Nat:=msB 1 q.ts++(msB 2 q.ss++(msB 3 q.ms++(msB 4 q.ls++(msB 5 q.fs++(xD 6 q.tab++(ki 7 (u64 q.dx)++(ki 8 (u64 q.kx)++(ki 9 (u64 q.ti)++(ki 10 (u64 q.du)++((if q.tx≠0∨q.ux≠0 then xO (.bys 11 (vtB q.tx q.ux)) else [])++ki 12 (u64 q.pe)))))))))))
structure PInOK (q:PIn):Prop where
 w1:IntKind.i64.wrap q.dx=q.dx
 w2:IntKind.i64.wrap q.kx=q.kx
 w3:IntKind.i64.wrap q.ti=q.ti
 w4:IntKind.i64.wrap q.du=q.du
 w5:IntKind.i64.wrap q.pe=q.pe
 w6:IntKind.i64.wrap q.tx=q.tx
 w7:IntKind.i64.wrap q.ux=q.ux
set_option maxHeartbeats 4000000 in
theorem qiN (B:Nat) (w:World) (bb:Nat) (b per:Nat) (q:PIn) (df dr ke ty un:ByteArray) (tv sv mv lv fv cv cx sx:Value) (dsx:Int) (bt bs bm bl bf:List Nat) (hq:PInOK q)
  (hb:Blk w b ju [tv,.string df,sv,mv,lv,fv,cv,.string dr,.string ke,.int .i64 q.ti,.int .i64 q.du,ptr per,.int .i64 q.pe,cx,.int .i64 q.dx,.int .i64 q.kx,sx,.int .i64 dsx]) (hper:Blk w per tVT [.string ty,.string un,.int .i64 q.tx,.int .i64 q.ux])
  (h1:OS pVT 1 w tv (bt.map ptr)) (h2:OS xS 1 w sv (bs.map ptr)) (h3:OS xZ 1 w mv (bm.map ptr)) (h4:OS vD 1 w lv (bl.map ptr)) (h5:OS yq 1 w fv (bf.map ptr)) (h6:OS qc 1 w sx (q.tab.map .string))
  (e1:yX B bb w 223 bt q.ts) (e2:yX B bb w 261 bs q.ss) (e3:yX B bb w 228 bm q.ms) (e4:yX B bb w 254 bl q.ls) (e5:yX B bb w 246 bf q.fs):Enc B bb w 192 (ptr b) (pfB q):=by
 intro w0 D hF h hl
 have hb:=jk hF rfl _ _ hb
 have hper:=jk hF rfl _ _ hper
 have h6:=h6.mono (jk hF rfl)
 have h1:=h1.mono (jk hF rfl)
 obtain ⟨p1,l1,c1,rfl,hl1, -,hx1⟩:=h1.openF
 obtain rfl:l1=q.ts.length:=by have:=e1.len;simp at hl1;omega
 have h2:=h2.mono (jk hF rfl)
 obtain ⟨p2,l2,c2,rfl,hl2, -,hx2⟩:=h2.openF
 obtain rfl:l2=q.ss.length:=by have:=e2.len;simp at hl2;omega
 have h3:=h3.mono (jk hF rfl)
 obtain ⟨p3,l3,c3,rfl,hl3, -,hx3⟩:=h3.openF
 obtain rfl:l3=q.ms.length:=by have:=e3.len;simp at hl3;omega
 have h4:=h4.mono (jk hF rfl)
 obtain ⟨p4,l4,c4,rfl,hl4, -,hx4⟩:=h4.openF
 obtain rfl:l4=q.ls.length:=by have:=e4.len;simp at hl4;omega
 have h5:=h5.mono (jk hF rfl)
 obtain ⟨p5,l5,c5,rfl,hl5, -,hx5⟩:=h5.openF
 obtain rfl:l5=q.fs.length:=by have:=e5.len;simp at hl5;omega
 have o7:=kh (k:=7) (n:=u64 q.dx) ox (kX _)
 have o8:=kh (k:=8) (n:=u64 q.kx) ox (kX _)
 have o9:=kh (k:=9) (n:=u64 q.ti) ox (kX _)
 have o10:=kh (k:=10) (n:=u64 q.du) ox (kX _)
 have o12:=kh (k:=12) (n:=u64 q.pe) ox (kX _)
 have o11:=qaO q.tx q.ux hq.w6 hq.w7
 have hpl:(pfB q).length=(msB 1 q.ts).length+((msB 2 q.ss).length+((msB 3 q.ms).length+((msB 4 q.ls).length+((msB 5 q.fs).length+((xD 6 q.tab).length+((ki 7 (u64 q.dx)).length+((ki 8 (u64 q.kx)).length+((ki 9 (u64 q.ti)).length+((ki 10 (u64 q.du)).length+((if q.tx≠0∨q.ux≠0 then xO (.bys 11 (vtB q.tx q.ux)) else []).length+(ki 12 (u64 q.pe)).length)))))))))):=by simp only[pfB,lA]
 rw[hpl]at hl
 clear hpl
 have few1:=e1.few
 have few2:=e2.few
 have few3:=e3.few
 have few4:=e4.few
 have few5:=e5.few
 have hc0:=mc (f:=⟨w0,0,[]⟩) hb rfl
 refine jr (args:=[_,_]) [(0,_),(1,_)] 0 [] [] func192 rfl ntmps192 rfl rfl .nil ?_
 refine sQ fun K1=>sQ fun K2=>jb (jM (k:=jN (k:=jF 0 jz JA (k:=jL Qx hc0 0 (k:=jE zV (k:=jM (k:=K2 (jh ?_))))))))
 intro v1 hH1' hf1'
 refine vk (σ:=Nat) (fun k=>[(0,ptr b),(1,ptr bb),(18,.slice p1 q.ts.length c1),(19,.int .i64 (q.ts.length:Nat)),(20,.int .i64 (k:Nat))])
  (fun k w'=>k≤q.ts.length∧Bf B w' bb (D++msB 1 (q.ts.take k))∧Fr B wE w0 w') (fun k=>q.ts.length - k) 0 sR ⟨Nat.zero_le _,by simpa[msB]using h.fr hf1',frQ (Fr.refl B wE w0) hf1'⟩ ?_
 rintro k u1 ⟨hk1,hB1,hF1⟩ KL hKL
 have hc0:=mc (f:=⟨u1,0,[]⟩) (jk hF1 rfl _ _ hb) rfl
 refine C.begin ⟨u1,0,[]⟩ [] jx .nil ?_
 refine sQ fun K3=>jb (jS (k:=K3 (sQ fun K4=>?_)))
 refine jq rfl (fun h21'=>?_) (fun h21'=>?_)
 ·have hk':k<q.ts.length:=by omega
  obtain ⟨bq,rfl,hsq⟩:=hx1 ox
  have hkb:k<bt.length:=by rw[e1.len];exact hk'
  have hcell:=zu (k:=k) (v:=ptr bt[k]) hF1 rfl hsq (by simp[hkb])
  have hst:=Ka (tag:=1) (Ms:=q.ts) (k:=k) hk'
  have hle:=VU 1 q.ts (k+1)
  have hst':=congrArg List.length hst
  rw[lA]at hst'
  have hel':=Qp 1 q.ts[k]
  have hen:=e1.each k _ _ (gE hkb) (gE hk')
  refine jg (K4 (sQ fun K5=>jh (sQ fun K6=>jb (jJ zV yO (k:=jL Jp hcell 0 (k:=jA (k:=K6 (jb (jM (k:=jM (k:=?_)))))))))))
  refine jn rfl (fun _ _ h=>zK YZ rfl rfl h) ?_
  refine ky (D':=D++msB 1 (q.ts.take (k+1))) hF1 hB1 call194 rfl rfl (fun w1 hf hB=>by
    rw[hst, ← List.append_assoc]
    exact yZ B w1 bb _ 1 _ _ _ _ _ ox hB (by simp only[lA];omega) (fun w=>qha _ _ w) fun w2 hf2 hB2'=>hen w2 _ (frQ (frQ (frE hF hF1) hf) hf2) hB2' (by simp only[lA];omega)) fun v w7 hB7 hF7=>?_
  refine K5 (jb (jI (k:=jM (k:=jw (ji ?_)))))
  exact fun w' hH hf=>hKL (k+1) _ w' ⟨hk',hB7.fr hf,frQ hF7 hf⟩ ox sR
 ·have hke1:k=q.ts.length:=by omega
  rw[hke1,tL (Nat.le_refl _)]at hB1
  clear hKL hke1 hk1
  refine jt (K1 (CJ.t [(0,_),(1,_)] (k:=sQ fun K7=>sQ fun K8=>jb (jM (k:=jN (k:=jF 2 jz Jz (k:=jL VP hc0 2 (k:=jE JB (k:=jM (k:=K8 (jh ?_)))))))))))
  intro v2 hH2' hf2'
  refine vk (σ:=Nat) (fun k=>[(0,ptr b),(1,ptr bb),(32,.slice p2 q.ss.length c2),(33,.int .i64 (q.ss.length:Nat)),(34,.int .i64 (k:Nat))])
   (fun k w'=>k≤q.ss.length∧Bf B w' bb (D++msB 1 q.ts++msB 2 (q.ss.take k))∧Fr B wE w0 w') (fun k=>q.ss.length - k) 0 sR ⟨Nat.zero_le _,by simpa[msB]using hB1.fr hf2',frQ hF1 hf2'⟩ ?_
  rintro k u2 ⟨hk2,hB2,hF2⟩ KL hKL
  have hc0:=mc (f:=⟨u2,0,[]⟩) (jk hF2 rfl _ _ hb) rfl
  refine C.begin ⟨u2,0,[]⟩ [] jx .nil ?_
  refine sQ fun K9=>jb (jS (k:=K9 (sQ fun K10=>?_)))
  refine jq rfl (fun h35'=>?_) (fun h35'=>?_)
  ·have hk':k<q.ss.length:=by omega
   obtain ⟨bq,rfl,hsq⟩:=hx2 ox
   have hkb:k<bs.length:=by rw[e2.len];exact hk'
   have hcell:=zu (k:=k) (v:=ptr bs[k]) hF2 rfl hsq (by simp[hkb])
   have hst:=Ka (tag:=2) (Ms:=q.ss) (k:=k) hk'
   have hle:=VU 2 q.ss (k+1)
   have hst':=congrArg List.length hst
   rw[lA]at hst'
   have hel':=Qp 2 q.ss[k]
   have hen:=e2.each k _ _ (gE hkb) (gE hk')
   refine jg (K10 (sQ fun K11=>jh (sQ fun K12=>jb (jJ JB YT (k:=jL qcV hcell 0 (k:=jA (k:=K12 (jb (jM (k:=jM (k:=?_)))))))))))
   refine jn rfl (fun _ _ h=>zK qbZ rfl rfl h) ?_
   refine ky (D':=D++msB 1 q.ts++msB 2 (q.ss.take (k+1))) hF2 hB2 call194 rfl rfl (fun w1 hf hB=>by
     rw[hst, ← List.append_assoc]
     exact yZ B w1 bb _ 2 _ _ _ _ _ ox hB (by simp only[lA];omega) (fun w=>qln _ _ w) fun w2 hf2 hB2'=>hen w2 _ (frQ (frQ (frE hF hF2) hf) hf2) hB2' (by simp only[lA];omega)) fun v w7 hB7 hF7=>?_
   refine K11 (jb (jI (k:=jM (k:=jw (ji ?_)))))
   exact fun w' hH hf=>hKL (k+1) _ w' ⟨hk',hB7.fr hf,frQ hF7 hf⟩ ox sR
  ·have hke2:k=q.ss.length:=by omega
   rw[hke2,tL (Nat.le_refl _)]at hB2
   clear hKL hke2 hk2
   refine jt (K7 (CJ.t [(0,_),(1,_)] (k:=sQ fun K13=>sQ fun K14=>jb (jM (k:=jN (k:=jF 3 jz zD (k:=jL KX hc0 3 (k:=jE zn (k:=jM (k:=K14 (jh ?_)))))))))))
   intro v3 hH3' hf3'
   refine vk (σ:=Nat) (fun k=>[(0,ptr b),(1,ptr bb),(46,.slice p3 q.ms.length c3),(47,.int .i64 (q.ms.length:Nat)),(48,.int .i64 (k:Nat))])
    (fun k w'=>k≤q.ms.length∧Bf B w' bb (D++msB 1 q.ts++msB 2 q.ss++msB 3 (q.ms.take k))∧Fr B wE w0 w') (fun k=>q.ms.length - k) 0 sR ⟨Nat.zero_le _,by simpa[msB]using hB2.fr hf3',frQ hF2 hf3'⟩ ?_
   rintro k u3 ⟨hk3,hB3,hF3⟩ KL hKL
   have hc0:=mc (f:=⟨u3,0,[]⟩) (jk hF3 rfl _ _ hb) rfl
   refine C.begin ⟨u3,0,[]⟩ [] jx .nil ?_
   refine sQ fun K15=>jb (jS (k:=K15 (sQ fun K16=>?_)))
   refine jq rfl (fun h49'=>?_) (fun h49'=>?_)
   ·have hk':k<q.ms.length:=by omega
    obtain ⟨bq,rfl,hsq⟩:=hx3 ox
    have hkb:k<bm.length:=by rw[e3.len];exact hk'
    have hcell:=zu (k:=k) (v:=ptr bm[k]) hF3 rfl hsq (by simp[hkb])
    have hst:=Ka (tag:=3) (Ms:=q.ms) (k:=k) hk'
    have hle:=VU 3 q.ms (k+1)
    have hst':=congrArg List.length hst
    rw[lA]at hst'
    have hel':=Qp 3 q.ms[k]
    have hen:=e3.each k _ _ (gE hkb) (gE hk')
    refine jg (K16 (sQ fun K17=>jh (sQ fun K18=>jb (jJ zn zT (k:=jL Qw hcell 0 (k:=jA (k:=K18 (jb (jM (k:=jM (k:=?_)))))))))))
    refine jn rfl (fun _ _ h=>zK Qv rfl rfl h) ?_
    refine ky (D':=D++msB 1 q.ts++msB 2 q.ss++msB 3 (q.ms.take (k+1))) hF3 hB3 call194 rfl rfl (fun w1 hf hB=>by
      rw[hst, ← List.append_assoc]
      exact yZ B w1 bb _ 3 _ _ _ _ _ ox hB (by simp only[lA];omega) (fun w=>qlo _ _ w) fun w2 hf2 hB2'=>hen w2 _ (frQ (frQ (frE hF hF3) hf) hf2) hB2' (by simp only[lA];omega)) fun v w7 hB7 hF7=>?_
    refine K17 (jb (jI (k:=jM (k:=jw (ji ?_)))))
    exact fun w' hH hf=>hKL (k+1) _ w' ⟨hk',hB7.fr hf,frQ hF7 hf⟩ ox sR
   ·have hke3:k=q.ms.length:=by omega
    rw[hke3,tL (Nat.le_refl _)]at hB3
    clear hKL hke3 hk3
    refine jt (K13 (CJ.t [(0,_),(1,_)] (k:=sQ fun K19=>sQ fun K20=>jb (jM (k:=jN (k:=jF 4 jz xq (k:=jL zY hc0 4 (k:=jE xw (k:=jM (k:=K20 (jh ?_)))))))))))
    intro v4 hH4' hf4'
    refine vk (σ:=Nat) (fun k=>[(0,ptr b),(1,ptr bb),(60,.slice p4 q.ls.length c4),(61,.int .i64 (q.ls.length:Nat)),(62,.int .i64 (k:Nat))])
     (fun k w'=>k≤q.ls.length∧Bf B w' bb (D++msB 1 q.ts++msB 2 q.ss++msB 3 q.ms++msB 4 (q.ls.take k))∧Fr B wE w0 w') (fun k=>q.ls.length - k) 0 sR ⟨Nat.zero_le _,by simpa[msB]using hB3.fr hf4',frQ hF3 hf4'⟩ ?_
    rintro k u4 ⟨hk4,hB4,hF4⟩ KL hKL
    have hc0:=mc (f:=⟨u4,0,[]⟩) (jk hF4 rfl _ _ hb) rfl
    refine C.begin ⟨u4,0,[]⟩ [] jx .nil ?_
    refine sQ fun K21=>jb (jS (k:=K21 (sQ fun K22=>?_)))
    refine jq rfl (fun h63'=>?_) (fun h63'=>?_)
    ·have hk':k<q.ls.length:=by omega
     obtain ⟨bq,rfl,hsq⟩:=hx4 ox
     have hkb:k<bl.length:=by rw[e4.len];exact hk'
     have hcell:=zu (k:=k) (v:=ptr bl[k]) hF4 rfl hsq (by simp[hkb])
     have hst:=Ka (tag:=4) (Ms:=q.ls) (k:=k) hk'
     have hle:=VU 4 q.ls (k+1)
     have hst':=congrArg List.length hst
     rw[lA]at hst'
     have hel':=Qp 4 q.ls[k]
     have hen:=e4.each k _ _ (gE hkb) (gE hk')
     refine jg (K22 (sQ fun K23=>jh (sQ fun K24=>jb (jJ xw JW (k:=jL VO hcell 0 (k:=jA (k:=K24 (jb (jM (k:=jM (k:=?_)))))))))))
     refine jn rfl (fun _ _ h=>zK qag rfl rfl h) ?_
     refine ky (D':=D++msB 1 q.ts++msB 2 q.ss++msB 3 q.ms++msB 4 (q.ls.take (k+1))) hF4 hB4 call194 rfl rfl (fun w1 hf hB=>by
       rw[hst, ← List.append_assoc]
       exact yZ B w1 bb _ 4 _ _ _ _ _ ox hB (by simp only[lA];omega) (fun w=>qlp _ _ w) fun w2 hf2 hB2'=>hen w2 _ (frQ (frQ (frE hF hF4) hf) hf2) hB2' (by simp only[lA];omega)) fun v w7 hB7 hF7=>?_
     refine K23 (jb (jI (k:=jM (k:=jw (ji ?_)))))
     exact fun w' hH hf=>hKL (k+1) _ w' ⟨hk',hB7.fr hf,frQ hF7 hf⟩ ox sR
    ·have hke4:k=q.ls.length:=by omega
     rw[hke4,tL (Nat.le_refl _)]at hB4
     clear hKL hke4 hk4
     refine jt (K19 (CJ.t [(0,_),(1,_)] (k:=sQ fun K25=>sQ fun K26=>jb (jM (k:=jN (k:=jF 5 jz zw (k:=jL Kw hc0 5 (k:=jE ze (k:=jM (k:=K26 (jh ?_)))))))))))
     intro v5 hH5' hf5'
     refine vk (σ:=Nat) (fun k=>[(0,ptr b),(1,ptr bb),(74,.slice p5 q.fs.length c5),(75,.int .i64 (q.fs.length:Nat)),(76,.int .i64 (k:Nat))])
      (fun k w'=>k≤q.fs.length∧Bf B w' bb (D++msB 1 q.ts++msB 2 q.ss++msB 3 q.ms++msB 4 q.ls++msB 5 (q.fs.take k))∧Fr B wE w0 w') (fun k=>q.fs.length - k) 0 sR ⟨Nat.zero_le _,by simpa[msB]using hB4.fr hf5',frQ hF4 hf5'⟩ ?_
     rintro k u5 ⟨hk5,hB5,hF5⟩ KL hKL
     have hc0:=mc (f:=⟨u5,0,[]⟩) (jk hF5 rfl _ _ hb) rfl
     refine C.begin ⟨u5,0,[]⟩ [] jx .nil ?_
     refine sQ fun K27=>jb (jS (k:=K27 (sQ fun K28=>?_)))
     refine jq rfl (fun h77'=>?_) (fun h77'=>?_)
     ·have hk':k<q.fs.length:=by omega
      obtain ⟨bq,rfl,hsq⟩:=hx5 ox
      have hkb:k<bf.length:=by rw[e5.len];exact hk'
      have hcell:=zu (k:=k) (v:=ptr bf[k]) hF5 rfl hsq (by simp[hkb])
      have hst:=Ka (tag:=5) (Ms:=q.fs) (k:=k) hk'
      have hle:=VU 5 q.fs (k+1)
      have hst':=congrArg List.length hst
      rw[lA]at hst'
      have hel':=Qp 5 q.fs[k]
      have hen:=e5.each k _ _ (gE hkb) (gE hk')
      refine jg (K28 (sQ fun K29=>jh (sQ fun K30=>jb (jJ ze zd (k:=jL Kv hcell 0 (k:=jA (k:=K30 (jb (jM (k:=jM (k:=?_)))))))))))
      refine jn rfl (fun _ _ h=>zK YY rfl rfl h) ?_
      refine ky (D':=D++msB 1 q.ts++msB 2 q.ss++msB 3 q.ms++msB 4 q.ls++msB 5 (q.fs.take (k+1))) hF5 hB5 call194 rfl rfl (fun w1 hf hB=>by
        rw[hst, ← List.append_assoc]
        exact yZ B w1 bb _ 5 _ _ _ _ _ ox hB (by simp only[lA];omega) (fun w=>qls _ _ w) fun w2 hf2 hB2'=>hen w2 _ (frQ (frQ (frE hF hF5) hf) hf2) hB2' (by simp only[lA];omega)) fun v w7 hB7 hF7=>?_
      refine K29 (jb (jI (k:=jM (k:=jw (ji ?_)))))
      exact fun w' hH hf=>hKL (k+1) _ w' ⟨hk',hB7.fr hf,frQ hF7 hf⟩ ox sR
     ·have hke5:k=q.fs.length:=by omega
      rw[hke5,tL (Nat.le_refl _)]at hB5
      clear hKL hke5 hk5
      refine jt (K25 (CJ.t [(0,_),(1,_)] (k:=sQ fun K31=>jb (jM (k:=jM (k:=jN (k:=jF 16 jz xH (k:=jL yv hc0 16 (k:=?_)))))))))
      refine ky (D':=D++msB 1 q.ts++msB 2 q.ss++msB 3 q.ms++msB 4 q.ls++msB 5 q.fs++xD 6 q.tab) hF5 hB5 call195 rfl rfl (fun w1 hf hB=>qeY B w1 bb _ 6 _ q.tab ox (h6.mono (jk (frQ hF5 hf) rfl)) hB (by simp only[lA];omega)) fun v u6 hB6 hF6=>?_
      have hc0:=mc (f:=⟨u6,0,[]⟩) (jk hF6 rfl _ _ hb) rfl
      refine K31 (sQ fun K32=>jb (jM (k:=jM (k:=jN (k:=jF 14 jz so2 (k:=jL ag2 hc0 14 (k:=?_)))))))
      refine ky (D':=D++msB 1 q.ts++msB 2 q.ss++msB 3 q.ms++msB 4 q.ls++msB 5 q.fs++xD 6 q.tab++ki 7 (u64 q.dx)) hF6 hB6 call196 rfl rfl (fun w1 hf hB=>ve B w1 bb _ 7 q.dx ox hq.w1 hB (by simp only[lA];omega)) fun v u7 hB7 hF7=>?_
      have hc0:=mc (f:=⟨u7,0,[]⟩) (jk hF7 rfl _ _ hb) rfl
      refine K32 (CJ.t [(0,_),(1,_)] (k:=sQ fun K33=>jb (jM (k:=jM (k:=jN (k:=jF 15 jz so2 (k:=jL ag2 hc0 15 (k:=?_))))))))
      refine ky (D':=D++msB 1 q.ts++msB 2 q.ss++msB 3 q.ms++msB 4 q.ls++msB 5 q.fs++xD 6 q.tab++ki 7 (u64 q.dx)++ki 8 (u64 q.kx)) hF7 hB7 call196 rfl rfl (fun w1 hf hB=>ve B w1 bb _ 8 q.kx ox hq.w2 hB (by simp only[lA];omega)) fun v u8 hB8 hF8=>?_
      have hc0:=mc (f:=⟨u8,0,[]⟩) (jk hF8 rfl _ _ hb) rfl
      refine K33 (sQ fun K34=>jb (jM (k:=jM (k:=jN (k:=jF 9 jz so2 (k:=jL ag2 hc0 9 (k:=?_)))))))
      refine ky (D':=D++msB 1 q.ts++msB 2 q.ss++msB 3 q.ms++msB 4 q.ls++msB 5 q.fs++xD 6 q.tab++ki 7 (u64 q.dx)++ki 8 (u64 q.kx)++ki 9 (u64 q.ti)) hF8 hB8 call196 rfl rfl (fun w1 hf hB=>ve B w1 bb _ 9 q.ti ox hq.w3 hB (by simp only[lA];omega)) fun v u9 hB9 hF9=>?_
      have hc0:=mc (f:=⟨u9,0,[]⟩) (jk hF9 rfl _ _ hb) rfl
      refine K34 (CJ.t [(0,_),(1,_)] (k:=sQ fun K35=>jb (jM (k:=jM (k:=jN (k:=jF 10 jz so2 (k:=jL ag2 hc0 10 (k:=?_))))))))
      refine ky (D':=D++msB 1 q.ts++msB 2 q.ss++msB 3 q.ms++msB 4 q.ls++msB 5 q.fs++xD 6 q.tab++ki 7 (u64 q.dx)++ki 8 (u64 q.kx)++ki 9 (u64 q.ti)++ki 10 (u64 q.du)) hF9 hB9 call196 rfl rfl (fun w1 hf hB=>ve B w1 bb _ 10 q.du ox hq.w4 hB (by simp only[lA];omega)) fun v u10 hB10 hF10=>?_
      have hc0:=mc (f:=⟨u10,0,[]⟩) (jk hF10 rfl _ _ hb) rfl
      have hcp:=mc (f:=⟨u10,0,[]⟩) (jk hF10 rfl _ _ hper) rfl
      refine K35 (qP fun K36 hK36=>?_)
      have hJ134:∀w',Bf B w' bb (D++msB 1 q.ts++msB 2 q.ss++msB 3 q.ms++msB 4 q.ls++msB 5 q.fs++xD 6 q.tab++ki 7 (u64 q.dx)++ki 8 (u64 q.kx)++ki 9 (u64 q.ti)++ki 10 (u64 q.du)++(if q.tx≠0∨q.ux≠0 then xO (.bys 11 (vtB q.tx q.ux)) else []))→Fr B wE w0 w'→N K36 148 [(0,ptr b),(1,ptr bb)] w':=by
       intro u12 hB12 hF12
       have hc0:=mc (f:=⟨u12,0,[]⟩) (jk hF12 rfl _ _ hb) rfl
       refine hK36 ⟨u12,0,[]⟩ _ [] ?_ u12 .nil jx
       refine jb (jM (k:=jM (k:=jN (k:=jF 12 jz so2 (k:=jL ag2 hc0 12 (k:=?_))))))
       refine ky (D':=D++msB 1 q.ts++msB 2 q.ss++msB 3 q.ms++msB 4 q.ls++msB 5 q.fs++xD 6 q.tab++ki 7 (u64 q.dx)++ki 8 (u64 q.kx)++ki 9 (u64 q.ti)++ki 10 (u64 q.du)++(if q.tx≠0∨q.ux≠0 then xO (.bys 11 (vtB q.tx q.ux)) else [])++ki 12 (u64 q.pe)) hF12 hB12 call196 rfl rfl (fun w1 hf hB=>ve B w1 bb _ 12 q.pe ox hq.w5 hB (by simp only[lA];omega)) fun v u13 hB13 hF13=>?_
       refine jw ?_
       refine ?_
       exact vK results192 fun w' hH hf=>⟨by have:=hB13.fr hf;simp only[pfB,List.append_assoc]at this⊢;exact this,frQ hF13 hf⟩
      clear hK36
      refine sQ fun K37=>jb (jM (k:=jN (k:=jF 11 jz yO (k:=jL Jp hc0 11 (k:=jA (k:=K37 (CJ.t [(0,_),(1,_),(14,_)] (k:=sQ fun K38=>jb (jM (k:=?_))))))))))
      refine jn rfl (fun _ _ h=>zJ YO rfl h) ?_
      refine jV (u:=.bool true) rfl ?_
      refine jM (k:=?_)
      refine jy rfl rfl (jM (k:=?_))
      refine jy rfl rfl (jN (k:=?_))
      refine jy rfl rfl (jF 2 xF so2 (k:=?_))
      refine jy rfl rfl (jL ag2 hcp 2 (k:=?_))
      refine jy rfl rfl (jn rfl (fun _ _ h=>yQ rfl rfl h) (jy rfl rfl (jM (k:=?_))))
      refine xk (t:=127) rfl (fun hg127=>?_) (fun hg127=>?_)
      ·refine kN rfl rfl rfl rfl (kN rfl rfl rfl rfl (kN rfl rfl rfl rfl (kN rfl rfl rfl rfl (kN rfl rfl rfl rfl (jy rfl rfl (jT (k:=jT (k:=K38 (CJ.t [(0,_),(1,_),(134,_)] (k:=?_))))))))))
       refine ql rfl (jb (jM (k:=jM (k:=jN (k:=jF 11 jz yO (k:=jL Jp hc0 11 (k:=?_)))))))
       refine jn rfl (fun _ _ h=>zK YZ rfl rfl h) ?_
       refine ky (D':=D++msB 1 q.ts++msB 2 q.ss++msB 3 q.ms++msB 4 q.ls++msB 5 q.fs++xD 6 q.tab++ki 7 (u64 q.dx)++ki 8 (u64 q.kx)++ki 9 (u64 q.ti)++ki 10 (u64 q.du)++xO (.bys 11 (vtB q.tx q.ux))) hF10 hB10 call194 rfl rfl (fun w1 hf hB=>yZ B w1 bb _ 11 _ _ _ _ _ ox hB (by simp only[lA];omega) (fun w=>qha _ _ w) fun w2 hf2 hB2'=>qaM B w2 bb _ q.tx q.ux hq.w6 hq.w7 (hf2.blk (hf.blk (jk hF10 rfl _ _ hper) (.inr zp)) (.inr zp)) hB2' (by simp only[lA];omega)) fun v u11 hB11 hF11=>?_
       have hc0:=mc (f:=⟨u11,0,[]⟩) (jk hF11 rfl _ _ hb) rfl
       refine jw (ji ?_)
       intro w' hH hf
       first
        |(have hx:q.tx≠0∨q.ux≠0:=.inl (of_decide_eq_true hg127);rw[if_pos hx]at hJ134;exact N.sub' (hJ134 w' (hB11.fr hf) (frQ hF11 hf)) ⟨rfl,rfl,trivial⟩)
        |(have hx:q.tx≠0∨q.ux≠0:=.inr (of_decide_eq_true h134);rw[if_pos hx]at hJ134;exact N.sub' (hJ134 w' (hB11.fr hf) (frQ hF11 hf)) ⟨rfl,rfl,trivial⟩)
        |(have hx:¬(q.tx≠0∨q.ux≠0):=not_or.2 ⟨of_decide_eq_false hg127,of_decide_eq_false h134⟩;rw[if_neg hx,List.append_nil]at hJ134;exact N.sub' (hJ134 w' (hB10.fr hf) (frQ hF10 hf)) ⟨rfl,rfl,trivial⟩)
      ·refine jy rfl rfl (jM (k:=?_))
       refine jy rfl rfl (jN (k:=?_))
       refine jy rfl rfl (jF 3 xF so2 (k:=?_))
       refine jy rfl rfl (jL ag2 hcp 3 (k:=?_))
       refine jy rfl rfl (jn rfl (fun _ _ h=>yQ rfl rfl h) (jy rfl rfl (jK (k:=jT (k:=K38 (CJ.t [(0,_),(1,_),(134,_)] (k:=?_)))))))
       refine qZ rfl (fun h134=>?_) (fun h134=>?_)
       ·refine jb (jM (k:=jM (k:=jN (k:=jF 11 jz yO (k:=jL Jp hc0 11 (k:=?_))))))
        refine jn rfl (fun _ _ h=>zK YZ rfl rfl h) ?_
        refine ky (D':=D++msB 1 q.ts++msB 2 q.ss++msB 3 q.ms++msB 4 q.ls++msB 5 q.fs++xD 6 q.tab++ki 7 (u64 q.dx)++ki 8 (u64 q.kx)++ki 9 (u64 q.ti)++ki 10 (u64 q.du)++xO (.bys 11 (vtB q.tx q.ux))) hF10 hB10 call194 rfl rfl (fun w1 hf hB=>yZ B w1 bb _ 11 _ _ _ _ _ ox hB (by simp only[lA];omega) (fun w=>qha _ _ w) fun w2 hf2 hB2'=>qaM B w2 bb _ q.tx q.ux hq.w6 hq.w7 (hf2.blk (hf.blk (jk hF10 rfl _ _ hper) (.inr zp)) (.inr zp)) hB2' (by simp only[lA];omega)) fun v u11 hB11 hF11=>?_
        have hc0:=mc (f:=⟨u11,0,[]⟩) (jk hF11 rfl _ _ hb) rfl
        refine jw (ji ?_)
        intro w' hH hf
        first
         |(have hx:q.tx≠0∨q.ux≠0:=.inl (of_decide_eq_true hg127);rw[if_pos hx]at hJ134;exact N.sub' (hJ134 w' (hB11.fr hf) (frQ hF11 hf)) ⟨rfl,rfl,trivial⟩)
         |(have hx:q.tx≠0∨q.ux≠0:=.inr (of_decide_eq_true h134);rw[if_pos hx]at hJ134;exact N.sub' (hJ134 w' (hB11.fr hf) (frQ hF11 hf)) ⟨rfl,rfl,trivial⟩)
         |(have hx:¬(q.tx≠0∨q.ux≠0):=not_or.2 ⟨of_decide_eq_false hg127,of_decide_eq_false h134⟩;rw[if_neg hx,List.append_nil]at hJ134;exact N.sub' (hJ134 w' (hB10.fr hf) (frQ hF10 hf)) ⟨rfl,rfl,trivial⟩)
       ·refine jg (ji ?_)
        intro w' hH hf
        first
         |(have hx:q.tx≠0∨q.ux≠0:=.inl (of_decide_eq_true hg127);rw[if_pos hx]at hJ134;exact N.sub' (hJ134 w' (hB11.fr hf) (frQ hF11 hf)) ⟨rfl,rfl,trivial⟩)
         |(have hx:q.tx≠0∨q.ux≠0:=.inr (of_decide_eq_true h134);rw[if_pos hx]at hJ134;exact N.sub' (hJ134 w' (hB11.fr hf) (frQ hF11 hf)) ⟨rfl,rfl,trivial⟩)
         |(have hx:¬(q.tx≠0∨q.ux≠0):=not_or.2 ⟨of_decide_eq_false hg127,of_decide_eq_false h134⟩;rw[if_neg hx,List.append_nil]at hJ134;exact N.sub' (hJ134 w' (hB10.fr hf) (frQ hF10 hf)) ⟨rfl,rfl,trivial⟩)
def Js (T:List ByteArray):List (ByteArray×Value):=T.zipIdx.map fun p=>(p.1,.int .i64 (p.2:Nat))
theorem qab (T:List ByteArray):(Js T).map (·.1)=T:=by rw[Js,List.map_map];exact List.zipIdx_map_fst 0 T
theorem qeW (T:List ByteArray) (s:ByteArray):Js (T++[s])=Js T++[(s,.int .i64 (T.length:Nat))]:=by simp[Js,List.zipIdx_append]
theorem YR {T:List ByteArray} {s:ByteArray} (h:(s,v)∈Js T):∃i:Nat,v=.int .i64 (i:Nat)∧T[i]? =some s:=by
 obtain ⟨⟨s',i⟩,hm,he⟩:=List.mem_map.1 h
 injection he with e1 e2
 subst e1
 exact ⟨i,e2.symm,(List.mem_zipIdx_iff_getElem?).1 hm⟩
structure Tab (w:World) (mb:Nat) (S T:List ByteArray):Prop where
 ex:∃(es:List MapEntry) (ck:Nat),w.heap[mb]? =some (.map es.toArray ck)∧vA Value.string (Js T) es ck
 sub:∀s∈T,s∈S
theorem VT:∀{l m:List ByteArray},l.Nodup→(∀x∈l,x∈m)→l.length≤m.length
 |[],_,_,_=>Nat.zero_le _
 |a::r,m,h,hs=>by
    letI:BEq ByteArray:=instBEqOfDecidableEq
    have h1:=List.nodup_cons.1 h
    have ha:a∈m:=hs a zp
    have:=VT (l:=r) (m:=m.erase a) h1.2 fun x hx=>(List.mem_erase_of_ne (by rintro rfl;exact h1.1 hx)).2 (hs x (by simp[hx]))
    rw[List.length_erase_of_mem ha]at this
    have:=List.length_pos_of_mem ha
    simp only[List.length_cons]
    omega
theorem Tab.nodup {S T:List ByteArray} (h:Tab w mb S T):T.Nodup:=by
 obtain ⟨es,ck, -,hM⟩:=h.ex
 have:=hM.keys
 rwa [qab]at this
theorem Tab.len {S T:List ByteArray} (h:Tab w mb S T):T.length≤S.length:=VT h.nodup h.sub
theorem Tab.keep {S T:List ByteArray} (h:Tab w mb S T) (k:∀es ck,w.heap[mb]? =some (.map es ck)→w'.heap[mb]? =some (.map es ck)):Tab w' mb S T:=by
 obtain ⟨es,ck,h1,h2⟩:=h.ex
 exact ⟨⟨es,ck,k _ _ h1,h2⟩,h.sub⟩
theorem qbh {κ:Type} [DecidableEq κ]:∀{ms:List (κ×Value)} {k:κ} {v:Value},k∉ms.map (·.1)→Jm ms k v=ms++[(k,v)]
 |[],_,_,_=>rfl
 |(k',y)::r,k,v,h=>by
     simp only[List.map_cons,List.mem_cons,not_or]at h
     simp only[Jm,if_neg h.1,qbh h.2,List.cons_append]
theorem add_c (w:World) (mb:Nat) (S T:List ByteArray) (s:ByteArray) (hT:Tab w mb S T) (hs:s∈S) (hS:S.length≤100000000000):
  Calls Tryz.prog 103 #[.map (some mb),.string s] w (Ret fun v w'=>∃(T':List ByteArray) (n:Nat),v=.int .i64 (n:Nat)∧T'[n]? =some s∧T<+:T'∧Tab w' mb S T'∧jv [mb] w w'∧(T'=T∨T'=T++[s])):=by
 obtain ⟨es,ck,hmb,hM⟩:=hT.ex
 have hTl:=hT.len
 have hel:es.length=T.length:=by have:=hM.length;simpa[Js]using this
 refine jr (args:=[_,_]) [(0,_),(1,_)] 0 [1000000] _ func103 rfl ntmps103 rfl rfl (Hp.oneMap hmb (Nat.zero_le _) rfl) ?_
 refine sQ fun K1=>jb (jA (k:=K1 (sQ fun K2=>jb (jM (k:=jM (k:=?_))))))
 refine jp rfl (fun a w ha hH hf=>qgN (k:=s) 0 rfl qbX (qR ru9) hM zv3 rfl rfl (fun _ _ _=>⟨fun _ _=>trivial,trivial⟩) ha hH hf) (jM (k:=jX (k:=jX (k:=jA (k:=jA (k:=K2 (sQ fun K3=>sQ fun K4=>jb (jM (k:=jU (k:=K4 (CJ.t [(0,_),(1,_),(5,_),(14,_)] (k:=?_))))))))))))
 refine qZ rfl (fun h14=>?_) (fun h14=>?_)
 ·have hnone:xK (Js T) s=none:=by
   cases hc:xK (Js T) s with
   |none=>rfl
   |some v=>rw[hc]at h14;cases h14
  have hnew:s∉(Js T).map (·.1):=JT.1 hnone
  refine sQ fun K5=>jb (jM (k:=?_))
  refine jp rfl (fun a w ha hH hf=>qgO 0 rfl qbX rfl ha hH) (jA (k:=K5 (jb (jM (k:=jM (k:=jM (k:=?_)))))))
  refine xf (k:=s) 0 rfl qbX (qR ru9) hM rfl rfl rfl (fun _ _ _=>⟨fun _ _=>trivial,trivial⟩) fun es' ck' hM'=>?_
  have hM2:vA Value.string (Js (T++[s])) es' ck':=by rw[qeW, ← qbh hnew, ← hel];exact hM'
  refine K3 (sQ fun K6=>jb (jM (k:=jA (k:=K6 (jj ?_)))))
  first
   |exact je results103 rfl fun w' hH hf=>⟨T++[s],es.length,rfl,by simp[hel],List.prefix_append _ _,⟨⟨es',ck',hH.obj (i:=0) rfl rfl,hM2⟩,fun x hx=>by
      rcases mA hx with hx|hx
      ·exact hT.sub x hx
      ·simp at hx;subst hx;exact hs⟩,Hp.keepX (l:=[mb]) hH.2.2.2 hf,.inr rfl⟩
   |exact je results103 rfl fun w' hH hf=>⟨T,i,by rw[hv];rfl,hi,List.prefix_refl _,⟨⟨es,ck,hH.obj (i:=0) rfl rfl,hM⟩,hT.sub⟩,Hp.keepX (l:=[mb]) hH.2.2.2 hf,.inl rfl⟩
 ·obtain ⟨v,hv⟩:∃v,xK (Js T) s=some v:=by
   cases hc:xK (Js T) s with
   |none=>rw[hc]at h14;cases h14
   |some v=>exact ⟨v,rfl⟩
  obtain ⟨i,rfl,hi⟩:=YR (qcq hv)
  refine jg (K3 (sQ fun K7=>jb (jM (k:=jA (k:=K7 (CJ.t [(4,_)] (k:=jj ?_)))))))
  first
   |exact je results103 rfl fun w' hH hf=>⟨T++[s],es.length,rfl,by simp[hel],List.prefix_append _ _,⟨⟨es',ck',hH.obj (i:=0) rfl rfl,hM2⟩,fun x hx=>by
      rcases mA hx with hx|hx
      ·exact hT.sub x hx
      ·simp at hx;subst hx;exact hs⟩,Hp.keepX (l:=[mb]) hH.2.2.2 hf,.inr rfl⟩
   |exact je results103 rfl fun w' hH hf=>⟨T,i,by rw[hv];rfl,hi,List.prefix_refl _,⟨⟨es,ck,hH.obj (i:=0) rfl rfl,hM⟩,hT.sub⟩,Hp.keepX (l:=[mb]) hH.2.2.2 hf,.inl rfl⟩
end Go.Proofs.YtifdadlhmlhfiaaGreatDoor
namespace Go.Fw
open Go
variable {a:Act} {x:Operand} {w w':World}
def Jq (w:World) (mo:Option Nat) (es:List MapEntry) (ck:Nat):Prop:=(mo=none∧es=[]∧ck=0)∨∃b,mo=some b∧w.heap[b]? =some (.map es.toArray ck)
theorem Jq.keep {mo:Option Nat} {es:List MapEntry} {ck:Nat} (h:Jq w mo es ck) (k:∀(b:Nat) es ck,w.heap[b]? =some (.map es ck)→w'.heap[b]? =some (.map es ck)):Jq w' mo es ck:=by
 rcases h with h|⟨b,h1,h2⟩
 ·exact .inl h
 ·exact .inr ⟨b,h1,k _ _ _ h2⟩
abbrev itM (it:Nat) (mo:Option Nat) (since:Nat) (seen:List Nat) (stepped:Nat):Ent:=⟨it,0,[],true,false,some (.mapIter mo since seen.toArray stepped)⟩
theorem okK {f:Fm} {b T:Nat} (hf:f.ok w) (k:jv [b] w w') (hm:f.may b T) (ho:∀o:Obj,w.heap[b]? =some o→KE o=T):f.ok w':=
 ⟨k.os.trans hf.os,k.tape.trans hf.tape,k.output.trans hf.output,Nat.le_trans hf.size k.size,fun c o hc hk=>by
  have h1:=hf.keep c o hc hk
  refine k.keep c o h1 fun hm2=>?_
  simp at hm2
  subst hm2
  have h2:=ho o h1
  have h3:=(Array.getElem?_eq_some_iff.1 hc).1
  rcases hm with hm|⟨hm,hm'⟩
  ·omega
  ·rcases hk with hk|hk
   ·omega
   ·exact hk (h2▸hm')⟩
section
variable {P:Program} {Q:Exit→Act→World→Prop} {n:Nat} {f:Fm} {e:Env} {H:ko} {ops:Array Oper} {rest:List Oper} {d ty:Nat} {pos:String} {af:Array Edge}
variable {mt kt vt ck:Nat} {mo:Option Nat} {es:List MapEntry}
theorem Xp {m:Operand} (hu:∀w,(underlying mt).run P w=.ok (.map kt vt) w) (hM:∀w,Hp f w H→f.ok w→Jq w mo es ck) (hm:ev e m=some (.map mo)) (hd:Nat.blt d n=true)
  (k:∀it,J P ops Q n f ((d,.pointer (some ⟨it,0,none⟩))::e) (itM it mo ck [] ck::H) rest):J P ops Q n f e H (⟨some d,.range mt m,ty,pos,af,none⟩::rest):=fun w hH hf=>by
 have hn:New w { w with heap:=w.heap.push (.mapIter mo ck #[] ck) } w.heap.size (.mapIter mo ck #[] ck):=⟨rfl,rfl,rfl,rfl,rfl⟩
 refine L.valw hd (fun a ha=>?_) (k w.heap.size _ (hH.newO hf hn) (hf.new hn))
 simp only[execOp,ha.ev hm]
 rcases hM w hH hf with ⟨rfl,rfl,rfl⟩|⟨b,rfl,hb⟩
 ·have h1:(Instr.range mt (.map none)).run P w=.ok (.pointer (some ⟨w.heap.size,0,none⟩)) { w with heap:=w.heap.push (.mapIter none 0 #[] 0) }:=by
   simp only[Instr.range]
   simp only[Sem.run_bind,hu,Result.andThen_ok,Sem.run_pure]
   rfl
  simp[h1]
 ·have h1:=qad (P:=P) hu hb
  simp[h1]
theorem YG {it since stepped:Nat} {seen:List Nat} (i:Nat) (hi:H[i]? =some (itM it mo since seen stepped)) (hM:∀w,Hp f w H→f.ok w→Jq w mo es ck) (hlt:∀x∈es,x.born<since) (hst:since≤stepped) (hx:ev e x=some (.pointer (some ⟨it,0,none⟩))) (hd:Nat.blt d n=true)
  (k1:(∀x∈es,x.born∈seen)→J P ops Q n f ((d,.tuple #[.bool false])::e) H rest)
  (k2:∀x∈es,x.born∉seen→J P ops Q n f ((d,.tuple #[.bool true,x.key,x.val])::e) (yn H i (itM it mo since (seen++[x.born]) ck)) rest):J P ops Q n f e H (⟨some d,.next x false,ty,pos,af,none⟩::rest):=fun w hH hf=>by
 rcases hM w hH hf with ⟨rfl,rfl,rfl⟩|⟨b,rfl,hb⟩
 ·refine L.valw hd (fun a ha=>?_) (k1 zp w hH hf)
  simp only[execOp,ha.ev hx]
  have h1:(Instr.next (.pointer (some ⟨it,0,none⟩)) false ty).run P w=.ok (.tuple #[.bool false]) w:=by
   simp only[Instr.next]
   simp only[Sem.run_bind,vr (hH.obj hi rfl) rfl,Result.andThen_ok,Sem.run_pure]
  simp[h1]
 ·rcases qbR (P:=P) (rt:=ty) (hH.obj hi rfl) hb hlt hst with ⟨w',h1,h2,h3,h4,h5,h6⟩|⟨w',x,h1,h2,h3,h4⟩
  ·have hD:Dr w w':=⟨h3,h4,h5,h2⟩
   refine L.valw hd (fun a ha=>?_) (k1 h6 w' (hH.dr hD) (Fr.dr hf hD))
   simp only[execOp,ha.ev hx]
   simp[h1]
  ·obtain ⟨h5,h6⟩:=hH.putO hi rfl h2 rfl hf
   refine L.valw hd (fun a ha=>?_) (k2 x h3 h4 w' h5 h6)
   simp only[execOp,ha.ev hx]
   simp[h1]
theorem Xi {it since:Nat} {seen:List Nat} {xe:MapEntry} (i:Nat) (hi:H[i]? =some (itM it mo since (seen++[xe.born]) ck)) (hM:∀w,Hp f w H→f.ok w→Jq w mo es ck) (hx:ev e x=some (.pointer (some ⟨it,0,none⟩)))
  (hxe:xe∈es) (hnd:(es.map (·.born)).Nodup) (ha:Sat n e a) (hH:Hp f w H) (hf:f.ok w):
  (execOp a.eval ⟨some d,.entry x,ty,pos,af,none⟩).run P w=.ok (.value (.tuple #[xe.key,xe.val])) w:=by
 rcases hM w hH hf with ⟨-,rfl, -⟩|⟨b,rfl,hb⟩
 ·cases hxe
 have h1:=hH.obj hi rfl
 have h3:es.find? (fun z=>z.born==xe.born)=some xe:=by
  cases hf:es.find? (fun z=>z.born==xe.born) with
  |none=>exact absurd (List.find?_eq_none.1 hf xe hxe) zp
  |some z=>
   have hz:=List.find?_some hf
   have hm:=List.mem_of_find?_eq_some hf
   rw[qeG hnd hm hxe (by simpa using hz)]
 simp only[execOp,ha.ev hx]
 have h2':(getObj b).run P w=.ok (.map es.toArray ck) w:=vr hb rfl
 simp only[Instr.entry,Sem.run_bind,vr h1 rfl,Result.andThen_ok]
 simp[h2',h3]
theorem qce {κ:Type} [DecidableEq κ] {enc:κ→Value} {ms:List (κ×Value)} {m kx:Operand} {k:κ} {z:Value} (hu:∀w,(underlying mt).run P w=.ok (.map kt vt) w) (hk:Xb P kt enc (fun _ _=>True)) (hM:vA enc ms es ck) (hz:∀w,(zeroValue vt).run P w=.ok z w)
  (hm:ev e m=some (.map mo)) (hkx:ev e kx=some (enc k)) (ha:Sat n e a) (hA:Jq w mo es ck):
  (execOp a.eval ⟨some d,.lookup mt m kx false,ty,pos,af,none⟩).run P w=.ok (.value ((xK ms k).getD z)) w:=by
 simp only[execOp,ha.ev hm,ha.ev hkx]
 rcases hA with ⟨rfl,rfl, -⟩|⟨b,rfl,hb⟩
 ·have hnil:ms=[]:=by have:=hM.kv;simpa using this.symm
  subst hnil
  have:=YX (P:=P) (w:=w) hu hk (k:=k) trivial hz false
  simp[this,Kb]
 ·have:=Qf (P:=P) hu hk hM hb (fun _ _=>trivial) (k:=k) trivial hz false
  simp[this]
theorem Hp.putX {f:Fm} {H:ko} {i:Nat} {y y':Ent} (h:Hp f w H) (hx:H[i]? =some y) (ho:y.ex=true) (hb:y'.b=y.b) (hm:y'.ex=true→y'.wr=true→f.may y'.b y'.tag) (k:jv [y.b] w w') (hh:y'.has w'):Hp f w' (yn H i y'):=
 h.putK hx ho hb hm (fun z _ _ hne o hz=>k.keep _ o hz (by simpa using hne)) hh
end
end Go.Fw
namespace Go.Proofs.YtifdadlhmlhfiaaGreatDoor
open Go Go.Fw Go.Proofs Go.Proofs.Tryz
variable {T':List ByteArray} {es:List MapEntry} {W bs:List Nat} {cs:List Value} {T b ck k mb:Nat} {w:World}
section
variable {Q:Exit→Act→World→Prop} {n:Nat} {f:Fm} {e:Env} {H:ko} {ops:Array Oper} {rest:List Oper} {d ty:Nat} {pos:String} {af:Array Edge}
theorem qcB {S T:List ByteArray} {s:ByteArray} {args:Array Operand} {tys:Array TypeId} (i:Nat) (hi:H[i]? =some (mpE mb es ck)) (hM:vA Value.string (Js T) es ck) (hT:∀s∈T,s∈S) (hs:s∈S) (hS:S.length≤100000000000)
  (hargs:evL e args.toList=some [.map (some mb),.string s]) (hd:Nat.blt d n=true)
  (k:∀(T':List ByteArray) (m:Nat) es' ck',T'[m]? =some s→T<+:T'→(∀s∈T',s∈S)→vA Value.string (Js T') es' ck'→(T'=T∨T'=T++[s])→J Tryz.prog ops Q n f ((d,.int .i64 (m:Nat))::e) (yn H i (mpE mb es' ck')) rest):
  J Tryz.prog ops Q n f e H (⟨some d,.call ⟨.value (.func 103),args,tys⟩,ty,pos,af,none⟩::rest):=
 kQ (R:=fun w v w'=>∃(T':List ByteArray) (m:Nat),v=.int .i64 (m:Nat)∧T'[m]? =some s∧T<+:T'∧Tab w' mb S T'∧jv [mb] w w'∧(T'=T∨T'=T++[s])) Tryz.call103 hargs hd (fun w hH _=>add_c w mb S T s ⟨⟨es,ck,hH.obj hi rfl,hM⟩,hT⟩ hs hS) fun w v w' hH hf hR=>by
  obtain ⟨T',m,rfl,h1,h2,h3,h4,h0⟩:=hR
  obtain ⟨es',ck',h5,h6⟩:=h3.ex
  have hm:=hH.mayx (mG hi) rfl rfl
  refine k T' m es' ck' h1 h2 h3.sub h6 h0 w' (hH.putX hi rfl rfl (fun _ _=>hm) h4 ⟨fun h=>(by cases h),fun o ho=>by cases ho;exact h5⟩) (okK hf h4 hm fun o ho=>?_)
  have h7:=hH.obj hi rfl
  have h8:w.heap[mb]? =some o:=ho
  rw[h7]at h8
  cases h8;rfl
theorem yH {S T:List ByteArray} {s:ByteArray} {args:Array Operand} {tys:Array TypeId} (i:Nat) (hi:H[i]? =some (mpE mb es ck)) (hM:vA Value.string (Js T) es ck) (hT:∀s∈T,s∈S) (hs:s∈S) (hS:S.length≤100000000000)
  (hargs:evL e args.toList=some [.map (some mb),.string s]) (hd:Nat.blt d n=true)
  (k:∀(T':List ByteArray) (m:Nat) es' ck',T'[m]? =some s→T<+:T'→(∀s∈T',s∈S)→vA Value.string (Js T') es' ck'→J Tryz.prog ops Q n f ((d,.int .i64 (m:Nat))::e) (yn H i (mpE mb es' ck')) rest):
  J Tryz.prog ops Q n f e H (⟨some d,.call ⟨.value (.func 103),args,tys⟩,ty,pos,af,none⟩::rest):=
 qcB i hi hM hT hs hS hargs hd fun T' m es' ck' h1 h2 h3 h4 _=>k T' m es' ck' h1 h2 h3 h4
end
theorem Hp.rowMap (hb:Blk w b T cs) (hm:w.heap[mb]? =some (.map es.toArray ck)) (hT:W.any (fun t=>Nat.beq t T)=true) (hT2:W.any (fun t=>Nat.beq t 1000000)=true):
  Hp ⟨w,0,W⟩ w (⟨b,T,cs,true,true,none⟩::mpE mb es ck::vh w [b,mb]):=by
 have hne:mb≠b:=by
  rintro rfl
  have h1:w.heap[mb]? =some (.cells cs.toArray T (0,0)):=hb
  rw[hm]at h1;cases h1
 refine ⟨⟨fun _=>hb,fun o h=>by cases h⟩,fun _ _=>.inr ⟨Nat.zero_le _,qz hT⟩,fun _ y hy he=>?_,⟨fun h=>(by cases h),fun o ho=>by cases ho;exact hm⟩,fun _ _=>.inr ⟨Nat.zero_le _,qz hT2⟩,fun _=>vZ zp,Hp.rest _⟩
 rcases mC hy with rfl|hy
 ·exact hne
 ·exact vZ zp y hy he
theorem frK {w0 u w':World} {B:Nat} {l:List Nat} (h:Fr B W w0 u) (k:jv l u w') (hl:∀b∈l,w0.heap.size≤b∨(B≤b∧∀o:Obj,u.heap[b]? =some o→KE o∈W)):Fr B W w0 w':=
 ⟨k.os.trans h.os,k.tape.trans h.tape,k.output.trans h.output,Nat.le_trans h.size k.size,fun b o hb hc=>by
  have h1:=h.keep b o hb hc
  refine k.keep b o h1 fun hm=>?_
  rcases hl b hm with h2|⟨h3,h2⟩
  ·have:=(Array.getElem?_eq_some_iff.1 hb).1;omega
  ·rcases hc with hc|hc
   ·omega
   ·exact hc (h2 o h1)⟩
theorem yE (h:Blk w b T cs) (hT:T∈W):∀o:Obj,w.heap[b]? =some o→KE o∈W:=fun o ho=>by
 have h1:w.heap[b]? =some (.cells cs.toArray T (0,0)):=h
 rw[ho]at h1;cases h1;exact hT
def At (T:List ByteArray) (n:Int) (s:ByteArray):Prop:=∃k:Nat,n=k∧T[k]? =some s
theorem zt {α:Type} {T T':List α} (p:T<+:T') {s:α} (h:T[k]? =some s):T'[k]? =some s:=by
 obtain ⟨e,rfl⟩:=p
 rw[aq (List.getElem?_eq_some_iff.1 h).1];exact h
theorem At.mono {T:List ByteArray} {n:Int} {s:ByteArray} (h:At T n s) (p:T<+:T'):At T' n s:=by
 obtain ⟨k,rfl,h⟩:=h
 exact ⟨k,rfl,zt p h⟩
theorem At.mk {T:List ByteArray} {s:ByteArray} (h:T[k]? =some s) (p:T<+:T'):At T' (k:Nat) s:=⟨k,rfl,zt p h⟩
def Pg {α:Type} (k:Nat) (bs:List Nat) (xs:List α) (φ ψ:Nat→α→Prop):Prop:=∀(i:Nat) b x,bs[i]? =some b→xs[i]? =some x→(i<k→φ b x)∧(k≤i→ψ b x)
theorem Pg.mono {α:Type} {xs:List α} {φ φ' ψ ψ':Nat→α→Prop} (h:Pg k bs xs φ ψ) (h1:∀b x,φ b x→φ' b x) (h2:∀b x,ψ b x→ψ' b x):Pg k bs xs φ' ψ':=fun i b x hb hx=>⟨fun hi=>h1 _ _ ((h i b x hb hx).1 hi),fun hi=>h2 _ _ ((h i b x hb hx).2 hi)⟩
theorem zN {α:Type} {l:List α} (h:l.Nodup) {i j:Nat} (hi:i<l.length) (hj:j<l.length) (e:l[i]=l[j]):i=j:=by
 have hp:=List.pairwise_iff_getElem.1 h
 rcases Nat.lt_trichotomy i j with h1|h1|h1
 ·exact absurd e (hp i j hi hj h1)
 ·exact h1
 ·exact absurd e.symm (hp j i hj hi h1)
theorem Pg.step {α:Type} {b0:Nat} {xs:List α} {φ φ' ψ ψ':Nat→α→Prop} {x0:α} (h:Pg k bs xs φ ψ) (hn:bs.Nodup) (hb:bs[k]? =some b0) (hx:xs[k]? =some x0) (h1:∀b x,b≠b0→φ b x→φ' b x) (h2:∀b x,b≠b0→ψ b x→ψ' b x) (h3:φ' b0 x0):Pg (k+1) bs xs φ' ψ':=fun i b x hb' hx'=>by
 have hne:i≠k→b≠b0:=fun hik e=>hik (by
  subst e
  have l1:=(List.getElem?_eq_some_iff.1 hb').1
  have l2:=(List.getElem?_eq_some_iff.1 hb).1
  rw[gE l1]at hb'
  rw[gE l2]at hb
  have e2:bs[i]=bs[k]:=by simp at hb' hb;rw[hb',hb]
  exact zN hn l1 l2 e2)
 refine ⟨fun hi=>?_,fun hi=>h2 b x (hne ox) ((h i b x hb' hx').2 ox)⟩
 by_cases hik:i=k
 ·subst hik
  rw[hb]at hb';rw[hx]at hx'
  cases hb';cases hx'
  exact h3
 ·exact h1 b x (hne hik) ((h i b x hb' hx').1 ox)
theorem Pg.full {α:Type} {xs:List α} {φ ψ:Nat→α→Prop} (h:Pg k bs xs φ ψ) (hl:bs.length=xs.length) (hk:xs.length≤k):qE bs xs φ:=⟨hl,fun i b x hb hx=>(h i b x hb hx).1 (by have:=(List.getElem?_eq_some_iff.1 hx).1;omega)⟩
theorem Jh {α:Type} {xs:List α} (hk:k<xs.length) {x:α}:x∈xs.take (k+1)↔x∈xs.take k∨x=xs[k]:=by
 rw[← tG hk,List.mem_append,List.mem_singleton]
theorem qdy (w:World) (v:Value) (xs:List ByteArray) (x:ByteArray) (h:Lay xa 1 w v xs):Calls Tryz.prog 76 #[v,.string x] w (Ret fun v w'=>(∃i:Int,v=.int .i64 i∧(i<0→x∉xs))∧Fr 0 [] w w'):=by
 obtain ⟨p,c,rfl,hl,hx⟩:=h.open
 refine jr (args:=[_,_]) [(0,_),(1,_)] 0 [] [] func76 rfl ntmps76 rfl rfl .nil ?_
 refine sQ fun K1=>jb (jA (k:=K1 (sQ fun K2=>sQ fun K3=>jb (jM (k:=jE vG (k:=jM (k:=K3 (jh ?_))))))))
 refine jZ (σ:=Nat) (fun k=>[(0,.slice p xs.length c),(1,.string x),(7,.int .i64 (xs.length:Nat)),(8,.int .i64 (k:Nat))]) (fun _=>[]) (fun k _=>k≤xs.length∧x∉xs.take k) (fun k=>xs.length - k) 0 sR (fun w hH hf=>⟨.nil,Nat.zero_le _,by simp⟩) ?_
 rintro k w1 ⟨hk,hk'⟩ hf1 hH1 KL hKL
 refine C.begin _ [] hf1 .nil ?_
 refine sQ fun K4=>jb (jS (k:=K4 (sQ fun K5=>?_)))
 refine jq rfl (fun hlt=>?_) (fun hlt=>?_)
 ·have hlt':k<xs.length:=by omega
  obtain ⟨b,o,cs,rfl,hcs,hR,hcell⟩:=hx k xs[k] (gE hlt')
  unfold xa at hR
  subst hR
  refine jg (K5 (sQ fun K6=>jh (sQ fun K7=>jb (jM (k:=jA (k:=K7 (sQ fun K8=>jb (jM (k:=jM (k:=jM (k:=jJ vG so9 (k:=?_))))))))))))
  refine jp rfl (fun a w ha hH hf=>kP ag9 rfl (hcell w (hf.keepAll (.inr rfl)) 0 _ rfl) ha) (jn rfl (fun _ _ h=>Qg rfl rfl h) (K8 ?_))
  refine jq rfl (fun heq=>?_) (fun heq=>?_)
  ·refine sQ fun K9=>jb (jM (k:=jA (k:=K9 (CJ.t [(4,_)] (k:=jj ?_)))))
   first|exact je results76 rfl fun w' hH hf=>⟨⟨_,rfl,fun h=>absurd h ox⟩,hf⟩|exact je results76 rfl fun w' hH hf=>⟨⟨_,rfl,fun _ hm=>hk' (by rw[tL ox];exact hm)⟩,hf⟩
  ·refine jg (K6 (jb (jI (k:=jM (k:=jw (ji ?_))))))
   exact fun w hH hf=>hKL (k+1) _ w ⟨hlt',by rw[Jh hlt'];rintro (h|h)<;>simp_all⟩ hf .nil ox sR
 ·refine jt (K2 (sQ fun K10=>jb (jA (k:=K10 (jj ?_)))))
  first|exact je results76 rfl fun w' hH hf=>⟨⟨_,rfl,fun h=>absurd h ox⟩,hf⟩|exact je results76 rfl fun w' hH hf=>⟨⟨_,rfl,fun _ hm=>hk' (by rw[tL ox];exact hm)⟩,hf⟩
theorem VN (w:World) (v:Value) (xs:List ByteArray) (x:ByteArray) (h:Lay xa 1 w v xs):Calls Tryz.prog 61 #[v,.string x] w (Ret fun v w'=>(∃b,v=.bool b∧(b=false→x∉xs))∧Fr 0 [] w w'):=by
 refine jr (args:=[_,_]) [(0,_),(1,_)] 0 [] [] func61 rfl ntmps61 rfl rfl .nil ?_
 refine sQ fun K1=>jb (jA (k:=K1 (sQ fun K2=>jb (jM (k:=jM (k:=?_))))))
 refine kg (φ:=fun v=>∃i:Int,v=.int .i64 i∧(i<0→x∉xs)) call76 rfl rfl (fun w hH hf=>qdy w _ _ _ (h.keep (xa.keep (hf.keepAll (.inr rfl))) (hf.keepAll (.inr rfl)))) ?_
 rintro _ ⟨i7,rfl,hi7⟩
 refine jn rfl (fun _ _ h=>Jl rfl rfl h) (jA (k:=K2 (jj ?_)))
 exact je results61 rfl fun w' hH hf=>⟨⟨_,rfl,fun h=>hi7 (by simpa using h)⟩,hf⟩
theorem qdx (w:World) (v:Value) (xs:List Int) (x:Int) (h:Lay (vu .u64) 1 w v xs):Calls Tryz.prog 110 #[v,.int .u64 x] w (Ret fun v w'=>(∃i:Int,v=.int .i64 i∧(i<0→x∉xs))∧Fr 0 [] w w'):=by
 obtain ⟨p,c,rfl,hl,hx⟩:=h.open
 refine jr (args:=[_,_]) [(0,_),(1,_)] 0 [] [] func110 rfl ntmps110 rfl rfl .nil ?_
 refine sQ fun K1=>jb (jA (k:=K1 (sQ fun K2=>sQ fun K3=>jb (jM (k:=jE zm (k:=jM (k:=K3 (jh ?_))))))))
 refine jZ (σ:=Nat) (fun k=>[(0,.slice p xs.length c),(1,.int .u64 x),(7,.int .i64 (xs.length:Nat)),(8,.int .i64 (k:Nat))]) (fun _=>[]) (fun k _=>k≤xs.length∧x∉xs.take k) (fun k=>xs.length - k) 0 sR (fun w hH hf=>⟨.nil,Nat.zero_le _,by simp⟩) ?_
 rintro k w1 ⟨hk,hk'⟩ hf1 hH1 KL hKL
 refine C.begin _ [] hf1 .nil ?_
 refine sQ fun K4=>jb (jS (k:=K4 (sQ fun K5=>?_)))
 refine jq rfl (fun hlt=>?_) (fun hlt=>?_)
 ·have hlt':k<xs.length:=by omega
  obtain ⟨b,o,cs,rfl,hcs,hR,hcell⟩:=hx k xs[k] (gE hlt')
  obtain ⟨rfl, -⟩:=hR
  refine jg (K5 (sQ fun K6=>jh (sQ fun K7=>jb (jM (k:=jA (k:=K7 (sQ fun K8=>jb (jM (k:=jM (k:=jM (k:=jJ zm kU (k:=?_))))))))))))
  refine jp rfl (fun a w ha hH hf=>kP vy rfl (hcell w (hf.keepAll (.inr rfl)) 0 _ rfl) ha) (jQ (k:=K8 ?_))
  refine jq rfl (fun heq=>?_) (fun heq=>?_)
  ·refine sQ fun K9=>jb (jM (k:=jA (k:=K9 (CJ.t [(4,_)] (k:=jj ?_)))))
   first|exact je results110 rfl fun w' hH hf=>⟨⟨_,rfl,fun h=>absurd h ox⟩,hf⟩|exact je results110 rfl fun w' hH hf=>⟨⟨_,rfl,fun _ hm=>hk' (by rw[tL ox];exact hm)⟩,hf⟩
  ·refine jg (K6 (jb (jI (k:=jM (k:=jw (ji ?_))))))
   exact fun w hH hf=>hKL (k+1) _ w ⟨hlt',by rw[Jh hlt'];rintro (h|h)<;>simp_all⟩ hf .nil ox sR
 ·refine jt (K2 (sQ fun K10=>jb (jA (k:=K10 (jj ?_)))))
  first|exact je results110 rfl fun w' hH hf=>⟨⟨_,rfl,fun h=>absurd h ox⟩,hf⟩|exact je results110 rfl fun w' hH hf=>⟨⟨_,rfl,fun _ hm=>hk' (by rw[tL ox];exact hm)⟩,hf⟩
theorem ZM (w:World) (v:Value) (xs:List Int) (x:Int) (h:Lay (vu .u64) 1 w v xs):Calls Tryz.prog 94 #[v,.int .u64 x] w (Ret fun v w'=>(∃b,v=.bool b∧(b=false→x∉xs))∧Fr 0 [] w w'):=by
 refine jr (args:=[_,_]) [(0,_),(1,_)] 0 [] [] func94 rfl ntmps94 rfl rfl .nil ?_
 refine sQ fun K1=>jb (jA (k:=K1 (sQ fun K2=>jb (jM (k:=jM (k:=?_))))))
 refine kg (φ:=fun v=>∃i:Int,v=.int .i64 i∧(i<0→x∉xs)) call110 rfl rfl (fun w hH hf=>qdx w _ _ _ (h.keep (vu.keep (hf.keepAll (.inr rfl))) (hf.keepAll (.inr rfl)))) ?_
 rintro _ ⟨i7,rfl,hi7⟩
 refine jn rfl (fun _ _ h=>Jl rfl rfl h) (jA (k:=K2 (jj ?_)))
 exact je results94 rfl fun w' hH hf=>⟨⟨_,rfl,fun h=>hi7 (by simpa using h)⟩,hf⟩
theorem Ys {α:Type} {xs:List α} (hk:k<xs.length) (h:(xs.take k).Nodup) (hn:xs[k]∉xs.take k):(xs.take (k+1)).Nodup:=by
 rw[← tG hk,List.nodup_append]
 exact ⟨h,by simp,by simp;rintro a ha rfl;exact hn ha⟩
theorem qhF (w:World) (v:Value) (xs:List Int) (h:Lay (vu .u64) 1 w v xs):Calls Tryz.prog 62 #[v] w (Ret fun v w'=>(∃b,v=.bool b∧(b=true→0∉xs∧xs.Nodup∧xs.length≤60))∧Fr 0 [] w w'):=by
 obtain ⟨p,c,rfl,hl,hx⟩:=h.open
 have hcap:=h.cap
 refine jr (args:=[_]) [(0,_)] 0 [] [] func62 rfl ntmps62 rfl rfl .nil ?_
 refine sQ fun K1=>jb (jA (k:=K1 (sQ fun K2=>sQ fun K3=>jb (jM (k:=jE zm (k:=jM (k:=K3 (jh ?_))))))))
 refine jZ (σ:=Nat) (fun k=>[(0,.slice p xs.length c),(5,.slice p xs.length c),(6,.int .i64 (xs.length:Nat)),(7,.int .i64 (k:Nat))]) (fun _=>[]) (fun k _=>k≤xs.length∧0∉xs.take k∧(xs.take k).Nodup) (fun k=>xs.length - k) 0 sR (fun w hH hf=>⟨.nil,Nat.zero_le _,by simp,by simp⟩) ?_
 rintro k w1 ⟨hk,hz,hd⟩ hf1 hH1 KL hKL
 refine C.begin _ [] hf1 .nil ?_
 refine sQ fun K4=>jb (jS (k:=K4 (sQ fun K5=>?_)))
 refine jq rfl (fun hlt=>?_) (fun hlt=>?_)
 ·have hlt':k<xs.length:=by omega
  obtain ⟨b,o,cs,rfl,hcs,hR,hcell⟩:=hx k xs[k] (gE hlt')
  obtain ⟨rfl, -⟩:=hR
  refine jg (K5 (sQ fun K6=>jh (sQ fun K7=>jb (jM (k:=jJ zm kU (k:=?_))))))
  refine jp rfl (fun a w ha hH hf=>kP vy rfl (hcell w (hf.keepAll (.inr rfl)) 0 _ rfl) ha) (jA (k:=jA (k:=K7 (sQ fun K8=>jb (jM (k:=jQ (k:=jM (k:=?_))))))))
  refine xk (t:=14) rfl (fun hg14=>?_) (fun hg14=>?_)
  ·refine kN rfl rfl rfl rfl (kN rfl rfl rfl rfl (kN rfl rfl rfl rfl (kN rfl rfl rfl rfl (kN rfl rfl rfl rfl (jT (k:=K8 (CJ.t [(0,_),(5,_),(6,_),(7,_),(20,_)] (k:=?_))))))))
   refine ql rfl (sQ fun K9=>jb (jA (k:=K9 (jj ?_))))
   first|exact je results62 rfl fun w' hH hf=>⟨⟨_,rfl,fun h=>absurd h dq⟩,hf⟩|exact je results62 rfl fun w' hH hf=>⟨⟨_,rfl,fun h=>by
    rw[tL ox]at hz hd
    simp at h
    exact ⟨hz,hd,by omega⟩⟩,hf⟩
  ·refine jy rfl rfl (jM (k:=?_))
   refine jy rfl rfl (jM (k:=?_))
   refine jy rfl rfl (jn rfl (fun _ _ h=>QR zm kU rfl rfl ox h) (jy rfl rfl (jM (k:=?_))))
   refine jy rfl rfl ?_
   refine kg (φ:=fun v=>∃b,v=.bool b∧(b=false→xs[k]∉xs.take k)) call94 rfl rfl (fun w hH hf=>ZM w _ _ _ ((h.take k hk).keep (vu.keep (hf.keepAll (.inr rfl))) (hf.keepAll (.inr rfl)))) ?_
   rintro _ ⟨b19,rfl,hb19⟩
   refine jK (k:=K8 (CJ.t [(0,_),(5,_),(6,_),(7,_),(20,_)] (k:=?_)))
   refine qZ rfl (fun h20=>?_) (fun h20=>?_)
   ·refine sQ fun K10=>jb (jA (k:=K10 (jj ?_)))
    first|exact je results62 rfl fun w' hH hf=>⟨⟨_,rfl,fun h=>absurd h dq⟩,hf⟩|exact je results62 rfl fun w' hH hf=>⟨⟨_,rfl,fun h=>by
     rw[tL ox]at hz hd
     simp at h
     exact ⟨hz,hd,by omega⟩⟩,hf⟩
   ·refine jg (K6 (jb (jI (k:=jM (k:=jw (ji ?_))))))
    have hne:xs[k]≠0:=by simpa using hg14
    exact fun w hH hf=>hKL (k+1) _ w ⟨hlt',fun h=>((Jh hlt').1 h).elim hz (fun h=>hne h.symm),Ys hlt' hd (hb19 h20)⟩ hf .nil ox sR
 ·refine jt (K2 (sQ fun K11=>jb (jM (k:=jE zm (k:=?_)))))
  refine jn rfl (fun _ _ h=>Xh rfl rfl h) (jA (k:=K11 (jj ?_)))
  first|exact je results62 rfl fun w' hH hf=>⟨⟨_,rfl,fun h=>absurd h dq⟩,hf⟩|exact je results62 rfl fun w' hH hf=>⟨⟨_,rfl,fun h=>by
   rw[tL ox]at hz hd
   simp at h
   exact ⟨hz,hd,by omega⟩⟩,hf⟩
structure zQ (x:ku):Prop where
 tlen:x.texts.length≤60
 nlen:x.nums.length≤60
 tasc:∀(i:Nat) (t u:xB),x.texts[i]? =some t→x.texts[i+1]? =some u→ltB t.key u.key=true
 nasc:∀(i:Nat) (t u:zf),x.nums[i]? =some t→x.nums[i+1]? =some u→ltB t.key u.key=true
 tl:∀t∈x.texts,t.list≠[]∧t.list.length≤60∧⟨#[]⟩∉t.list
 nl:∀t∈x.nums,t.list≠[]∧t.list.length≤60
theorem Vk {α:Type} {l:List α} (h:decide ((l.length:Int)=0)=false):l≠[]:=by
 rintro rfl;simp at h
theorem Vm {l:Nat} (h:decide ((60:Int)<(l:Int))=false):l≤60:=by simp at h;omega
theorem Xz {α:Type} {xs:List α} {lt:α→α→Bool} (hk:k<xs.length) (h:∀(i:Nat) (t u:α),i+1<k→xs[i]? =some t→xs[i+1]? =some u→lt t u=true) (hn:∀(h0:0<k),lt (xs[k - 1]' ox) xs[k]=true):
  ∀(i:Nat) (t u:α),i+1<k+1→xs[i]? =some t→xs[i+1]? =some u→lt t u=true:=by
 intro i t u hi ht hu
 by_cases hik:i+1<k
 ·exact h i t u hik ht hu
 ·have:i+1=k:=by omega
  subst this
  have:=hn ox
  rw[gE ox]at ht
  rw[gE hk]at hu
  simp at ht hu
  rw[← ht, ← hu]
  simpa using this
theorem Jo {α:Type} {xs:List α} {φ:α→Prop} (hk:k<xs.length) (h:∀t∈xs.take k,φ t) (hn:φ xs[k]):∀t∈xs.take (k+1),φ t:=by
 intro t ht
 rcases (Jh hk).1 ht with h1|rfl
 ·exact h t h1
 ·exact hn
theorem qfv (w:World) (cs:List Value) (x:ku) (h:vE w cs x):Calls Tryz.prog 25 #[.agg cs.toArray] w (Ret fun v w'=>(∃b,v=.bool b∧(b=true→zQ x))∧Fr 0 [] w w'):=by
 obtain ⟨la,lb,lt,lu,rfl,hla,hlb,hlt,hlu⟩:=h
 obtain ⟨p3,c3,rfl,hl3,hx3⟩:=hlt.open
 obtain ⟨p4,c4,rfl,hl4,hx4⟩:=hlu.open
 refine jr (args:=[_]) [(0,_)] 0 [] [] func25 rfl ntmps25 rfl rfl .nil ?_
 refine sQ fun K1=>jb (qA (vs:=[_,_,_,_]) rfl rfl fun b1=>jA (k:=K1 ?_))
 refine qP fun K2 hK2=>sQ fun K3=>jb (jF 2 zh qaT (k:=jH 0 qdS (k:=jE VA (k:=jM (k:=K3 (jh ?_))))))
 refine jZ (σ:=Nat) (fun k=>[(1,.pointer (some ⟨b1,0,none⟩)),(8,.slice p3 x.texts.length c3),(9,.int .i64 (x.texts.length:Nat)),(10,.int .i64 (k:Nat))]) (fun _=>[⟨b1,57,[la,lb,.slice p3 x.texts.length c3,.slice p4 x.nums.length c4],true,true,none⟩])
  (fun k _=>k≤x.texts.length∧(∀(i:Nat) (t u:xB),i+1<k→x.texts[i]? =some t→x.texts[i+1]? =some u→ltB t.key u.key=true)∧∀t∈x.texts.take k,t.list≠[]∧t.list.length≤60∧⟨#[]⟩∉t.list)
  (fun k=>x.texts.length - k) 0 sR (fun w hH hf=>⟨hH,Nat.zero_le _,by intro i t u h;omega,by simp⟩) ?_
 rintro k w1 ⟨hk,hT1,hT2⟩ hf1 hH1 KL hKL
 refine C.begin _ _ hf1 hH1 ?_
 refine sQ fun K4=>jb (jS (k:=K4 (sQ fun K5=>?_)))
 refine jq rfl (fun hlt11=>?_) (fun hlt11=>?_)
 ·have hk':k<x.texts.length:=by omega
  obtain ⟨b,o,cs,rfl,hcs,⟨l1,rfl,hl1⟩,hcell⟩:=hx3 k x.texts[k] (gE hk')
  obtain ⟨p1,c1,rfl,hs1, -⟩:=hl1.open
  refine jg (K5 (sQ fun K6=>jh (sQ fun K7=>jb (jM (k:=jJ VA zl (k:=?_))))))
  refine jp rfl (fun a w ha hH hf=>kD XD zl rfl rfl (hcell w (hf.keepAll (.inr rfl))) ha) (jW (zs:=[(.string ⟨#[]⟩),(.slice none 0 0)]) ZY rfl fun b4=>jA (k:=jB [_,_] [_,_] 0 zl (k:=K7 (sQ fun K8=>?_))))
  refine jC 31 (lts [0,1,2,3,4,5,6,7,8,9,10,11,12,13,14,15,16,17,18,19,20,21,22,23,24,25,26,27,28]++(29,false)::lts [30]) [0,1] rfl (by kernel_rfl) (by kernel_rfl) (dM [0,1] (k:=?_))
  refine jo rfl rfl (jd [0,1] rfl) (fun _ _ h=>Yi rfl rfl h) (dM [0,1] (k:=?_))
  refine xP (t:=17) rfl (fun hg17=>?_) (fun hg17=>?_)
  ·have h0k:0<k:=by simpa using hg17
   obtain ⟨b',o',cs',hp, -,⟨l',rfl, -⟩,hcell'⟩:=hx3 (k - 1) (x.texts[k - 1]' ox) (gE ox)
   injection hp with hp;injection hp with hp1 hp2;subst hp1;subst hp2
   refine kK rfl rfl rfl rfl (jd [0,1] rfl) (fun a w ha hS=>xR (q:=2) (ft:=54) zh rfl qaT rfl ha) (kK rfl rfl rfl rfl (jd [0,1] rfl) (fun a w ha hS=>zx 1 rfl rfl qdS rfl rfl ha hS) (kK rfl rfl rfl rfl (jd [0,1] rfl) (fun a w ha hS=>vm rfl ha) (kK rfl rfl rfl rfl (jd [0,1] rfl) (fun a w ha hS=>qki h0k ox rfl rfl ha) (kK rfl rfl rfl rfl (jd [0,1] rfl) (fun a w ha hS=>vH VA zl rfl rfl ox ha) (kK rfl rfl rfl rfl (jd [0,1] rfl) (fun a w ha hS=>xR (q:=0) (ft:=9) zW rfl so9 rfl ha) (kK rfl rfl rfl rfl (jd [0,1] rfl) (fun a w ha hS=>kP ag9 rfl (hcell' w (hS.2.keepAll (.inr rfl)) 0 _ rfl) ha) (kK rfl rfl rfl rfl (jd [0,1] rfl) (fun a w ha hS=>xR (q:=0) (ft:=9) zW rfl so9 rfl ha) (kK rfl rfl rfl rfl (jd [0,1] rfl) (fun a w ha hS=>zx 0 rfl rfl ag9 rfl rfl ha hS) (kK rfl rfl rfl rfl (jd [0,1] rfl) (fun a w ha hS=>qgK rfl rfl ha) (jo rfl rfl (jd [0,1] rfl) (fun _ _ h=>qD rfl rfl h) (dM [0,1] (k:=?_))))))))))))
   refine xP (t:=29) rfl (fun hg29=>?_) (fun hg29=>?_)
   ·refine kA rfl rfl rfl rfl rfl (jd [0,1] rfl) (kA rfl rfl rfl rfl rfl (jd [0,1] rfl) (kA rfl rfl rfl rfl rfl (jd [0,1] rfl) (kA rfl rfl rfl rfl rfl (jd [0,1] rfl) (jo rfl rfl (jd [0,1] rfl) (fun _ _ h=>qD rfl rfl h) (dM [0,1] (k:=?_))))))
    refine kA rfl rfl rfl rfl rfl (jd [0,1] rfl) (kA rfl rfl rfl rfl rfl (jd [0,1] rfl) (kA rfl rfl rfl rfl rfl (jd [0,1] rfl) (kA rfl rfl rfl rfl rfl (jd [0,1] rfl) (jo rfl rfl (jd [0,1] rfl) (fun _ _ h=>qD rfl rfl h) (dM [0,1] (k:=?_))))))
    refine kA rfl rfl rfl rfl rfl (jd [0,1] rfl) (kA rfl rfl rfl rfl rfl (jd [0,1] rfl) (dE (h:=fun Kd=>kN rfl rfl rfl rfl (Kd (sb [0,1]) (jo rfl rfl (jd [0,1] rfl) (fun _ _ h=>qD rfl rfl h) (K8 (CJ.t [(1,_),(8,_),(9,_),(10,_),(45,_)] (k:=?_))))))))
    refine ql rfl (sQ fun K9=>jb (jA (k:=K9 (jj ?_))))
    first|exact je results25 rfl fun w' hH hf=>⟨⟨_,rfl,fun h=>absurd h dq⟩,hf⟩|exact je results25 rfl fun w' hH hf=>⟨⟨_,rfl,fun h=>by
     rw[tL ox]at hT2 hN2
     simp at h hg86
     exact ⟨by omega,by omega,fun i t u ht hu=>hT1 i t u (by have:=(List.getElem?_eq_some_iff.1 hu).1;omega) ht hu,fun i t u ht hu=>hN1 i t u (by have:=(List.getElem?_eq_some_iff.1 hu).1;omega) ht hu,hT2,hN2⟩⟩,hf⟩
   ·refine kK rfl rfl rfl rfl (jd [0,1] rfl) (fun a w ha hS=>xR (q:=1) (ft:=27) zW rfl xH rfl ha) (kK rfl rfl rfl rfl (jd [0,1] rfl) (fun a w ha hS=>zx 0 rfl rfl yv rfl rfl ha hS) (kK rfl rfl rfl rfl (jd [0,1] rfl) (fun a w ha hS=>JY vG rfl ha) (kK rfl rfl rfl rfl (jd [0,1] rfl) (fun a w ha hS=>qcg rfl rfl ha) (jo rfl rfl (jd [0,1] rfl) (fun _ _ h=>xd rfl rfl h) (dM [0,1] (k:=?_))))))
    refine xP (t:=35) rfl (fun hg35=>?_) (fun hg35=>?_)
    ·refine kA rfl rfl rfl rfl rfl (jd [0,1] rfl) (kA rfl rfl rfl rfl rfl (jd [0,1] rfl) (kA rfl rfl rfl rfl rfl (jd [0,1] rfl) (kA rfl rfl rfl rfl rfl (jd [0,1] rfl) (jo rfl rfl (jd [0,1] rfl) (fun _ _ h=>qD rfl rfl h) (dM [0,1] (k:=?_))))))
     refine kA rfl rfl rfl rfl rfl (jd [0,1] rfl) (kA rfl rfl rfl rfl rfl (jd [0,1] rfl) (dE (h:=fun Kd=>kN rfl rfl rfl rfl (Kd (sb [0,1]) (jo rfl rfl (jd [0,1] rfl) (fun _ _ h=>qD rfl rfl h) (K8 (CJ.t [(1,_),(8,_),(9,_),(10,_),(45,_)] (k:=?_))))))))
     refine ql rfl (sQ fun K10=>jb (jA (k:=K10 (jj ?_))))
     first|exact je results25 rfl fun w' hH hf=>⟨⟨_,rfl,fun h=>absurd h dq⟩,hf⟩|exact je results25 rfl fun w' hH hf=>⟨⟨_,rfl,fun h=>by
      rw[tL ox]at hT2 hN2
      simp at h hg86
      exact ⟨by omega,by omega,fun i t u ht hu=>hT1 i t u (by have:=(List.getElem?_eq_some_iff.1 hu).1;omega) ht hu,fun i t u ht hu=>hN1 i t u (by have:=(List.getElem?_eq_some_iff.1 hu).1;omega) ht hu,hT2,hN2⟩⟩,hf⟩
    ·refine kK rfl rfl rfl rfl (jd [0,1] rfl) (fun a w ha hS=>xR (q:=1) (ft:=27) zW rfl xH rfl ha) (kK rfl rfl rfl rfl (jd [0,1] rfl) (fun a w ha hS=>zx 0 rfl rfl yv rfl rfl ha hS) (kK rfl rfl rfl rfl (jd [0,1] rfl) (fun a w ha hS=>JY vG rfl ha) (kK rfl rfl rfl rfl (jd [0,1] rfl) (fun a w ha hS=>Yi rfl rfl ha) (jo rfl rfl (jd [0,1] rfl) (fun _ _ h=>xd rfl rfl h) (dM [0,1] (k:=?_))))))
     refine xP (t:=41) rfl (fun hg41=>?_) (fun hg41=>?_)
     ·refine kA rfl rfl rfl rfl rfl (jd [0,1] rfl) (kA rfl rfl rfl rfl rfl (jd [0,1] rfl) (dE (h:=fun Kd=>kN rfl rfl rfl rfl (Kd (sb [0,1]) (jo rfl rfl (jd [0,1] rfl) (fun _ _ h=>qD rfl rfl h) (K8 (CJ.t [(1,_),(8,_),(9,_),(10,_),(45,_)] (k:=?_))))))))
      refine ql rfl (sQ fun K11=>jb (jA (k:=K11 (jj ?_))))
      first|exact je results25 rfl fun w' hH hf=>⟨⟨_,rfl,fun h=>absurd h dq⟩,hf⟩|exact je results25 rfl fun w' hH hf=>⟨⟨_,rfl,fun h=>by
       rw[tL ox]at hT2 hN2
       simp at h hg86
       exact ⟨by omega,by omega,fun i t u ht hu=>hT1 i t u (by have:=(List.getElem?_eq_some_iff.1 hu).1;omega) ht hu,fun i t u ht hu=>hN1 i t u (by have:=(List.getElem?_eq_some_iff.1 hu).1;omega) ht hu,hT2,hN2⟩⟩,hf⟩
     ·refine kK rfl rfl rfl rfl (jd [0,1] rfl) (fun a w ha hS=>xR (q:=1) (ft:=27) zW rfl xH rfl ha) (kK rfl rfl rfl rfl (jd [0,1] rfl) (fun a w ha hS=>zx 0 rfl rfl yv rfl rfl ha hS) (dE (h:=fun Kd=>jy rfl rfl ?_)))
      refine kg (φ:=fun v=>∃b,v=.bool b∧(b=false→⟨#[]⟩∉x.texts[k].list)) call61 rfl rfl (fun w hH hf=>VN w _ _ _ (hl1.keep (xa.keep (hf.keepAll (.inr rfl))) (hf.keepAll (.inr rfl)))) ?_
      rintro _ ⟨b44,rfl,hb44⟩
      refine Kd (sb [0,1]) (jo rfl rfl (jd [0,1] rfl) (fun _ _ h=>xd rfl rfl h) (K8 ?_))
      refine qZ rfl (fun h45=>?_) (fun h45=>?_)
      ·refine sQ fun K12=>jb (jA (k:=K12 (jj ?_)))
       first|exact je results25 rfl fun w' hH hf=>⟨⟨_,rfl,fun h=>absurd h dq⟩,hf⟩|exact je results25 rfl fun w' hH hf=>⟨⟨_,rfl,fun h=>by
        rw[tL ox]at hT2 hN2
        simp at h hg86
        exact ⟨by omega,by omega,fun i t u ht hu=>hT1 i t u (by have:=(List.getElem?_eq_some_iff.1 hu).1;omega) ht hu,fun i t u ht hu=>hN1 i t u (by have:=(List.getElem?_eq_some_iff.1 hu).1;omega) ht hu,hT2,hN2⟩⟩,hf⟩
      ·refine jg (K6 (jb (jI (k:=jM (k:=jw (ji ?_))))))
       refine fun w hH hf=>hKL (k+1) _ w ⟨hk',Xz (lt:=fun t u=>ltB t.key u.key) hk' hT1 (fun h0=>?_),Jo hk' hT2 ⟨Vk hg35,Vm hg41,hb44 h45⟩⟩ hf hH.2.2.2 ox sR
       first|(simp at hg17;omega)|simpa using hg29
  ·refine kA rfl rfl rfl rfl rfl (jd [0,1] rfl) (kA rfl rfl rfl rfl rfl (jd [0,1] rfl) (kA rfl rfl rfl rfl rfl (jd [0,1] rfl) (kA rfl rfl rfl rfl rfl (jd [0,1] rfl) (kA rfl rfl rfl rfl rfl (jd [0,1] rfl) (kA rfl rfl rfl rfl rfl (jd [0,1] rfl) (kA rfl rfl rfl rfl rfl (jd [0,1] rfl) (kA rfl rfl rfl rfl rfl (jd [0,1] rfl) (kA rfl rfl rfl rfl rfl (jd [0,1] rfl) (kA rfl rfl rfl rfl rfl (jd [0,1] rfl) (jo rfl rfl (jd [0,1] rfl) (fun _ _ h=>xd rfl rfl h) (dM [0,1] (k:=?_))))))))))))
   refine kK rfl rfl rfl rfl (jd [0,1] rfl) (fun a w ha hS=>xR (q:=1) (ft:=27) zW rfl xH rfl ha) (kK rfl rfl rfl rfl (jd [0,1] rfl) (fun a w ha hS=>zx 0 rfl rfl yv rfl rfl ha hS) (kK rfl rfl rfl rfl (jd [0,1] rfl) (fun a w ha hS=>JY vG rfl ha) (kK rfl rfl rfl rfl (jd [0,1] rfl) (fun a w ha hS=>qcg rfl rfl ha) (jo rfl rfl (jd [0,1] rfl) (fun _ _ h=>xd rfl rfl h) (dM [0,1] (k:=?_))))))
   refine xP (t:=35) rfl (fun hg35=>?_) (fun hg35=>?_)
   ·refine kA rfl rfl rfl rfl rfl (jd [0,1] rfl) (kA rfl rfl rfl rfl rfl (jd [0,1] rfl) (kA rfl rfl rfl rfl rfl (jd [0,1] rfl) (kA rfl rfl rfl rfl rfl (jd [0,1] rfl) (jo rfl rfl (jd [0,1] rfl) (fun _ _ h=>qD rfl rfl h) (dM [0,1] (k:=?_))))))
    refine kA rfl rfl rfl rfl rfl (jd [0,1] rfl) (kA rfl rfl rfl rfl rfl (jd [0,1] rfl) (dE (h:=fun Kd=>kN rfl rfl rfl rfl (Kd (sb [0,1]) (jo rfl rfl (jd [0,1] rfl) (fun _ _ h=>qD rfl rfl h) (K8 (CJ.t [(1,_),(8,_),(9,_),(10,_),(45,_)] (k:=?_))))))))
    refine ql rfl (sQ fun K13=>jb (jA (k:=K13 (jj ?_))))
    first|exact je results25 rfl fun w' hH hf=>⟨⟨_,rfl,fun h=>absurd h dq⟩,hf⟩|exact je results25 rfl fun w' hH hf=>⟨⟨_,rfl,fun h=>by
     rw[tL ox]at hT2 hN2
     simp at h hg86
     exact ⟨by omega,by omega,fun i t u ht hu=>hT1 i t u (by have:=(List.getElem?_eq_some_iff.1 hu).1;omega) ht hu,fun i t u ht hu=>hN1 i t u (by have:=(List.getElem?_eq_some_iff.1 hu).1;omega) ht hu,hT2,hN2⟩⟩,hf⟩
   ·refine kK rfl rfl rfl rfl (jd [0,1] rfl) (fun a w ha hS=>xR (q:=1) (ft:=27) zW rfl xH rfl ha) (kK rfl rfl rfl rfl (jd [0,1] rfl) (fun a w ha hS=>zx 0 rfl rfl yv rfl rfl ha hS) (kK rfl rfl rfl rfl (jd [0,1] rfl) (fun a w ha hS=>JY vG rfl ha) (kK rfl rfl rfl rfl (jd [0,1] rfl) (fun a w ha hS=>Yi rfl rfl ha) (jo rfl rfl (jd [0,1] rfl) (fun _ _ h=>xd rfl rfl h) (dM [0,1] (k:=?_))))))
    refine xP (t:=41) rfl (fun hg41=>?_) (fun hg41=>?_)
    ·refine kA rfl rfl rfl rfl rfl (jd [0,1] rfl) (kA rfl rfl rfl rfl rfl (jd [0,1] rfl) (dE (h:=fun Kd=>kN rfl rfl rfl rfl (Kd (sb [0,1]) (jo rfl rfl (jd [0,1] rfl) (fun _ _ h=>qD rfl rfl h) (K8 (CJ.t [(1,_),(8,_),(9,_),(10,_),(45,_)] (k:=?_))))))))
     refine ql rfl (sQ fun K14=>jb (jA (k:=K14 (jj ?_))))
     first|exact je results25 rfl fun w' hH hf=>⟨⟨_,rfl,fun h=>absurd h dq⟩,hf⟩|exact je results25 rfl fun w' hH hf=>⟨⟨_,rfl,fun h=>by
      rw[tL ox]at hT2 hN2
      simp at h hg86
      exact ⟨by omega,by omega,fun i t u ht hu=>hT1 i t u (by have:=(List.getElem?_eq_some_iff.1 hu).1;omega) ht hu,fun i t u ht hu=>hN1 i t u (by have:=(List.getElem?_eq_some_iff.1 hu).1;omega) ht hu,hT2,hN2⟩⟩,hf⟩
    ·refine kK rfl rfl rfl rfl (jd [0,1] rfl) (fun a w ha hS=>xR (q:=1) (ft:=27) zW rfl xH rfl ha) (kK rfl rfl rfl rfl (jd [0,1] rfl) (fun a w ha hS=>zx 0 rfl rfl yv rfl rfl ha hS) (dE (h:=fun Kd=>jy rfl rfl ?_)))
     refine kg (φ:=fun v=>∃b,v=.bool b∧(b=false→⟨#[]⟩∉x.texts[k].list)) call61 rfl rfl (fun w hH hf=>VN w _ _ _ (hl1.keep (xa.keep (hf.keepAll (.inr rfl))) (hf.keepAll (.inr rfl)))) ?_
     rintro _ ⟨b44,rfl,hb44⟩
     refine Kd (sb [0,1]) (jo rfl rfl (jd [0,1] rfl) (fun _ _ h=>xd rfl rfl h) (K8 ?_))
     refine qZ rfl (fun h45=>?_) (fun h45=>?_)
     ·refine sQ fun K15=>jb (jA (k:=K15 (jj ?_)))
      first|exact je results25 rfl fun w' hH hf=>⟨⟨_,rfl,fun h=>absurd h dq⟩,hf⟩|exact je results25 rfl fun w' hH hf=>⟨⟨_,rfl,fun h=>by
       rw[tL ox]at hT2 hN2
       simp at h hg86
       exact ⟨by omega,by omega,fun i t u ht hu=>hT1 i t u (by have:=(List.getElem?_eq_some_iff.1 hu).1;omega) ht hu,fun i t u ht hu=>hN1 i t u (by have:=(List.getElem?_eq_some_iff.1 hu).1;omega) ht hu,hT2,hN2⟩⟩,hf⟩
     ·refine jg (K6 (jb (jI (k:=jM (k:=jw (ji ?_))))))
      refine fun w hH hf=>hKL (k+1) _ w ⟨hk',Xz (lt:=fun t u=>ltB t.key u.key) hk' hT1 (fun h0=>?_),Jo hk' hT2 ⟨Vk hg35,Vm hg41,hb44 h45⟩⟩ hf hH.2.2.2 ox sR
      first|(simp at hg17;omega)|simpa using hg29
 ·refine jt (qg (qg (xy (ji (hK2 _ _ _ (CJ.t [(1,_)] (k:=sQ fun K16=>sQ fun K17=>jb (jF 3 zh qaS (k:=jH 0 qdR (k:=jE Vz (k:=jM (k:=K17 (jh ?_)))))))))))))
  refine jZ (σ:=Nat) (fun k=>[(1,.pointer (some ⟨b1,0,none⟩)),(48,.slice p4 x.nums.length c4),(49,.int .i64 (x.nums.length:Nat)),(50,.int .i64 (k:Nat))]) (fun _=>[⟨b1,57,[la,lb,.slice p3 x.texts.length c3,.slice p4 x.nums.length c4],true,true,none⟩])
   (fun k _=>k≤x.nums.length∧(∀(i:Nat) (t u:zf),i+1<k→x.nums[i]? =some t→x.nums[i+1]? =some u→ltB t.key u.key=true)∧∀t∈x.nums.take k,t.list≠[]∧t.list.length≤60)
   (fun k=>x.nums.length - k) 0 sR (fun w hH hf=>⟨hH,Nat.zero_le _,by intro i t u h;omega,by simp⟩) ?_
  rintro m w2 ⟨hm,hN1,hN2⟩ hf2 hH2 KL hKL
  refine C.begin _ _ hf2 hH2 ?_
  refine sQ fun K18=>jb (jS (k:=K18 (sQ fun K19=>?_)))
  refine jq rfl (fun hlt51=>?_) (fun hlt51=>?_)
  ·have hm':m<x.nums.length:=by omega
   obtain ⟨b,o,cs,rfl,hcs,⟨l1,rfl,hl1⟩,hcell⟩:=hx4 m x.nums[m] (gE hm')
   obtain ⟨p1,c1,rfl,hs1, -⟩:=hl1.open
   refine jg (K19 (sQ fun K20=>jh (sQ fun K21=>jb (jM (k:=jJ Vz zk (k:=?_))))))
   refine jp rfl (fun a w ha hH hf=>kD XC zk rfl rfl (hcell w (hf.keepAll (.inr rfl))) ha) (jW (zs:=[(.string ⟨#[]⟩),(.slice none 0 0)]) ZX rfl fun b6=>jA (k:=jB [_,_] [_,_] 0 zk (k:=K21 (sQ fun K22=>?_))))
   refine jC 26 (lts [0,1,2,3,4,5,6,7,8,9,10,11,12,13,14,15,16,17,18,19,20,21,22,23,24,25]) [0,1] rfl (by kernel_rfl) (by kernel_rfl) (dM [0,1] (k:=?_))
   refine jo rfl rfl (jd [0,1] rfl) (fun _ _ h=>Yi rfl rfl h) (dM [0,1] (k:=?_))
   refine xP (t:=57) rfl (fun hg57=>?_) (fun hg57=>?_)
   ·have h0k:0<m:=by simpa using hg57
    obtain ⟨b',o',cs',hp, -,⟨l',rfl, -⟩,hcell'⟩:=hx4 (m - 1) (x.nums[m - 1]' ox) (gE ox)
    injection hp with hp;injection hp with hp1 hp2;subst hp1;subst hp2
    refine kK rfl rfl rfl rfl (jd [0,1] rfl) (fun a w ha hS=>xR (q:=3) (ft:=55) zh rfl qaS rfl ha) (kK rfl rfl rfl rfl (jd [0,1] rfl) (fun a w ha hS=>zx 1 rfl rfl qdR rfl rfl ha hS) (kK rfl rfl rfl rfl (jd [0,1] rfl) (fun a w ha hS=>vm rfl ha) (kK rfl rfl rfl rfl (jd [0,1] rfl) (fun a w ha hS=>qki h0k ox rfl rfl ha) (kK rfl rfl rfl rfl (jd [0,1] rfl) (fun a w ha hS=>vH Vz zk rfl rfl ox ha) (kK rfl rfl rfl rfl (jd [0,1] rfl) (fun a w ha hS=>xR (q:=0) (ft:=9) JC rfl so9 rfl ha) (kK rfl rfl rfl rfl (jd [0,1] rfl) (fun a w ha hS=>kP ag9 rfl (hcell' w (hS.2.keepAll (.inr rfl)) 0 _ rfl) ha) (kK rfl rfl rfl rfl (jd [0,1] rfl) (fun a w ha hS=>xR (q:=0) (ft:=9) JC rfl so9 rfl ha) (kK rfl rfl rfl rfl (jd [0,1] rfl) (fun a w ha hS=>zx 0 rfl rfl ag9 rfl rfl ha hS) (kK rfl rfl rfl rfl (jd [0,1] rfl) (fun a w ha hS=>qgK rfl rfl ha) (jo rfl rfl (jd [0,1] rfl) (fun _ _ h=>qD rfl rfl h) (dM [0,1] (k:=?_))))))))))))
    refine xP (t:=69) rfl (fun hg69=>?_) (fun hg69=>?_)
    ·refine kA rfl rfl rfl rfl rfl (jd [0,1] rfl) (kA rfl rfl rfl rfl rfl (jd [0,1] rfl) (kA rfl rfl rfl rfl rfl (jd [0,1] rfl) (kA rfl rfl rfl rfl rfl (jd [0,1] rfl) (jo rfl rfl (jd [0,1] rfl) (fun _ _ h=>qD rfl rfl h) (dM [0,1] (k:=?_))))))
     refine kA rfl rfl rfl rfl rfl (jd [0,1] rfl) (kA rfl rfl rfl rfl rfl (jd [0,1] rfl) (kA rfl rfl rfl rfl rfl (jd [0,1] rfl) (kA rfl rfl rfl rfl rfl (jd [0,1] rfl) (jo rfl rfl (jd [0,1] rfl) (fun _ _ h=>qD rfl rfl h) (K22 (CJ.t [(1,_),(48,_),(49,_),(50,_),(80,_)] (k:=?_)))))))
     refine ql rfl (sQ fun K23=>jb (jA (k:=K23 (jj ?_))))
     first|exact je results25 rfl fun w' hH hf=>⟨⟨_,rfl,fun h=>absurd h dq⟩,hf⟩|exact je results25 rfl fun w' hH hf=>⟨⟨_,rfl,fun h=>by
      rw[tL ox]at hT2 hN2
      simp at h hg86
      exact ⟨by omega,by omega,fun i t u ht hu=>hT1 i t u (by have:=(List.getElem?_eq_some_iff.1 hu).1;omega) ht hu,fun i t u ht hu=>hN1 i t u (by have:=(List.getElem?_eq_some_iff.1 hu).1;omega) ht hu,hT2,hN2⟩⟩,hf⟩
    ·refine kK rfl rfl rfl rfl (jd [0,1] rfl) (fun a w ha hS=>xR (q:=1) (ft:=53) JC rfl Jt rfl ha) (kK rfl rfl rfl rfl (jd [0,1] rfl) (fun a w ha hS=>zx 0 rfl rfl KC rfl rfl ha hS) (kK rfl rfl rfl rfl (jd [0,1] rfl) (fun a w ha hS=>JY xI rfl ha) (kK rfl rfl rfl rfl (jd [0,1] rfl) (fun a w ha hS=>qcg rfl rfl ha) (jo rfl rfl (jd [0,1] rfl) (fun _ _ h=>xd rfl rfl h) (dM [0,1] (k:=?_))))))
     refine xP (t:=75) rfl (fun hg75=>?_) (fun hg75=>?_)
     ·refine kA rfl rfl rfl rfl rfl (jd [0,1] rfl) (kA rfl rfl rfl rfl rfl (jd [0,1] rfl) (kA rfl rfl rfl rfl rfl (jd [0,1] rfl) (kA rfl rfl rfl rfl rfl (jd [0,1] rfl) (jo rfl rfl (jd [0,1] rfl) (fun _ _ h=>qD rfl rfl h) (K22 (CJ.t [(1,_),(48,_),(49,_),(50,_),(80,_)] (k:=?_)))))))
      refine ql rfl (sQ fun K24=>jb (jA (k:=K24 (jj ?_))))
      first|exact je results25 rfl fun w' hH hf=>⟨⟨_,rfl,fun h=>absurd h dq⟩,hf⟩|exact je results25 rfl fun w' hH hf=>⟨⟨_,rfl,fun h=>by
       rw[tL ox]at hT2 hN2
       simp at h hg86
       exact ⟨by omega,by omega,fun i t u ht hu=>hT1 i t u (by have:=(List.getElem?_eq_some_iff.1 hu).1;omega) ht hu,fun i t u ht hu=>hN1 i t u (by have:=(List.getElem?_eq_some_iff.1 hu).1;omega) ht hu,hT2,hN2⟩⟩,hf⟩
     ·refine kK rfl rfl rfl rfl (jd [0,1] rfl) (fun a w ha hS=>xR (q:=1) (ft:=53) JC rfl Jt rfl ha) (kK rfl rfl rfl rfl (jd [0,1] rfl) (fun a w ha hS=>zx 0 rfl rfl KC rfl rfl ha hS) (kK rfl rfl rfl rfl (jd [0,1] rfl) (fun a w ha hS=>JY xI rfl ha) (kK rfl rfl rfl rfl (jd [0,1] rfl) (fun a w ha hS=>Yi rfl rfl ha) (jo rfl rfl (jd [0,1] rfl) (fun _ _ h=>xd rfl rfl h) (K22 ?_)))))
      refine qZ rfl (fun h80=>?_) (fun h80=>?_)
      ·refine sQ fun K25=>jb (jA (k:=K25 (jj ?_)))
       first|exact je results25 rfl fun w' hH hf=>⟨⟨_,rfl,fun h=>absurd h dq⟩,hf⟩|exact je results25 rfl fun w' hH hf=>⟨⟨_,rfl,fun h=>by
        rw[tL ox]at hT2 hN2
        simp at h hg86
        exact ⟨by omega,by omega,fun i t u ht hu=>hT1 i t u (by have:=(List.getElem?_eq_some_iff.1 hu).1;omega) ht hu,fun i t u ht hu=>hN1 i t u (by have:=(List.getElem?_eq_some_iff.1 hu).1;omega) ht hu,hT2,hN2⟩⟩,hf⟩
      ·refine jg (K20 (jb (jI (k:=jM (k:=jw (ji ?_))))))
       refine fun w hH hf=>hKL (m+1) _ w ⟨hm',Xz (lt:=fun t u=>ltB t.key u.key) hm' hN1 (fun h0=>?_),Jo hm' hN2 ⟨Vk hg75,Vm h80⟩⟩ hf hH.2.2.2 ox sR
       first|(simp at hg57;omega)|simpa using hg69
   ·refine kA rfl rfl rfl rfl rfl (jd [0,1] rfl) (kA rfl rfl rfl rfl rfl (jd [0,1] rfl) (kA rfl rfl rfl rfl rfl (jd [0,1] rfl) (kA rfl rfl rfl rfl rfl (jd [0,1] rfl) (kA rfl rfl rfl rfl rfl (jd [0,1] rfl) (kA rfl rfl rfl rfl rfl (jd [0,1] rfl) (kA rfl rfl rfl rfl rfl (jd [0,1] rfl) (kA rfl rfl rfl rfl rfl (jd [0,1] rfl) (kA rfl rfl rfl rfl rfl (jd [0,1] rfl) (kA rfl rfl rfl rfl rfl (jd [0,1] rfl) (jo rfl rfl (jd [0,1] rfl) (fun _ _ h=>xd rfl rfl h) (dM [0,1] (k:=?_))))))))))))
    refine kK rfl rfl rfl rfl (jd [0,1] rfl) (fun a w ha hS=>xR (q:=1) (ft:=53) JC rfl Jt rfl ha) (kK rfl rfl rfl rfl (jd [0,1] rfl) (fun a w ha hS=>zx 0 rfl rfl KC rfl rfl ha hS) (kK rfl rfl rfl rfl (jd [0,1] rfl) (fun a w ha hS=>JY xI rfl ha) (kK rfl rfl rfl rfl (jd [0,1] rfl) (fun a w ha hS=>qcg rfl rfl ha) (jo rfl rfl (jd [0,1] rfl) (fun _ _ h=>xd rfl rfl h) (dM [0,1] (k:=?_))))))
    refine xP (t:=75) rfl (fun hg75=>?_) (fun hg75=>?_)
    ·refine kA rfl rfl rfl rfl rfl (jd [0,1] rfl) (kA rfl rfl rfl rfl rfl (jd [0,1] rfl) (kA rfl rfl rfl rfl rfl (jd [0,1] rfl) (kA rfl rfl rfl rfl rfl (jd [0,1] rfl) (jo rfl rfl (jd [0,1] rfl) (fun _ _ h=>qD rfl rfl h) (K22 (CJ.t [(1,_),(48,_),(49,_),(50,_),(80,_)] (k:=?_)))))))
     refine ql rfl (sQ fun K26=>jb (jA (k:=K26 (jj ?_))))
     first|exact je results25 rfl fun w' hH hf=>⟨⟨_,rfl,fun h=>absurd h dq⟩,hf⟩|exact je results25 rfl fun w' hH hf=>⟨⟨_,rfl,fun h=>by
      rw[tL ox]at hT2 hN2
      simp at h hg86
      exact ⟨by omega,by omega,fun i t u ht hu=>hT1 i t u (by have:=(List.getElem?_eq_some_iff.1 hu).1;omega) ht hu,fun i t u ht hu=>hN1 i t u (by have:=(List.getElem?_eq_some_iff.1 hu).1;omega) ht hu,hT2,hN2⟩⟩,hf⟩
    ·refine kK rfl rfl rfl rfl (jd [0,1] rfl) (fun a w ha hS=>xR (q:=1) (ft:=53) JC rfl Jt rfl ha) (kK rfl rfl rfl rfl (jd [0,1] rfl) (fun a w ha hS=>zx 0 rfl rfl KC rfl rfl ha hS) (kK rfl rfl rfl rfl (jd [0,1] rfl) (fun a w ha hS=>JY xI rfl ha) (kK rfl rfl rfl rfl (jd [0,1] rfl) (fun a w ha hS=>Yi rfl rfl ha) (jo rfl rfl (jd [0,1] rfl) (fun _ _ h=>xd rfl rfl h) (K22 ?_)))))
     refine qZ rfl (fun h80=>?_) (fun h80=>?_)
     ·refine sQ fun K27=>jb (jA (k:=K27 (jj ?_)))
      first|exact je results25 rfl fun w' hH hf=>⟨⟨_,rfl,fun h=>absurd h dq⟩,hf⟩|exact je results25 rfl fun w' hH hf=>⟨⟨_,rfl,fun h=>by
       rw[tL ox]at hT2 hN2
       simp at h hg86
       exact ⟨by omega,by omega,fun i t u ht hu=>hT1 i t u (by have:=(List.getElem?_eq_some_iff.1 hu).1;omega) ht hu,fun i t u ht hu=>hN1 i t u (by have:=(List.getElem?_eq_some_iff.1 hu).1;omega) ht hu,hT2,hN2⟩⟩,hf⟩
     ·refine jg (K20 (jb (jI (k:=jM (k:=jw (ji ?_))))))
      refine fun w hH hf=>hKL (m+1) _ w ⟨hm',Xz (lt:=fun t u=>ltB t.key u.key) hm' hN1 (fun h0=>?_),Jo hm' hN2 ⟨Vk hg75,Vm h80⟩⟩ hf hH.2.2.2 ox sR
      first|(simp at hg57;omega)|simpa using hg69
  ·refine jt (K16 (sQ fun K28=>jb (jF 2 zh qaT (k:=jH 0 qdS (k:=jE VA (k:=?_))))))
   refine jn rfl (fun _ _ h=>Xh rfl rfl h) (jM (k:=?_))
   refine xk (t:=86) rfl (fun hg86=>?_) (fun hg86=>?_)
   ·refine jy rfl rfl (jF 3 zh qaS (k:=?_))
    refine jy rfl rfl (jH 0 qdR (k:=?_))
    refine jy rfl rfl (jE Vz (k:=?_))
    refine jy rfl rfl (jn rfl (fun _ _ h=>Xh rfl rfl h) (jT (k:=jA (k:=K28 (CJ.t [(2,_)] (k:=jj ?_))))))
    first|exact je results25 rfl fun w' hH hf=>⟨⟨_,rfl,fun h=>absurd h dq⟩,hf⟩|exact je results25 rfl fun w' hH hf=>⟨⟨_,rfl,fun h=>by
     rw[tL ox]at hT2 hN2
     simp at h hg86
     exact ⟨by omega,by omega,fun i t u ht hu=>hT1 i t u (by have:=(List.getElem?_eq_some_iff.1 hu).1;omega) ht hu,fun i t u ht hu=>hN1 i t u (by have:=(List.getElem?_eq_some_iff.1 hu).1;omega) ht hu,hT2,hN2⟩⟩,hf⟩
   ·refine kN rfl rfl rfl rfl (kN rfl rfl rfl rfl (kN rfl rfl rfl rfl (kN rfl rfl rfl rfl (jK (k:=jA (k:=K28 (jj ?_)))))))
    first|exact je results25 rfl fun w' hH hf=>⟨⟨_,rfl,fun h=>absurd h dq⟩,hf⟩|exact je results25 rfl fun w' hH hf=>⟨⟨_,rfl,fun h=>by
     rw[tL ox]at hT2 hN2
     simp at h hg86
     exact ⟨by omega,by omega,fun i t u ht hu=>hT1 i t u (by have:=(List.getElem?_eq_some_iff.1 hu).1;omega) ht hu,fun i t u ht hu=>hN1 i t u (by have:=(List.getElem?_eq_some_iff.1 hu).1;omega) ht hu,hT2,hN2⟩⟩,hf⟩
structure qmi (x:jD):Prop where
 m:0∉x.mappings.map (·.id)∧(x.mappings.map (·.id)).Nodup∧(x.mappings.map (·.id)).length≤60
 f:0∉x.funcs.map (·.id)∧(x.funcs.map (·.id)).Nodup∧(x.funcs.map (·.id)).length≤60
 l:0∉x.locs.map (·.id)∧(x.locs.map (·.id)).Nodup∧(x.locs.map (·.id)).length≤60
 locs:∀l∈x.locs,(-1≤l.mapping∧l.mapping<x.mappings.length)∧l.lines.length≤60∧∀n∈l.lines, -1≤n.fn∧n.fn<x.funcs.length
theorem Xs {α:Type} {xs:List α} {g:α→Value} (hk:k<xs.length):(xs.take k).map g++[g xs[k]]=(xs.take (k+1)).map g:=by
 rw[← tG hk,List.map_append];rfl
theorem Zg {α β γ:Type} (f:β→γ) (g:α→β) (xs:List α):xs.map (fun x=>f (g x))=(xs.map g).map f:=by simp
set_option maxHeartbeats 1000000 in
theorem qgt (w:World) (cs:List Value) (x:jD) (h:qI w cs x) (hbm:x.mappings.length≤2147483647) (hbl:x.locs.length≤2147483647) (hbf:x.funcs.length≤2147483647):
  Calls Tryz.prog 26 #[.agg cs.toArray] w (Ret fun v w'=>(∃b,v=.bool b∧(b=true→qmi x))∧Fr 0 [] w w'):=by
 obtain ⟨la,ls,lm,ll,lf,lcm,rfl, -, -,hlm,hll,hlf, -, -⟩:=h
 have hKm:=hlm;have hKl:=hll;have hKf:=hlf
 obtain ⟨pm,cm,rfl, -,hxm⟩:=hlm.open
 obtain ⟨pf,cf,rfl, -,hxf⟩:=hlf.open
 obtain ⟨pl,cl,rfl, -,hxl⟩:=hll.open
 refine jr (args:=[_]) [(0,_)] 0 [] [] func26 rfl ntmps26 rfl rfl .nil ?_
 refine sQ fun K1=>jb (qA (vs:=[_,_,_,_,_,_,_,_,_,_,_,_,_,_]) rfl rfl fun b1=>jA (k:=K1 (sQ fun K2=>jb (jA (k:=jA (k:=jA (k:=K2 (sQ fun K3=>sQ fun K4=>jb ?_))))))))
 refine jF 3 kW QB (k:=jH 0 Yw (k:=jE JH (k:=jM (k:=K4 (jh ?_)))))
 refine jZ (σ:=Nat×Ent×Option Addr×Nat) (fun s=>[(1,.pointer (some ⟨b1,0,none⟩)),(3,.slice s.2.2.1 s.1 s.2.2.2),(4,.slice none 0 0),(5,.slice none 0 0),(15,.slice pm x.mappings.length cm),(16,.int .i64 (x.mappings.length:Nat)),(17,.int .i64 (s.1:Nat))])
  (fun s=>[s.2.1,⟨b1,31,[la,.string x.deflt,ls,.slice pm x.mappings.length cm,.slice pl x.locs.length cl,.slice pf x.funcs.length cf,lcm,.string x.drop,.string x.keep,.int .i64 x.time,.int .i64 x.dur,.int .i64 x.period,.string x.per.ty,.string x.per.unit],true,true,none⟩])
  (fun s _=>s.1≤x.mappings.length∧Own 71 1 s.2.1 s.2.2.1 s.1 s.2.2.2 ((x.mappings.take s.1).map fun m=>.int .u64 m.id))
  (fun s=>x.mappings.length - s.1) (0,qQ 71,none,0) sR (fun w hH hf=>⟨hH.off,Nat.zero_le _,Own.nil⟩) ?_
 rintro ⟨k,yA,pA,cA⟩ w1 ⟨hk,hA⟩ hf1 hH1 KL hKL
 refine C.begin _ _ hf1 hH1 ?_
 try dsimp only
 refine sQ fun K5=>jb (jS (k:=K5 (sQ fun K6=>?_)))
 refine jq rfl (fun h18=>?_) (fun h18=>?_)
 ·have hk':k<x.mappings.length:=by omega
  obtain ⟨b,o,cs,rfl,hcs,hR,hcell⟩:=hxm k x.mappings[k] (gE hk')
  obtain ⟨rfl,hwk, -⟩:=hR
  refine jg (K6 (sQ fun K7=>jh (sQ fun K8=>jb (jJ JH Ky (k:=?_)))))
  refine jp rfl (fun a w ha hH hf=>kD qcU Ky rfl rfl (hcell w (hf.keepAll (.inr rfl))) ha) (jW (zs:=[(.int .u64 0),(.int .u64 0),(.int .u64 0),(.int .u64 0),(.string ⟨#[]⟩),(.string ⟨#[]⟩),(.bool false),(.bool false),(.bool false),(.bool false)]) qeS rfl fun b7=>jB [_,_,_,_,_,_,_,_,_,_] [_,_,_] 0 Ky (k:=K8 (jb (jM (k:=jF 0 Xf kU (k:=jH 0 vy (k:=?_)))))))
  refine kj zm kU qdg rfl rfl rfl rfl rfl fun b24=>?_
  refine qY 1 rfl hA zm qdI rfl rfl rfl rfl rfl ox rfl fun y25 p25 c25 hO25=>?_
  refine jA (k:=K7 (CJ.t [(1,_),(3,_),(4,_),(5,_),(15,_),(16,_),(17,_)] (k:=jb (jI (k:=jM (k:=jw (ji ?_)))))))
  exact fun w hH hf=>hKL (k+1,y25,p25,c25) _ w ⟨hk',by rw[← Xs (g:=fun m=>.int .u64 m.id) hk'];exact hO25⟩ hf hH.2.2.2 (by simp only;omega) sR
 ·have hA':Own 71 1 yA pA k cA (x.mappings.map fun m=>.int .u64 m.id):=by rw[tL ox]at hA;exact hA
  refine jt (K3 (sQ fun K9=>sQ fun K10=>jb (jF 5 kW Qz (k:=jH 1 Yu (k:=jE JF (k:=jM (k:=K10 (jh ?_))))))))
  refine jZ (σ:=Nat×Ent×Option Addr×Nat) (fun s=>[(1,.pointer (some ⟨b1,0,none⟩)),(3,.slice pA k cA),(4,.slice s.2.2.1 s.1 s.2.2.2),(5,.slice none 0 0),(28,.slice pf x.funcs.length cf),(29,.int .i64 (x.funcs.length:Nat)),(30,.int .i64 (s.1:Nat))])
   (fun s=>[s.2.1,yA,⟨b1,31,[la,.string x.deflt,ls,.slice pm x.mappings.length cm,.slice pl x.locs.length cl,.slice pf x.funcs.length cf,lcm,.string x.drop,.string x.keep,.int .i64 x.time,.int .i64 x.dur,.int .i64 x.period,.string x.per.ty,.string x.per.unit],true,true,none⟩])
   (fun s _=>s.1≤x.funcs.length∧Own 71 1 s.2.1 s.2.2.1 s.1 s.2.2.2 ((x.funcs.take s.1).map fun m=>.int .u64 m.id))
   (fun s=>x.funcs.length - s.1) (0,qQ 71,none,0) sR (fun w hH hf=>⟨hH.off,Nat.zero_le _,Own.nil⟩) ?_
  rintro ⟨m,yB,pB,cB⟩ w2 ⟨hm,hB⟩ hf2 hH2 KL hKL
  refine C.begin _ _ hf2 hH2 ?_
  try dsimp only
  refine sQ fun K11=>jb (jS (k:=K11 (sQ fun K12=>?_)))
  refine jq rfl (fun h31=>?_) (fun h31=>?_)
  ·have hm':m<x.funcs.length:=by omega
   obtain ⟨b,o,cs,rfl,hcs,hR,hcell⟩:=hxf m x.funcs[m] (gE hm')
   obtain ⟨rfl,hwk, -⟩:=hR
   refine jg (K12 (sQ fun K13=>jh (sQ fun K14=>jb (jJ JF Kx (k:=?_)))))
   refine jp rfl (fun a w ha hH hf=>kD qcT Kx rfl rfl (hcell w (hf.keepAll (.inr rfl))) ha) (jW (zs:=[(.int .u64 0),(.string ⟨#[]⟩),(.string ⟨#[]⟩),(.string ⟨#[]⟩),(.int .i64 0)]) qeR rfl fun b9=>jB [_,_,_,_,_] [_,_,_,_] 0 Kx (k:=K14 (jb (jM (k:=jF 0 ZI kU (k:=jH 0 vy (k:=?_)))))))
   refine kj zm kU qdg rfl rfl rfl rfl rfl fun b37=>?_
   refine qY 1 rfl hB zm qdI rfl rfl rfl rfl rfl ox rfl fun y38 p38 c38 hO38=>?_
   refine jA (k:=K13 (CJ.t [(1,_),(3,_),(4,_),(5,_),(28,_),(29,_),(30,_)] (k:=jb (jI (k:=jM (k:=jw (ji ?_)))))))
   exact fun w hH hf=>hKL (m+1,y38,p38,c38) _ w ⟨hm',by rw[← Xs (g:=fun m=>.int .u64 m.id) hm'];exact hO38⟩ hf hH.2.2.2 (by simp only;omega) sR
  ·have hB':Own 71 1 yB pB m cB (x.funcs.map fun m=>.int .u64 m.id):=by rw[tL ox]at hB;exact hB
   refine jt (K9 (sQ fun K15=>sQ fun K16=>jb (jF 4 kW QA (k:=jH 2 Yv (k:=jE JG (k:=jM (k:=K16 (jh ?_))))))))
   refine jZ (σ:=Nat×Ent×Option Addr×Nat) (fun s=>[(1,.pointer (some ⟨b1,0,none⟩)),(3,.slice pA k cA),(4,.slice pB m cB),(5,.slice s.2.2.1 s.1 s.2.2.2),(41,.slice pl x.locs.length cl),(42,.int .i64 (x.locs.length:Nat)),(43,.int .i64 (s.1:Nat))])
    (fun s=>[s.2.1,yB,yA,⟨b1,31,[la,.string x.deflt,ls,.slice pm x.mappings.length cm,.slice pl x.locs.length cl,.slice pf x.funcs.length cf,lcm,.string x.drop,.string x.keep,.int .i64 x.time,.int .i64 x.dur,.int .i64 x.period,.string x.per.ty,.string x.per.unit],true,true,none⟩])
    (fun s _=>s.1≤x.locs.length∧Own 71 1 s.2.1 s.2.2.1 s.1 s.2.2.2 ((x.locs.take s.1).map fun m=>.int .u64 m.id)∧∀l∈x.locs.take s.1,(-1≤l.mapping∧l.mapping<x.mappings.length)∧l.lines.length≤60∧∀n∈l.lines, -1≤n.fn∧n.fn<x.funcs.length)
    (fun s=>x.locs.length - s.1) (0,qQ 71,none,0) sR (fun w hH hf=>⟨hH.off,Nat.zero_le _,Own.nil,by simp⟩) ?_
   rintro ⟨i,yC,pC,cC⟩ w3 ⟨hi,hC,hL⟩ hf3 hH3 KL hKL
   refine C.begin _ _ hf3 hH3 ?_
   try dsimp only
   refine sQ fun K17=>jb (jS (k:=K17 (sQ fun K18=>?_)))
   refine jq rfl (fun h44=>?_) (fun h44=>?_)
   ·have hi':i<x.locs.length:=by omega
    obtain ⟨b,o,cs,rfl,hcs,hR,hcell⟩:=hxl i x.locs[i] (gE hi')
    obtain ⟨l1,rfl,hwk, -, -,hl1⟩:=hR
    obtain ⟨p1,c1,rfl,hs1,hx1⟩:=hl1.open
    refine jg (K18 (sQ fun K19=>jh (sQ fun K20=>jb (jJ JG zg (k:=?_)))))
    refine jp rfl (fun a w ha hH hf=>kD XA zg rfl rfl (hcell w (hf.keepAll (.inr rfl))) ha) (jW (zs:=[(.int .u64 0),(.int .i64 0),(.int .u64 0),(.slice none 0 0)]) YL rfl fun b11=>jB [_,_,_,_] [_,_,_,_,_] 0 zg (k:=K20 (sQ fun K21=>jb (jM (k:=jF 0 zr kU (k:=jH 0 vy (k:=?_)))))))
    refine kj zm kU qdg rfl rfl rfl rfl rfl fun b50=>?_
    refine qY 1 rfl hC zm qdI rfl rfl rfl rfl rfl ox rfl fun y51 p51 c51 hO51=>?_
    refine jA (k:=K21 (CJ.t [(1,_),(3,_),(4,_),(5,_),(11,_),(41,_),(42,_),(43,_)] (k:=sQ fun K22=>sQ fun K23=>jb (jF 1 zr so3 (k:=jH 0 ag3 (k:=jS (k:=jM (k:=?_))))))))
    refine xk (t:=55) rfl (fun hg55=>?_) (fun hg55=>?_)
    ·refine kN rfl rfl rfl rfl (kN rfl rfl rfl rfl (kN rfl rfl rfl rfl (kN rfl rfl rfl rfl (kN rfl rfl rfl rfl (kN rfl rfl rfl rfl (jT (k:=jM (k:=?_))))))))
     refine kN rfl rfl rfl rfl (kN rfl rfl rfl rfl (kN rfl rfl rfl rfl (kN rfl rfl rfl rfl (jT (k:=K23 (CJ.t [(1,_),(3,_),(4,_),(5,_),(11,_),(41,_),(42,_),(43,_),(68,_)] (k:=?_)))))))
     refine ql rfl (sQ fun K24=>jb (jA (k:=K24 (jj ?_))))
     first|exact je results26 rfl fun w' hH hf=>⟨⟨_,rfl,fun h=>absurd h dq⟩,hf⟩|exact je results26 rfl fun w' hH hf=>⟨⟨_,rfl,fun h=>by subst h;exact ⟨hb90 hg91,hb93 hg95,hb97 rfl,by rw[tL ox]at hL;exact hL⟩⟩,hf⟩
    ·refine jy rfl rfl (jF 1 zr so3 (k:=?_))
     refine jy rfl rfl (jH 0 ag3 (k:=?_))
     refine jy rfl rfl (jF 3 kW QB (k:=?_))
     refine jy rfl rfl (jH 4 Yw (k:=?_))
     refine jy rfl rfl (jE JH (k:=?_))
     refine jy rfl rfl (jn rfl (fun _ _ h=>Jl rfl rfl h) (jK (k:=jM (k:=?_))))
     refine xk (t:=63) rfl (fun hg63=>?_) (fun hg63=>?_)
     ·refine kN rfl rfl rfl rfl (kN rfl rfl rfl rfl (kN rfl rfl rfl rfl (kN rfl rfl rfl rfl (jT (k:=K23 (CJ.t [(1,_),(3,_),(4,_),(5,_),(11,_),(41,_),(42,_),(43,_),(68,_)] (k:=?_)))))))
      refine ql rfl (sQ fun K25=>jb (jA (k:=K25 (jj ?_))))
      first|exact je results26 rfl fun w' hH hf=>⟨⟨_,rfl,fun h=>absurd h dq⟩,hf⟩|exact je results26 rfl fun w' hH hf=>⟨⟨_,rfl,fun h=>by subst h;exact ⟨hb90 hg91,hb93 hg95,hb97 rfl,by rw[tL ox]at hL;exact hL⟩⟩,hf⟩
     ·refine jy rfl rfl (jF 3 zr Vx (k:=?_))
      refine jy rfl rfl (jH 0 Yt (k:=?_))
      refine jy rfl rfl (jE Kz (k:=?_))
      refine jy rfl rfl (jG (k:=jK (k:=K23 ?_)))
      refine qZ rfl (fun h68=>?_) (fun h68=>?_)
      ·refine sQ fun K26=>jb (jA (k:=K26 (CJ.t [(2,_)] (k:=jj ?_))))
       first|exact je results26 rfl fun w' hH hf=>⟨⟨_,rfl,fun h=>absurd h dq⟩,hf⟩|exact je results26 rfl fun w' hH hf=>⟨⟨_,rfl,fun h=>by subst h;exact ⟨hb90 hg91,hb93 hg95,hb97 rfl,by rw[tL ox]at hL;exact hL⟩⟩,hf⟩
      ·refine jg (K22 (sQ fun K27=>jb (jF 3 zr Vx (k:=jH 0 Yt (k:=jE Kz (k:=jM (k:=K27 (jh ?_))))))))
       refine jZ (σ:=Nat) (fun j=>[(1,.pointer (some ⟨b1,0,none⟩)),(3,.slice pA k cA),(4,.slice pB m cB),(5,.slice p51 (i+1) c51),(41,.slice (some ⟨b,o,none⟩) x.locs.length cl),(42,.int .i64 (x.locs.length:Nat)),(43,.int .i64 (i:Nat)),(70,.slice p1 x.locs[i].lines.length c1),(71,.int .i64 (x.locs[i].lines.length:Nat)),(72,.int .i64 (j:Nat))])
        (fun _=>[y51,yB,yA,⟨b1,31,[la,.string x.deflt,ls,.slice pm x.mappings.length cm,.slice (some ⟨b,o,none⟩) x.locs.length cl,.slice pf x.funcs.length cf,lcm,.string x.drop,.string x.keep,.int .i64 x.time,.int .i64 x.dur,.int .i64 x.period,.string x.per.ty,.string x.per.unit],true,true,none⟩])
        (fun j _=>j≤x.locs[i].lines.length∧∀n∈x.locs[i].lines.take j, -1≤n.fn∧n.fn<x.funcs.length)
        (fun j=>x.locs[i].lines.length - j) 0 sR (fun w hH hf=>⟨hH.2.2.2,Nat.zero_le _,by simp⟩) ?_
       rintro j w4 ⟨hj,hN⟩ hf4 hH4 KL2 hKL2
       refine C.begin _ _ hf4 hH4 ?_
       refine sQ fun K28=>jb (jS (k:=K28 (sQ fun K29=>?_)))
       refine jq rfl (fun h73=>?_) (fun h73=>?_)
       ·have hj':j<x.locs[i].lines.length:=by omega
        obtain ⟨b',o',cs',rfl, -,hR2,hcell2⟩:=hx1 j x.locs[i].lines[j] (gE hj')
        obtain ⟨rfl,hwn, -⟩:=hR2
        refine jg (K29 (sQ fun K30=>jh (sQ fun K31=>jb (jJ Kz zU (k:=?_)))))
        refine jp rfl (fun a w ha hH hf=>kD qcW zU rfl rfl (hcell2 w (hf.keepAll (.inr rfl))) ha) (jW (zs:=[(.int .i64 0),(.int .i64 0)]) qdU rfl fun b13=>jB [_,_] [_,_,_,_,_] 0 zU (k:=K31 (sQ fun K32=>jb (jF 0 QP so3 (k:=jH 0 ag3 (k:=jS (k:=jM (k:=?_))))))))
        refine xk (t:=79) rfl (fun hg79=>?_) (fun hg79=>?_)
        ·refine kN rfl rfl rfl rfl (kN rfl rfl rfl rfl (kN rfl rfl rfl rfl (kN rfl rfl rfl rfl (kN rfl rfl rfl rfl (kN rfl rfl rfl rfl (jT (k:=K32 (CJ.t [(1,_),(3,_),(4,_),(5,_),(41,_),(42,_),(43,_),(70,_),(71,_),(72,_),(86,_)] (k:=?_)))))))))
         refine ql rfl (sQ fun K33=>jb (jA (k:=K33 (jj ?_))))
         first|exact je results26 rfl fun w' hH hf=>⟨⟨_,rfl,fun h=>absurd h dq⟩,hf⟩|exact je results26 rfl fun w' hH hf=>⟨⟨_,rfl,fun h=>by subst h;exact ⟨hb90 hg91,hb93 hg95,hb97 rfl,by rw[tL ox]at hL;exact hL⟩⟩,hf⟩
        ·refine jy rfl rfl (jF 0 QP so3 (k:=?_))
         refine jy rfl rfl (jH 0 ag3 (k:=?_))
         refine jy rfl rfl (jF 5 kW Qz (k:=?_))
         refine jy rfl rfl (jH 4 Yu (k:=?_))
         refine jy rfl rfl (jE JF (k:=?_))
         refine jy rfl rfl (jn rfl (fun _ _ h=>Jl rfl rfl h) (jK (k:=K32 (CJ.t [(1,_),(3,_),(4,_),(5,_),(41,_),(42,_),(43,_),(70,_),(71,_),(72,_),(86,_)] (k:=?_)))))
         refine qZ rfl (fun h86=>?_) (fun h86=>?_)
         ·refine sQ fun K34=>jb (jA (k:=K34 (jj ?_)))
          first|exact je results26 rfl fun w' hH hf=>⟨⟨_,rfl,fun h=>absurd h dq⟩,hf⟩|exact je results26 rfl fun w' hH hf=>⟨⟨_,rfl,fun h=>by subst h;exact ⟨hb90 hg91,hb93 hg95,hb97 rfl,by rw[tL ox]at hL;exact hL⟩⟩,hf⟩
         ·refine jg (K30 (jb (jI (k:=jM (k:=jw (ji ?_))))))
          exact fun w hH hf=>hKL2 (j+1) _ w ⟨hj',Jo hj' hN (by simp at hg79 h86;omega)⟩ hf hH.2.2.2 ox sR
       ·refine jt (K19 (jb (jI (k:=jM (k:=jw (ji ?_))))))
        exact fun w hH hf=>hKL (i+1,y51,p51,c51) _ w ⟨hi',by rw[← Xs (g:=fun m=>.int .u64 m.id) hi'];exact hO51,Jo hi' hL (by rw[tL ox]at hN;refine ⟨?_,Vm h68,hN⟩;simp at hg55 hg63;omega)⟩ hf hH (by simp only;omega) sR
   ·have hC':Own 71 1 yC pC i cC (x.locs.map fun m=>.int .u64 m.id):=by rw[tL ox]at hC;exact hC
    refine jt (K15 (sQ fun K35=>jb (jM (k:=?_))))
    refine kg (φ:=fun v=>∃b,v=.bool b∧(b=true→_)) call62 rfl rfl (fun w hH hf=>qhF w _ (x.mappings.map (·.id)) (Own.lay (g:=.int .u64) (by rw[← Zg];exact hA') hH (i:=2) rfl ox (by
     intro n hn
     obtain ⟨q,hq,rfl⟩:=List.mem_map.1 hn
     exact ⟨rfl,hKm.each (fun c y hy=>hy.2.1) q hq⟩))) ?_
    rintro _ ⟨b90,rfl,hb90⟩
    refine jM (k:=?_)
    refine xk (t:=91) rfl (fun hg91=>?_) (fun hg91=>?_)
    ·refine jy rfl rfl (jM (k:=?_))
     refine jy rfl rfl ?_
     refine kg (φ:=fun v=>∃b,v=.bool b∧(b=true→_)) call62 rfl rfl (fun w hH hf=>qhF w _ (x.funcs.map (·.id)) (Own.lay (g:=.int .u64) (by rw[← Zg];exact hB') hH (i:=1) rfl ox (by
      intro n hn
      obtain ⟨q,hq,rfl⟩:=List.mem_map.1 hn
      exact ⟨rfl,hKf.each (fun c y hy=>hy.2.1) q hq⟩))) ?_
     rintro _ ⟨b93,rfl,hb93⟩
     refine jT (k:=jM (k:=?_))
     refine xk (t:=95) rfl (fun hg95=>?_) (fun hg95=>?_)
     ·refine jy rfl rfl (jM (k:=?_))
      refine jy rfl rfl ?_
      refine kg (φ:=fun v=>∃b,v=.bool b∧(b=true→_)) call62 rfl rfl (fun w hH hf=>qhF w _ (x.locs.map (·.id)) (Own.lay (g:=.int .u64) (by rw[← Zg];exact hC') hH (i:=0) rfl ox (by
       intro n hn
       obtain ⟨q,hq,rfl⟩:=List.mem_map.1 hn
       exact ⟨rfl,hKl.each (fun c y hy=>by obtain ⟨_,_,h,_⟩:=hy;exact h) q hq⟩))) ?_
      rintro _ ⟨b97,rfl,hb97⟩
      refine jT (k:=jA (k:=K35 (CJ.t [(2,_)] (k:=jj ?_))))
      first|exact je results26 rfl fun w' hH hf=>⟨⟨_,rfl,fun h=>absurd h dq⟩,hf⟩|exact je results26 rfl fun w' hH hf=>⟨⟨_,rfl,fun h=>by subst h;exact ⟨hb90 hg91,hb93 hg95,hb97 rfl,by rw[tL ox]at hL;exact hL⟩⟩,hf⟩
     ·refine kN rfl rfl rfl rfl (kN rfl rfl rfl rfl (jK (k:=jA (k:=K35 (jj ?_)))))
      first|exact je results26 rfl fun w' hH hf=>⟨⟨_,rfl,fun h=>absurd h dq⟩,hf⟩|exact je results26 rfl fun w' hH hf=>⟨⟨_,rfl,fun h=>by subst h;exact ⟨hb90 hg91,hb93 hg95,hb97 rfl,by rw[tL ox]at hL;exact hL⟩⟩,hf⟩
    ·refine kN rfl rfl rfl rfl (kN rfl rfl rfl rfl (jK (k:=jM (k:=?_))))
     refine kN rfl rfl rfl rfl (kN rfl rfl rfl rfl (jK (k:=jA (k:=K35 (CJ.t [(2,_)] (k:=jj ?_))))))
     first|exact je results26 rfl fun w' hH hf=>⟨⟨_,rfl,fun h=>absurd h dq⟩,hf⟩|exact je results26 rfl fun w' hH hf=>⟨⟨_,rfl,fun h=>by subst h;exact ⟨hb90 hg91,hb93 hg95,hb97 rfl,by rw[tL ox]at hL;exact hL⟩⟩,hf⟩
structure vW (x:jD):Prop where
 samples:∀s∈x.samples,s.values.length=x.types.length∧x.types.length≠0∧s.stack.length≤60∧zQ s∧∀k∈s.stack,0≤k∧k<x.locs.length
 nsam:x.samples.length≤60
 ntyp:x.types.length≤60
 ncom:x.comments.length≤60
 tab:qmi x
theorem qlJ {a:Nat} (h:decide ((a:Int)≠(b:Int))=false):a=b:=by simp at h;omega
theorem qll {a:Nat} (h:decide ((a:Int)=0)=false):a≠0:=by simp at h;omega
set_option maxHeartbeats 1000000 in
theorem qkG (w:World) (cs:List Value) (x:jD) (h:qI w cs x) (hbm:x.mappings.length≤2147483647) (hbl:x.locs.length≤2147483647) (hbf:x.funcs.length≤2147483647):
  Calls Tryz.prog 8 #[.agg cs.toArray] w (Ret fun v w'=>(∃b,v=.bool b∧(b=true→vW x))∧Fr 0 [] w w'):=by
 have hP:=h
 obtain ⟨la,ls,lm,ll,lf,lcm,rfl,hla,hls,hlm,hll,hlf,hlc, -⟩:=h
 obtain ⟨pt,ct,rfl,hbt, -⟩:=hla.open
 obtain ⟨ps,cs',rfl,hbs,hxs⟩:=hls.open
 obtain ⟨pl,cl,rfl, -, -⟩:=hll.open
 obtain ⟨pc,cc,rfl,hbc, -⟩:=hlc.open
 refine jr (args:=[_]) [(0,_)] 0 [] [] func8 rfl ntmps8 rfl rfl .nil ?_
 refine sQ fun K1=>jb (qA (vs:=[_,_,_,_,_,_,_,_,_,_,_,_,_,_]) rfl rfl fun b1=>jA (k:=K1 (sQ fun K2=>sQ fun K3=>jb (jF 2 kW Vy (k:=jH 0 ZQ (k:=jE KA (k:=jM (k:=K3 (jh ?_)))))))))
 refine jZ (σ:=Nat) (fun k=>[(1,.pointer (some ⟨b1,0,none⟩)),(8,.slice ps x.samples.length cs'),(9,.int .i64 (x.samples.length:Nat)),(10,.int .i64 (k:Nat))])
  (fun _=>[⟨b1,31,[.slice pt x.types.length ct,.string x.deflt,.slice ps x.samples.length cs',lm,.slice pl x.locs.length cl,lf,.slice pc x.comments.length cc,.string x.drop,.string x.keep,.int .i64 x.time,.int .i64 x.dur,.int .i64 x.period,.string x.per.ty,.string x.per.unit],true,true,none⟩])
  (fun k _=>k≤x.samples.length∧∀s∈x.samples.take k,s.values.length=x.types.length∧x.types.length≠0∧s.stack.length≤60∧zQ s∧∀k∈s.stack,0≤k∧k<x.locs.length)
  (fun k=>x.samples.length - k) 0 sR (fun w hH hf=>⟨hH,Nat.zero_le _,by simp⟩) ?_
 rintro k w1 ⟨hk,hS⟩ hf1 hH1 KL hKL
 refine C.begin _ _ hf1 hH1 ?_
 refine sQ fun K4=>jb (jS (k:=K4 (sQ fun K5=>?_)))
 refine jq rfl (fun h11=>?_) (fun h11=>?_)
 ·have hk':k<x.samples.length:=by omega
  obtain ⟨b,o,cs,rfl,hcs,hR,hcell⟩:=hxs k x.samples[k] (gE hk')
  have hR':=hR
  obtain ⟨l1,l2,l3,l4,rfl,hl1,hl2,hl3,hl4⟩:=hR
  obtain ⟨p1,c1,rfl,hs1,hx1⟩:=hl1.open
  obtain ⟨p2,c2,rfl,hs2, -⟩:=hl2.open
  obtain ⟨p3,c3,rfl, -, -⟩:=hl3.open
  obtain ⟨p4,c4,rfl, -, -⟩:=hl4.open
  refine jg (K5 (sQ fun K6=>jh (sQ fun K7=>jb (jJ KA zC (k:=?_)))))
  refine jp rfl (fun a w ha hH hf=>kD XY zC rfl rfl (hcell w (hf.keepAll (.inr rfl))) ha) (jW (zs:=[(.slice none 0 0),(.slice none 0 0),(.slice none 0 0),(.slice none 0 0)]) qaK rfl fun b4=>jB [_,_,_,_] [_,_] 0 zC (k:=K7 (sQ fun K8=>sQ fun K9=>jb (jF 1 zh Jt (k:=jH 0 KC (k:=jE xI (k:=jF 0 kW Yq (k:=jH 1 ZR (k:=jE KI (k:=?_))))))))))
  refine jn rfl (fun _ _ h=>yQ rfl rfl h) (jM (k:=?_))
  refine xk (t:=21) rfl (fun hg21=>?_) (fun hg21=>?_)
  ·refine kN rfl rfl rfl rfl (kN rfl rfl rfl rfl (kN rfl rfl rfl rfl (kN rfl rfl rfl rfl (jT (k:=jM (k:=?_))))))
   refine kN rfl rfl rfl rfl (kN rfl rfl rfl rfl (kN rfl rfl rfl rfl (kN rfl rfl rfl rfl (jT (k:=jM (k:=?_))))))
   refine kN rfl rfl rfl rfl (kN rfl rfl rfl rfl (kN rfl rfl rfl rfl (jT (k:=K9 (CJ.t [(1,_),(4,_),(8,_),(9,_),(10,_),(37,_)] (k:=?_))))))
   refine ql rfl (sQ fun K10=>jb (jA (k:=K10 (jj ?_))))
   first|exact je results8 rfl fun w' hH hf=>⟨⟨_,rfl,fun h=>absurd h dq⟩,hf⟩|exact je results8 rfl fun w' hH hf=>⟨⟨_,rfl,fun h=>by subst h;simp at hg60 hg66 hg72;exact ⟨by rw[tL ox]at hS;exact hS,by omega,by omega,by omega,hb74 rfl⟩⟩,hf⟩
  ·refine jy rfl rfl (jF 0 kW Yq (k:=?_))
   refine jy rfl rfl (jH 1 ZR (k:=?_))
   refine jy rfl rfl (jE KI (k:=?_))
   refine jy rfl rfl (jQ (k:=jK (k:=jM (k:=?_))))
   refine xk (t:=27) rfl (fun hg27=>?_) (fun hg27=>?_)
   ·refine kN rfl rfl rfl rfl (kN rfl rfl rfl rfl (kN rfl rfl rfl rfl (kN rfl rfl rfl rfl (jT (k:=jM (k:=?_))))))
    refine kN rfl rfl rfl rfl (kN rfl rfl rfl rfl (kN rfl rfl rfl rfl (jT (k:=K9 (CJ.t [(1,_),(4,_),(8,_),(9,_),(10,_),(37,_)] (k:=?_))))))
    refine ql rfl (sQ fun K11=>jb (jA (k:=K11 (jj ?_))))
    first|exact je results8 rfl fun w' hH hf=>⟨⟨_,rfl,fun h=>absurd h dq⟩,hf⟩|exact je results8 rfl fun w' hH hf=>⟨⟨_,rfl,fun h=>by subst h;simp at hg60 hg66 hg72;exact ⟨by rw[tL ox]at hS;exact hS,by omega,by omega,by omega,hb74 rfl⟩⟩,hf⟩
   ·refine jy rfl rfl (jF 0 zh Xe (k:=?_))
    refine jy rfl rfl (jH 0 ZP (k:=?_))
    refine jy rfl rfl (jE QC (k:=?_))
    refine jy rfl rfl (jG (k:=jK (k:=jM (k:=?_))))
    refine xk (t:=33) rfl (fun hg33=>?_) (fun hg33=>?_)
    ·refine kN rfl rfl rfl rfl (kN rfl rfl rfl rfl (kN rfl rfl rfl rfl (jT (k:=K9 (CJ.t [(1,_),(4,_),(8,_),(9,_),(10,_),(37,_)] (k:=?_))))))
     refine ql rfl (sQ fun K12=>jb (jA (k:=K12 (jj ?_))))
     first|exact je results8 rfl fun w' hH hf=>⟨⟨_,rfl,fun h=>absurd h dq⟩,hf⟩|exact je results8 rfl fun w' hH hf=>⟨⟨_,rfl,fun h=>by subst h;simp at hg60 hg66 hg72;exact ⟨by rw[tL ox]at hS;exact hS,by omega,by omega,by omega,hb74 rfl⟩⟩,hf⟩
    ·refine jy rfl rfl (jp rfl (fun a w ha hH hf=>vo (vs:=[_,_,_,_]) 0 rfl rfl XY zC rfl rfl rfl ha hH) (jy rfl rfl ?_))
     refine kg (φ:=fun v=>∃b,v=.bool b∧(b=true→zQ x.samples[k])) call25 rfl rfl (fun w hH hf=>qfv w _ _ (vE.keep (hf.keepAll (.inr rfl)) _ _ hR')) ?_
     rintro _ ⟨b35,rfl,hb35⟩
     refine jy rfl rfl (jU (k:=jK (k:=K9 ?_)))
     refine qZ rfl (fun h37=>?_) (fun h37=>?_)
     ·refine sQ fun K13=>jb (jA (k:=K13 (jj ?_)))
      first|exact je results8 rfl fun w' hH hf=>⟨⟨_,rfl,fun h=>absurd h dq⟩,hf⟩|exact je results8 rfl fun w' hH hf=>⟨⟨_,rfl,fun h=>by subst h;simp at hg60 hg66 hg72;exact ⟨by rw[tL ox]at hS;exact hS,by omega,by omega,by omega,hb74 rfl⟩⟩,hf⟩
     ·refine jg (K8 (sQ fun K14=>jb (jF 0 zh Xe (k:=jH 0 ZP (k:=jE QC (k:=jM (k:=K14 (CJ.t [(1,_),(8,_),(9,_),(10,_),(39,_),(40,_),(41,_)] (k:=jh ?_)))))))))
      refine jZ (σ:=Nat) (fun j=>[(1,.pointer (some ⟨b1,0,none⟩)),(8,.slice (some ⟨b,o,none⟩) x.samples.length cs'),(9,.int .i64 (x.samples.length:Nat)),(10,.int .i64 (k:Nat)),(39,.slice p1 x.samples[k].stack.length c1),(40,.int .i64 (x.samples[k].stack.length:Nat)),(41,.int .i64 (j:Nat))])
       (fun _=>[⟨b1,31,[.slice pt x.types.length ct,.string x.deflt,.slice (some ⟨b,o,none⟩) x.samples.length cs',lm,.slice pl x.locs.length cl,lf,.slice pc x.comments.length cc,.string x.drop,.string x.keep,.int .i64 x.time,.int .i64 x.dur,.int .i64 x.period,.string x.per.ty,.string x.per.unit],true,true,none⟩])
       (fun j _=>j≤x.samples[k].stack.length∧∀n∈x.samples[k].stack.take j,0≤n∧n<x.locs.length)
       (fun j=>x.samples[k].stack.length - j) 0 sR (fun w hH hf=>⟨hH.2.2.2,Nat.zero_le _,by simp⟩) ?_
      rintro j w2 ⟨hj,hN⟩ hf2 hH2 KL2 hKL2
      refine C.begin _ _ hf2 hH2 ?_
      refine sQ fun K15=>jb (jS (k:=K15 (sQ fun K16=>?_)))
      refine jq rfl (fun h42=>?_) (fun h42=>?_)
      ·have hj':j<x.samples[k].stack.length:=by omega
       obtain ⟨b',o',cs2,rfl, -,hR2,hcell2⟩:=hx1 j x.samples[k].stack[j] (gE hj')
       obtain ⟨rfl,hwn⟩:=hR2
       refine jg (K16 (sQ fun K17=>jh (sQ fun K18=>jb (jJ QC so3 (k:=?_)))))
       refine jp rfl (fun a w ha hH hf=>kP ag3 rfl (hcell2 w (hf.keepAll (.inr rfl)) 0 _ rfl) ha) (jA (k:=K18 (sQ fun K19=>jb (jM (k:=jS (k:=jM (k:=?_)))))))
       refine xk (t:=47) rfl (fun hg47=>?_) (fun hg47=>?_)
       ·refine kN rfl rfl rfl rfl (kN rfl rfl rfl rfl (kN rfl rfl rfl rfl (kN rfl rfl rfl rfl (kN rfl rfl rfl rfl (jT (k:=K19 (CJ.t [(1,_),(8,_),(9,_),(10,_),(39,_),(40,_),(41,_),(53,_)] (k:=?_))))))))
        refine ql rfl (sQ fun K20=>jb (jA (k:=K20 (jj ?_))))
        first|exact je results8 rfl fun w' hH hf=>⟨⟨_,rfl,fun h=>absurd h dq⟩,hf⟩|exact je results8 rfl fun w' hH hf=>⟨⟨_,rfl,fun h=>by subst h;simp at hg60 hg66 hg72;exact ⟨by rw[tL ox]at hS;exact hS,by omega,by omega,by omega,hb74 rfl⟩⟩,hf⟩
       ·refine jy rfl rfl (jM (k:=?_))
        refine jy rfl rfl (jF 4 kW QA (k:=?_))
        refine jy rfl rfl (jH 0 Yv (k:=?_))
        refine jy rfl rfl (jE JG (k:=?_))
        refine jy rfl rfl (jn rfl (fun _ _ h=>Jl rfl rfl h) (jK (k:=K19 (CJ.t [(1,_),(8,_),(9,_),(10,_),(39,_),(40,_),(41,_),(53,_)] (k:=?_)))))
        refine qZ rfl (fun h53=>?_) (fun h53=>?_)
        ·refine sQ fun K21=>jb (jA (k:=K21 (jj ?_)))
         first|exact je results8 rfl fun w' hH hf=>⟨⟨_,rfl,fun h=>absurd h dq⟩,hf⟩|exact je results8 rfl fun w' hH hf=>⟨⟨_,rfl,fun h=>by subst h;simp at hg60 hg66 hg72;exact ⟨by rw[tL ox]at hS;exact hS,by omega,by omega,by omega,hb74 rfl⟩⟩,hf⟩
        ·refine jg (K17 (jb (jI (k:=jM (k:=jw (ji ?_))))))
         exact fun w hH hf=>hKL2 (j+1) _ w ⟨hj',Jo hj' hN (by simp at hg47 h53;omega)⟩ hf hH ox sR
      ·refine jt (K6 (jb (jI (k:=jM (k:=jw (ji ?_))))))
       exact fun w hH hf=>hKL (k+1) _ w ⟨hk',Jo hk' hS (by rw[tL ox]at hN;exact ⟨qlJ hg21,qll hg27,Vm hg33,hb35 (by simpa using h37),hN⟩)⟩ hf hH ox sR
 ·refine jt (K2 (sQ fun K22=>jb (jF 2 kW Vy (k:=jH 0 ZQ (k:=jE KA (k:=?_))))))
  refine jn rfl (fun _ _ h=>Xh rfl rfl h) (jM (k:=?_))
  refine xk (t:=60) rfl (fun hg60=>?_) (fun hg60=>?_)
  ·refine jy rfl rfl (jF 0 kW Yq (k:=?_))
   refine jy rfl rfl (jH 0 ZR (k:=?_))
   refine jy rfl rfl (jE KI (k:=?_))
   refine jy rfl rfl (jn rfl (fun _ _ h=>Xh rfl rfl h) (jT (k:=jM (k:=?_))))
   refine xk (t:=66) rfl (fun hg66=>?_) (fun hg66=>?_)
   ·refine jy rfl rfl (jF 6 kW xH (k:=?_))
    refine jy rfl rfl (jH 0 yv (k:=?_))
    refine jy rfl rfl (jE vG (k:=?_))
    refine jy rfl rfl (jn rfl (fun _ _ h=>Xh rfl rfl h) (jT (k:=jM (k:=?_))))
    refine xk (t:=72) rfl (fun hg72=>?_) (fun hg72=>?_)
    ·refine jy rfl rfl (jp rfl (fun a w ha hH hf=>vo (vs:=[_,_,_,_,_,_,_,_,_,_,_,_,_,_]) 0 rfl rfl Ki yJ rfl rfl rfl ha hH) (jy rfl rfl ?_))
     refine kg (φ:=fun v=>∃b,v=.bool b∧(b=true→qmi x)) call26 rfl rfl (fun w hH hf=>qgt w _ _ (qI.keep (hf.keepAll (.inr rfl)) _ _ hP) hbm hbl hbf) ?_
     rintro _ ⟨b74,rfl,hb74⟩
     refine jT (k:=jA (k:=K22 (CJ.t [(2,_)] (k:=jj ?_))))
     first|exact je results8 rfl fun w' hH hf=>⟨⟨_,rfl,fun h=>absurd h dq⟩,hf⟩|exact je results8 rfl fun w' hH hf=>⟨⟨_,rfl,fun h=>by subst h;simp at hg60 hg66 hg72;exact ⟨by rw[tL ox]at hS;exact hS,by omega,by omega,by omega,hb74 rfl⟩⟩,hf⟩
    ·refine kN rfl rfl rfl rfl (kN rfl rfl rfl rfl (jK (k:=jA (k:=K22 (jj ?_)))))
     first|exact je results8 rfl fun w' hH hf=>⟨⟨_,rfl,fun h=>absurd h dq⟩,hf⟩|exact je results8 rfl fun w' hH hf=>⟨⟨_,rfl,fun h=>by subst h;simp at hg60 hg66 hg72;exact ⟨by rw[tL ox]at hS;exact hS,by omega,by omega,by omega,hb74 rfl⟩⟩,hf⟩
   ·refine kN rfl rfl rfl rfl (kN rfl rfl rfl rfl (kN rfl rfl rfl rfl (kN rfl rfl rfl rfl (jK (k:=jM (k:=?_))))))
    refine kN rfl rfl rfl rfl (kN rfl rfl rfl rfl (jK (k:=jA (k:=K22 (CJ.t [(2,_)] (k:=jj ?_))))))
    first|exact je results8 rfl fun w' hH hf=>⟨⟨_,rfl,fun h=>absurd h dq⟩,hf⟩|exact je results8 rfl fun w' hH hf=>⟨⟨_,rfl,fun h=>by subst h;simp at hg60 hg66 hg72;exact ⟨by rw[tL ox]at hS;exact hS,by omega,by omega,by omega,hb74 rfl⟩⟩,hf⟩
  ·refine kN rfl rfl rfl rfl (kN rfl rfl rfl rfl (kN rfl rfl rfl rfl (kN rfl rfl rfl rfl (jK (k:=jM (k:=?_))))))
   refine kN rfl rfl rfl rfl (kN rfl rfl rfl rfl (kN rfl rfl rfl rfl (kN rfl rfl rfl rfl (jK (k:=jM (k:=?_))))))
   refine kN rfl rfl rfl rfl (kN rfl rfl rfl rfl (jK (k:=jA (k:=K22 (CJ.t [(2,_)] (k:=jj ?_))))))
   first|exact je results8 rfl fun w' hH hf=>⟨⟨_,rfl,fun h=>absurd h dq⟩,hf⟩|exact je results8 rfl fun w' hH hf=>⟨⟨_,rfl,fun h=>by subst h;simp at hg60 hg66 hg72;exact ⟨by rw[tL ox]at hS;exact hS,by omega,by omega,by omega,hb74 rfl⟩⟩,hf⟩
end Go.Proofs.YtifdadlhmlhfiaaGreatDoor
