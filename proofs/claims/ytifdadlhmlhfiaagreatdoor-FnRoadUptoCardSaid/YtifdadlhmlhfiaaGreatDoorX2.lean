/-
  Part 2 of the proof. Conditions: as each lemma states them.
-/
import Derived.Test.YtifdadlhmlhfiaaGreatDoorX1
namespace Go.Fw
open Go
variable {k n:Nat}
theorem bits_tag {t:Nat} (hk:k<1048576) (ht:t<8):IntKind.u64.wrap ((BitVec.ofInt 64 ((8*k:Nat):Int)|||BitVec.ofInt 64 (t:Int)).toNat:Nat)=((8*k+t:Nat):Int):=by
 have h1:(BitVec.ofInt 64 ((8*k:Nat):Int)).toNat=8*k:=by
  rw[BitVec.ofInt_natCast,BitVec.toNat_ofNat];exact Nat.mod_eq_of_lt (by omega)
 have h2:(BitVec.ofInt 64 (t:Int)).toNat=t:=by
  rw[BitVec.ofInt_natCast,BitVec.toNat_ofNat];exact Nat.mod_eq_of_lt (by omega)
 rw[BitVec.toNat_or,h1,h2]
 have h3:=Nat.two_pow_add_eq_or_of_lt (i:=3) (b:=t) (by omega) k
 have h4:8*k|||t=8*k+t:=by simpa using h3.symm
 rw[h4]
 simp[IntKind.wrap,IntKind.bits,IntKind.signed];omega
set_option maxRecDepth 20000 in
theorem or128:∀x:Fin 256,(x.val|||128)=x.val%128+128:=by decide
theorem bits_more (n:Nat):IntKind.u8.wrap ((BitVec.ofInt 8 (IntKind.u8.wrap (n:Int))|||BitVec.ofInt 8 128).toNat:Nat)=((n%128+128:Nat):Int):=by
 have h0:IntKind.u8.wrap (n:Int)=((n%256:Nat):Int):=by simp[IntKind.wrap,IntKind.bits,IntKind.signed]
 have h1:(BitVec.ofInt 8 ((n%256:Nat):Int)).toNat=n%256:=by
  rw[BitVec.ofInt_natCast,BitVec.toNat_ofNat];exact Nat.mod_eq_of_lt (by omega)
 have h2:(BitVec.ofInt 8 (128:Int)).toNat=128:=rfl
 rw[h0,BitVec.toNat_or,h1,h2,or128 ⟨n%256,by omega⟩]
 simp[IntKind.wrap,IntKind.bits,IntKind.signed];omega
theorem conv8 (h:n<128):IntKind.u8.wrap (n:Int)=(n:Int):=by simp[IntKind.wrap,IntKind.bits,IntKind.signed];omega
theorem conv64 (h:n<4611686018427387904):IntKind.u64.wrap (n:Int)=(n:Int):=by simp[IntKind.wrap,IntKind.bits,IntKind.signed];omega
theorem shl3 (hk:k<1048576):IntKind.u64.wrap ((k:Int)*2^(min 3 IntKind.u64.bits))=((8*k:Nat):Int):=by
 have:min 3 IntKind.u64.bits=3:=rfl
 rw[this]
 simp[IntKind.wrap,IntKind.bits,IntKind.signed];omega
theorem shr7 (n:Nat):(n:Int).fdiv (2^(min 7 IntKind.u64.bits))=((n/128:Nat):Int):=by
 have:min 7 IntKind.u64.bits=7:=rfl
 rw[this,Int.fdiv_eq_ediv_of_nonneg _ (by omega)]
 simp
end Go.Fw
namespace Go.Proofs.YtifdadlhmlhfiaaGreatDoor
open Go Go.Fw Go.Proofs Go.Proofs.Tryz
variable {y:Ent} {D W:List Nat} {B bb c k n:Nat} {p:Option Addr} {w w':World}
abbrev tBuf:Nat:=198
abbrev tU8:Nat:=5
def cBuf (f t u:Int) (dv:Value) (tmp:List Value):List Value:=.int .i64 f::.int .i64 t::.int .u64 u::dv::tmp
structure Bf (B:Nat) (w:World) (bb:Nat) (D:List Nat):Prop where
 ge:B≤bb
 ex:∃f t u p c tmp y,Blk w bb tBuf (cBuf f t u (.slice p D.length c) tmp)∧tmp.length=16∧tmp.all scal=true∧Own tU8 1 y p D.length c (D.map bv)∧(y.on=true→B≤y.b∧Blk w y.b tU8 y.cs)
abbrev wE:List Nat:=[tBuf,tU8]
theorem hpBf {f t u:Int} {tmp:List Value} (hB:B≤bb) (hb:Blk w bb tBuf (cBuf f t u (.slice p D.length c) tmp)) (hO:Own tU8 1 y p D.length c (D.map bv)) (hy:y.on=true→B≤y.b∧Blk w y.b tU8 y.cs):
  Hp ⟨w,B,wE⟩ w [⟨bb,tBuf,cBuf f t u (.slice p D.length c) tmp,true,true,none⟩,y]:=by
 have hyH:Hp ⟨w,B,wE⟩ w [y]:=by
  refine ⟨⟨fun ho=>by rw[hO.hT];exact (hy ho).2,fun o ho=>by rw[hO.ho]at ho;cases ho⟩,fun he _=>.inr ?_,by simp,trivial⟩
  have hon:y.on=true:=by simpa[Ent.ex,hO.ho]using he
  exact ⟨(hy hon).1,by rw[hO.tag];simp⟩
 refine hyH.add hb (fun _=>.inr ⟨hB,by simp⟩) ?_
 intro z hz he
 simp at hz
 subst hz
 have hon:z.on=true:=by simpa[Ent.ex,hO.ho]using he
 exact (Blk.ne hb (hy hon).2 (by decide)).symm
theorem bfHp {f t u:Int} {tmp:List Value} (hs:B≤w.heap.size) (hB:B≤bb) (ht:tmp.length=16∧tmp.all scal=true) (hO:Own tU8 1 y p D.length c (D.map bv)) {i j:Nat} {H:Heap}
  (hH:Hp ⟨w,B,wE⟩ w' H) (hi:H[i]? =some ⟨bb,tBuf,cBuf f t u (.slice p D.length c) tmp,true,true,none⟩) (hj:H[j]? =some y):Bf B w' bb D:=
 ⟨hB,f,t,u,p,c,tmp,y,hH.get hi rfl,ht.1,ht.2,hO,fun ho=>by
  have h1:=hH.get hj ho
  rw[hO.hT]at h1
  rcases hH.may (List.mem_of_getElem? hj) ho hO.hw with h|⟨h, -⟩
  ·exact ⟨Nat.le_trans hs h,h1⟩
  ·exact ⟨h,h1⟩⟩
theorem Bf.fr (h:Bf B w bb D) (k:Fr 0 [] w w'):Bf B w' bb D:=by
 obtain ⟨f,t,u,p,c,tmp,y,h1,h2,h3,h4,h5⟩:=h.ex
 exact ⟨h.ge,f,t,u,p,c,tmp,y,k.blk h1 (.inr (by simp)),h2,h3,h4,fun ho=>⟨(h5 ho).1,k.blk (h5 ho).2 (.inr (by simp))⟩⟩
theorem Bf.size (h:Bf B w bb D):B≤w.heap.size:=by
 obtain ⟨f,t,u,p,c,tmp,y,h1, -⟩:=h.ex
 exact Nat.le_trans h.ge (Nat.le_of_lt h1.lt)
theorem varint_c (B:Nat) (w:World) (bb:Nat) (D:List Nat) (n:Nat) (hn:n<18446744073709551616) (h:Bf B w bb D) (hl:D.length+10≤100000000000):
  Calls Tryz.prog 220 #[ptr bb,.int .u64 (n:Nat)] w (Ret fun _ w'=>Bf B w' bb (D++vint n)∧Fr B wE w w'):=by
 obtain ⟨f,t,u,p,c,tmp,y,h1,h2,h3,h4,h5⟩:=h.ex
 have hs:=h.size
 refine startJ (args:=[_,_]) [(0,_),(1,_)] B wE _ Tryz.func220 rfl Tryz.ntmps220 rfl rfl (hpBf h.ge h1 h4 h5) ?_
 refine sQ fun K1=>cj_block ?_
 refine cj_loop (σ:=List Nat×Nat×Option Addr×Nat×Ent) (fun s=>[(0,ptr bb),(1,.int .u64 (s.2.1:Nat))]) (fun s=>[⟨bb,tBuf,cBuf f t u (.slice s.2.2.1 s.1.length s.2.2.2.1) tmp,true,true,none⟩,s.2.2.2.2])
  (fun s _=>Own tU8 1 s.2.2.2.2 s.2.2.1 s.1.length s.2.2.2.1 (s.1.map bv)∧s.1++vint s.2.1=D++vint n) (fun s=>s.2.1) (D,n,p,c,y) ⟨rfl,rfl,trivial⟩ (fun w' hH hf=>⟨hH,h4,rfl⟩) ?_
 rintro ⟨E,m,q,cc,z⟩ w1 ⟨hO,hE⟩ hf1 hH1 KL hKL
 try dsimp only at hO hE
 have hEl:E.length+10≤100000000000+10:=by
  have:=congrArg List.length hE
  simp at this
  have:=vint_len hn
  omega
 have hEs:E.length+1≤100000000000:=by
  have:=congrArg List.length hE
  simp at this
  have:=vint_len hn
  have:=vint_pos m
  omega
 refine C.begin _ _ hf1 hH1 ?_
 try dsimp only
 refine sQ fun K2=>sQ fun K3=>cj_reg (jM (k:=?_))
 refine j_val rfl (fun _ _ h=>r_geq rfl rfl h) (K3 ?_)
 refine cj_dec rfl (fun h5'=>?_) (fun h5'=>?_)
 ·have hm:¬m<128:=by omega
  refine cj_skip (K2 (cj_block (sQ fun K4=>cj_reg (jM (k:=jM (k:=jN (k:=jF 3 ru198 so36 (k:=jH 0 ag36 (k:=jM (k:=?_))))))))))
  refine j_val rfl (fun _ _ h=>r_conv ru71 ru5 rfl h) (j_val rfl (fun _ _ h=>r_or rfl rfl h) ?_)
  refine j_eqv (u:=bv (m%128+128)) (congrArg (Value.int .u8) (bits_more m)) ?_
  refine j_bslice1 ru36 so5 zv5 rfl rfl rfl rfl rfl fun b14=>?_
  refine j_appO 1 rfl hO ru36 el5 rfl rfl rfl rfl rfl hEs rfl fun y15 p15 c15 hO15=>?_
  refine jN (k:=jF 3 ru198 so36 (k:=jB (_::_::_::_::_) [_,_] 0 so36 (k:=K4 (CJ.t [(0,_),(1,_)] (k:=cj_reg (jM (k:=?_)))))))
  refine j_val rfl (fun _ _ h=>r_shr (q:=7) rfl rfl h) ?_
  refine j_eqv (u:=.int .u64 ((m/128:Nat):Int)) (congrArg (Value.int .u64) (shr7 m)) ?_
  refine jA (k:=j_nil (ej_blk (ej_then ?_)))
  exact fun w' hH hf=>hKL (E++[m%128+128],m/128,p15,c15,y15) _ w' ⟨by have h:Own tU8 1 y15 p15 (E.length+1) c15 (E.map bv++[bv (m%128+128)]):=hO15;simpa using h,by rw[← hE,vint_ge hm];simp⟩ hf (by show Hp _ _ [⟨bb,tBuf,cBuf f t u (.slice p15 (E++[m%128+128]).length c15) tmp,true,true,none⟩,y15];rw[List.length_append];exact hH) (by simp only;omega) ⟨rfl,rfl,trivial⟩
 ·have hm:m<128:=by omega
  refine cj_exit (K1 (cj_reg (jM (k:=jM (k:=jN (k:=jF 3 ru198 so36 (k:=jH 0 ag36 (k:=jM (k:=?_)))))))))
  refine j_val rfl (fun _ _ h=>r_conv ru71 ru5 rfl h) ?_
  refine j_eqv (u:=bv m) (congrArg (Value.int .u8) (conv8 hm)) ?_
  refine j_bslice1 ru36 so5 zv5 rfl rfl rfl rfl rfl fun b27=>?_
  refine j_appO 1 rfl hO ru36 el5 rfl rfl rfl rfl rfl hEs rfl fun y28 p28 c28 hO28=>?_
  refine jN (k:=jF 3 ru198 so36 (k:=jB (_::_::_::_::_) [_,_] 0 so36 (k:=j_nil ?_)))
  refine ?_
  refine ej_end0 Tryz.results220 fun w' hH hf=>?_
  have hO2:Own tU8 1 y28 p28 (D++vint n).length c28 ((D++vint n).map bv):=by
   have h:Own tU8 1 y28 p28 (E.length+1) c28 (E.map bv++[bv m]):=hO28
   rw[← hE,vint_lt hm];simpa using h
  have hb:=hH.get (i:=0) rfl rfl
  have hl:E.length+1=(D++vint n).length:=by rw[← hE,vint_lt hm];simp
  rw[hl]at hH
  exact ⟨bfHp hs h.ge ⟨h2,h3⟩ hO2 (i:=0) (j:=1) hH rfl rfl,hf⟩
theorem frE {a b c:World} (h:Fr B W a b) (k:Fr B W b c):Fr B W a c:=h.trans k (.inr ⟨Nat.le_refl _,fun _ h=>h⟩)
theorem frQ {a b c:World} (h:Fr B W a b) (k:Fr 0 [] b c):Fr B W a c:=frE h (k.quiet _ _)
section
variable {P:Program} {Q:Exit→Act→World→Prop} {n:Nat} {f:Fm} {e:Env} {H:Heap} {ops:Array Oper} {rest:List Oper} {d ty:Nat} {pos:String} {af:Array Edge}
theorem j_callB {D':List Nat} {w0 ws:World} {g:FuncId} {args:Array Operand} {vs:List Value} {tys:Array TypeId} (hF0:Fr B wE w0 ws) (hB0:Bf B ws bb D) (hg:∀(az:Array Value) (w:World),(callFunc g az).run P w=.ok (.enter g az) w)
  (hargs:evL e args.toList=some vs) (hd:Nat.blt d n=true) (hc:∀w,Fr 0 [] ws w→Bf B w bb D→Calls P g vs.toArray w (Ret fun _ w'=>Bf B w' bb D'∧Fr B wE w w'))
  (k:∀v w2,Bf B w2 bb D'→Fr B wE w0 w2→J P ops Q n ⟨w2,0,[]⟩ ((d,v)::e) [] rest):J P ops Q n ⟨ws,0,[]⟩ e H (⟨some d,.call ⟨.value (.func g),args,tys⟩,ty,pos,af,none⟩::rest):=
 j_callE (R:=fun w1 _ w2=>Bf B w2 bb D'∧Fr B wE w1 w2) hg hargs hd (fun w _ hf=>hc w hf (hB0.fr hf)) fun w1 v w2 _ hf1 hR=>
  J.begin ⟨w2,0,[]⟩ [] ok_refl .nil (k v w2 hR.1 (frE (frQ hF0 hf1) hR.2))
end
def lenB (len:Nat) (tag:Nat):List Nat:=vint (8*tag+2)++vint len
theorem lenB_len {len tag:Nat} (h1:tag<1048576) (h2:len<18446744073709551616):(lenB len tag).length≤20:=by
 unfold lenB
 have:=vint_len (n:=8*tag+2) (by omega)
 have:=vint_len h2
 simp;omega
theorem length_c (B:Nat) (w:World) (bb:Nat) (D:List Nat) (tag len:Nat) (ht:tag<1048576) (hn:len<4611686018427387904) (h:Bf B w bb D) (hl:D.length+20≤100000000000):
  Calls Tryz.prog 214 #[ptr bb,.int .i64 (tag:Nat),.int .i64 (len:Nat)] w (Ret fun _ w'=>Bf B w' bb (D++lenB len tag)∧Fr B wE w w'):=by
 have hv:=vint_len (n:=8*tag+2) (by omega)
 refine startJ (args:=[_,_,_]) [(0,_),(1,_),(2,_)] 0 [] [] Tryz.func214 rfl Tryz.ntmps214 rfl rfl .nil ?_
 refine sQ fun K1=>cj_reg (jM (k:=jM (k:=?_)))
 refine j_val rfl (fun _ _ h=>r_conv ru3 ru71 rfl h) ?_
 refine j_eqv (u:=.int .u64 (tag:Nat)) (congrArg (Value.int .u64) (conv64 (by omega))) ?_
 refine j_val rfl (fun _ _ h=>r_shl (q:=3) rfl rfl h) ?_
 refine j_eqv (u:=.int .u64 ((8*tag:Nat):Int)) (congrArg (Value.int .u64) (shl3 ht)) ?_
 refine j_val rfl (fun _ _ h=>r_or rfl rfl h) ?_
 refine j_eqv (u:=.int .u64 ((8*tag+2:Nat):Int)) (congrArg (Value.int .u64) (bits_tag (t:=2) ht (by omega))) ?_
 refine j_callB (D':=D++vint (8*tag+2)) (Fr.refl _ _ w) h Tryz.call220 rfl rfl (fun w1 hf hB=>varint_c B w1 bb D (8*tag+2) (by omega) hB (by omega)) fun v w2 hB2 hF2=>?_
 refine K1 (cj_reg (jM (k:=jM (k:=?_))))
 refine j_val rfl (fun _ _ h=>r_conv ru3 ru71 rfl h) ?_
 refine j_eqv (u:=.int .u64 (len:Nat)) (congrArg (Value.int .u64) (conv64 (by omega))) ?_
 refine j_callB (D':=D++lenB len tag) hF2 hB2 Tryz.call220 rfl rfl (fun w1 hf hB=>by rw[lenB, ← List.append_assoc];exact varint_c B w1 bb _ len (by omega) hB (by simp;omega)) fun v w3 hB3 hF3=>?_
 refine j_nil ?_
 refine ?_
 exact ej_end0 Tryz.results214 fun w' hH hf=>⟨hB3.fr hf,frQ hF3 hf⟩
def numB (k n:Nat):List Nat:=vint (8*k)++vint n
theorem numB_len (h1:k<1048576) (h2:n<18446744073709551616):(numB k n).length≤20:=by
 unfold numB
 have:=vint_len (n:=8*k) (by omega)
 have:=vint_len h2
 simp;omega
theorem uint64_c (B:Nat) (w:World) (bb:Nat) (D:List Nat) (tag n:Nat) (ht:tag<1048576) (hn:n<18446744073709551616) (h:Bf B w bb D) (hl:D.length+20≤100000000000):
  Calls Tryz.prog 221 #[ptr bb,.int .i64 (tag:Nat),.int .u64 (n:Nat)] w (Ret fun _ w'=>Bf B w' bb (D++numB tag n)∧Fr B wE w w'):=by
 have hv:=vint_len (n:=8*tag) (by omega)
 refine startJ (args:=[_,_,_]) [(0,_),(1,_),(2,_)] 0 [] [] Tryz.func221 rfl Tryz.ntmps221 rfl rfl .nil ?_
 refine sQ fun K1=>cj_reg (jM (k:=jM (k:=?_)))
 refine j_val rfl (fun _ _ h=>r_conv ru3 ru71 rfl h) ?_
 refine j_eqv (u:=.int .u64 (tag:Nat)) (congrArg (Value.int .u64) (conv64 (by omega))) ?_
 refine j_val rfl (fun _ _ h=>r_shl (q:=3) rfl rfl h) ?_
 refine j_eqv (u:=.int .u64 ((8*tag:Nat):Int)) (congrArg (Value.int .u64) (shl3 ht)) ?_
 refine j_val rfl (fun _ _ h=>r_or rfl rfl h) ?_
 refine j_eqv (u:=.int .u64 ((8*tag:Nat):Int)) (congrArg (Value.int .u64) (bits_tag (t:=0) ht (by omega))) ?_
 refine j_callB (D':=D++vint (8*tag)) (Fr.refl _ _ w) h Tryz.call220 rfl rfl (fun w1 hf hB=>varint_c B w1 bb D (8*tag) (by omega) hB (by omega)) fun v w2 hB2 hF2=>?_
 refine K1 (cj_reg (jM (k:=jM (k:=?_))))
 refine j_callB (D':=D++numB tag n) hF2 hB2 Tryz.call220 rfl rfl (fun w1 hf hB=>by rw[numB, ← List.append_assoc];exact varint_c B w1 bb _ _ hn hB (by simp;omega)) fun v w3 hB3 hF3=>?_
 refine j_nil ?_
 refine ?_
 exact ej_end0 Tryz.results221 fun w' hH hf=>⟨hB3.fr hf,frQ hF3 hf⟩
def u64 (z:Int):Nat:=(IntKind.u64.wrap z).toNat
theorem u64_lt (z:Int):u64 z<18446744073709551616:=by
 unfold u64
 simp[IntKind.wrap,IntKind.bits,IntKind.signed];omega
theorem u64_cast (z:Int):((u64 z:Nat):Int)=IntKind.u64.wrap z:=by
 unfold u64
 simp[IntKind.wrap,IntKind.bits,IntKind.signed];omega
theorem u64_zero {z:Int} (h:IntKind.i64.wrap z=z):u64 z=0↔z=0:=by
 rw[← Int.natCast_inj,u64_cast]
 simp[IntKind.wrap,IntKind.bits,IntKind.signed]at h⊢
 omega
theorem int64_c (B:Nat) (w:World) (bb:Nat) (D:List Nat) (tag:Nat) (z:Int) (ht:tag<1048576) (h:Bf B w bb D) (hl:D.length+20≤100000000000):
  Calls Tryz.prog 216 #[ptr bb,.int .i64 (tag:Nat),.int .i64 z] w (Ret fun _ w'=>Bf B w' bb (D++numB tag (u64 z))∧Fr B wE w w'):=by
 refine startJ (args:=[_,_,_]) [(0,_),(1,_),(2,_)] 0 [] [] Tryz.func216 rfl Tryz.ntmps216 rfl rfl .nil ?_
 refine sQ fun K1=>cj_reg (jM (k:=?_))
 refine j_val rfl (fun _ _ h=>r_conv ru2 ru71 rfl h) ?_
 refine j_eqv (u:=.int .u64 (u64 z:Nat)) (congrArg (Value.int .u64) (u64_cast z).symm) ?_
 refine jA (k:=K1 (cj_reg (jM (k:=jM (k:=jM (k:=?_))))))
 refine j_callB (D':=D++numB tag (u64 z)) (Fr.refl _ _ w) h Tryz.call221 rfl rfl (fun w1 hf hB=>uint64_c B w1 bb D _ _ ht (u64_lt z) hB hl) fun v w2 hB2 hF2=>?_
 refine j_nil ?_
 refine ?_
 exact ej_end0 Tryz.results216 fun w' hH hf=>⟨hB2.fr hf,frQ hF2 hf⟩
def optB (k n:Nat):List Nat:=if n=0 then [] else numB k n
theorem optB_len (h1:k<1048576) (h2:n<18446744073709551616):(optB k n).length≤20:=by
 unfold optB;split
 ·simp
 ·exact numB_len h1 h2
theorem int64Opt_c (B:Nat) (w:World) (bb:Nat) (D:List Nat) (tag:Nat) (z:Int) (ht:tag<1048576) (hz:IntKind.i64.wrap z=z) (h:Bf B w bb D) (hl:D.length+20≤100000000000):
  Calls Tryz.prog 196 #[ptr bb,.int .i64 (tag:Nat),.int .i64 z] w (Ret fun _ w'=>Bf B w' bb (D++optB tag (u64 z))∧Fr B wE w w'):=by
 refine startJ (args:=[_,_,_]) [(0,_),(1,_),(2,_)] 0 [] [] Tryz.func196 rfl Tryz.ntmps196 rfl rfl .nil ?_
 refine sQ fun K1=>sQ fun K2=>cj_reg (jM (k:=jQ (k:=K2 ?_)))
 refine cj_dec rfl (fun h7=>?_) (fun h7=>?_)
 ·refine cj_ret ?_
  exact ej_ret0 Tryz.results196 fun w' hH hf=>⟨by rw[optB,if_pos ((u64_zero hz).2 h7),List.append_nil];exact h.fr hf,hf.quiet _ _⟩
 ·refine cj_skip (K1 (cj_reg (jM (k:=jM (k:=jM (k:=?_))))))
  refine j_callB (D':=D++numB tag (u64 z)) (Fr.refl _ _ w) h Tryz.call216 rfl rfl (fun w1 hf hB=>int64_c B w1 bb D _ _ ht hB hl) fun v w2 hB2 hF2=>?_
  refine j_nil ?_
  refine ?_
  exact ej_end0 Tryz.results196 fun w' hH hf=>⟨by rw[optB,if_neg (fun h0=>h7 ((u64_zero hz).1 h0))];exact hB2.fr hf,frQ hF2 hf⟩
theorem uint64Opt_c (B:Nat) (w:World) (bb:Nat) (D:List Nat) (tag n:Nat) (ht:tag<1048576) (hn:n<18446744073709551616) (h:Bf B w bb D) (hl:D.length+20≤100000000000):
  Calls Tryz.prog 230 #[ptr bb,.int .i64 (tag:Nat),.int .u64 (n:Nat)] w (Ret fun _ w'=>Bf B w' bb (D++optB tag n)∧Fr B wE w w'):=by
 refine startJ (args:=[_,_,_]) [(0,_),(1,_),(2,_)] 0 [] [] Tryz.func230 rfl Tryz.ntmps230 rfl rfl .nil ?_
 refine sQ fun K1=>sQ fun K2=>cj_reg (jM (k:=jQ (k:=K2 ?_)))
 refine cj_dec rfl (fun h7=>?_) (fun h7=>?_)
 ·refine cj_ret ?_
  exact ej_ret0 Tryz.results230 fun w' hH hf=>⟨by rw[optB,if_pos (by omega),List.append_nil];exact h.fr hf,hf.quiet _ _⟩
 ·refine cj_skip (K1 (cj_reg (jM (k:=jM (k:=jM (k:=?_))))))
  refine j_callB (D':=D++numB tag n) (Fr.refl _ _ w) h Tryz.call221 rfl rfl (fun w1 hf hB=>uint64_c B w1 bb D _ _ ht hn hB hl) fun v w2 hB2 hF2=>?_
  refine j_nil ?_
  refine ?_
  exact ej_end0 Tryz.results230 fun w' hH hf=>⟨by rw[optB,if_neg (by omega)];exact hB2.fr hf,frQ hF2 hf⟩
theorem bool_c (B:Nat) (w:World) (bb:Nat) (D:List Nat) (tag:Nat) (h:Bf B w bb D) (ht:tag<1048576) (hl:D.length+20≤100000000000):
  Calls Tryz.prog 244 #[ptr bb,.int .i64 (tag:Nat),.bool true] w (Ret fun _ w'=>Bf B w' bb (D++numB tag 1)∧Fr B wE w w'):=by
 refine startJ (args:=[_,_,_]) [(0,_),(1,_),(2,_)] 0 [] [] Tryz.func244 rfl Tryz.ntmps244 rfl rfl .nil ?_
 refine sQ fun K1=>cj_reg (jM (k:=K1 ?_))
 refine cj_if_t rfl (cj_reg (jM (k:=jM (k:=?_))))
 refine j_callB (D':=D++numB tag 1) (Fr.refl _ _ w) h Tryz.call221 rfl rfl (fun w1 hf hB=>uint64_c B w1 bb D tag 1 ht (by omega) hB hl) fun v w2 hB2 hF2=>?_
 refine j_nil ?_
 refine ?_
 exact ej_end0 Tryz.results244 fun w' hH hf=>⟨hB2.fr hf,frQ hF2 hf⟩
def bnat (b:Bool):Nat:=if b then 1 else 0
theorem boolOpt_c (B:Nat) (w:World) (bb:Nat) (D:List Nat) (tag:Nat) (b:Bool) (ht:tag<1048576) (h:Bf B w bb D) (hl:D.length+20≤100000000000):
  Calls Tryz.prog 231 #[ptr bb,.int .i64 (tag:Nat),.bool b] w (Ret fun _ w'=>Bf B w' bb (D++optB tag (bnat b))∧Fr B wE w w'):=by
 refine startJ (args:=[_,_,_]) [(0,_),(1,_),(2,_)] 0 [] [] Tryz.func231 rfl Tryz.ntmps231 rfl rfl .nil ?_
 refine sQ fun K1=>sQ fun K2=>cj_reg (jM (k:=jU (k:=K2 ?_)))
 refine cj_if rfl (fun h7=>?_) (fun h7=>?_)
 ·obtain rfl:b=false:=by simpa using h7
  refine cj_ret ?_
  exact ej_ret0 Tryz.results231 fun w' hH hf=>⟨by rw[show optB tag (bnat false)=[] from rfl,List.append_nil];exact h.fr hf,hf.quiet _ _⟩
 ·obtain rfl:b=true:=by simpa using h7
  refine cj_skip (K1 (cj_reg (jM (k:=jM (k:=jM (k:=?_))))))
  refine j_callB (D':=D++numB tag 1) (Fr.refl _ _ w) h Tryz.call244 rfl rfl (fun w1 hf hB=>bool_c B w1 bb D _ hB ht hl) fun v w2 hB2 hF2=>?_
  refine j_nil ?_
  refine ?_
  exact ej_end0 Tryz.results231 fun w' hH hf=>⟨by rw[show optB tag (bnat true)=numB tag 1 from rfl];exact hB2.fr hf,frQ hF2 hf⟩
theorem fc_string {s:ByteArray} (w:World):(Builtin.firstCells 1 s.size (.string s)).run Tryz.prog w=.ok ((sB s).map bv).toArray w:=by
 have h:s.extract 0 s.size=s:=by simp
 simp only[Builtin.firstCells,h]
 have h2:(s.data.map fun b=>(Value.int .u8 (b.toNat:Int)))=((sB s).map bv).toArray:=by
  apply Array.toList_inj.1
  simp[sB,Function.comp_def]
 rw[← h2];rfl
theorem string_c (B:Nat) (w:World) (bb:Nat) (D:List Nat) (tag:Nat) (s:ByteArray) (ht:tag<1048576) (h:Bf B w bb D) (hl:D.length+s.size+20≤100000000000):
  Calls Tryz.prog 215 #[ptr bb,.int .i64 (tag:Nat),.string s] w (Ret fun _ w'=>Bf B w' bb (D++encF (.bys tag (sB s)))∧Fr B wE w w'):=by
 have hll:=lenB_len (len:=s.size) ht (by omega)
 refine startJ (args:=[_,_,_]) [(0,_),(1,_),(2,_)] 0 [] [] Tryz.func215 rfl Tryz.ntmps215 rfl rfl .nil ?_
 refine sQ fun K1=>cj_reg (jM (k:=jM (k:=jM (k:=?_))))
 refine j_val rfl (fun _ _ h=>r_slen ru9 rfl h) ?_
 refine j_callB (D':=D++lenB s.size tag) (Fr.refl _ _ w) h Tryz.call214 rfl rfl (fun w1 hf hB=>length_c B w1 bb D _ _ ht (by omega) hB (by omega)) fun v w2 hB2 hF2=>?_
 obtain ⟨f,t,u,p,c,tmp,y,h1,h2,h3,h4,h5⟩:=hB2.ex
 refine fun w3 hH3 hf3=>?_
 refine J.begin ⟨w3,B,wE⟩ _ ok_refl (hpBf hB2.ge (hf3.blk h1 (.inr (by simp))) h4 fun ho=>⟨(h5 ho).1,hf3.blk (h5 ho).2 (.inr (by simp))⟩) ?_
 refine K1 (cj_reg (jM (k:=jM (k:=jN (k:=jF 3 ru198 so36 (k:=jH 0 ag36 (k:=jM (k:=?_))))))))
 refine j_append 1 rfl h4.hT h4.ho h4.hw ru36 ru9 (.inr rfl) el5 rfl rfl rfl h4.sl (lenOf_string s) (fun w1 w2 hH hf k=>fc_string w2) (by simp[sB_len]) (by simp[List.all_eq_true,scal]) (by simp;omega) rfl fun y17 p17 c17 q1 q2 q3 q4=>?_
 refine jN (k:=jF 3 ru198 so36 (k:=jB (_::_::_::_::_) [_,_] 0 so36 (k:=j_nil ?_)))
 refine ?_
 refine ej_end0 Tryz.results215 fun w' hH hf=>?_
 have hD:D++encF (.bys tag (sB s))=(D++lenB s.size tag)++sB s:=by simp[encF,lenB,sB_len]
 have hl:(D++lenB s.size tag).length+s.size=((D++lenB s.size tag)++sB s).length:=by simp[sB_len];omega
 rw[hl]at hH
 have hO2:Own tU8 1 y17 p17 ((D++lenB s.size tag)++sB s).length c17 (((D++lenB s.size tag)++sB s).map bv):=by
  rw[hl]at q4
  exact ⟨q1,q2,q3,by rw[List.map_append];exact q4⟩
 rw[hD]
 exact ⟨bfHp (Nat.le_trans h.size (Nat.le_trans hF2.size hf3.size)) h.ge ⟨h2,h3⟩ hO2 (i:=0) (j:=1) hH rfl rfl,frE (frQ hF2 hf3) hf⟩
end Go.Proofs.YtifdadlhmlhfiaaGreatDoor
namespace Go.Fw
open Go
variable {b m n:Nat}
theorem bvs_scal {l:List Nat}:(l.map bv).all scal=true:=by simp[List.all_eq_true,scal]
theorem lenB_pos' (a b:Nat):0<(vint a++vint b).length:=by have:=vint_pos a;simp;omega
theorem setL_cons:∀(vs:List Value) (a:Value) (cs:List Value) (o:Nat),setL (a::cs) (o+1) vs=a::setL cs o vs
 |[],_,_,_=>rfl
 |v::vs,a,cs,o=>by simp only[setL,List.set_cons_succ];exact setL_cons vs a _ (o+1)
theorem natMin {a:Nat} (h:a≤b):Nat.min a b=a:=Nat.min_eq_left h
theorem fc_any {c T o:Nat} {cs ys:List Value} {w:World} {P:Program} (hb:Blk w b T cs) (h:(cs.drop o).take m=ys) (hl:ys.length=m):(Builtin.firstCells 1 m (.slice (some ⟨b,o,none⟩) m c)).run P w=.ok ys.toArray w:=fc_blk hb (by rw[Nat.mul_one];exact h) (by omega)
theorem part_last (D M L:List Nat) (ex:List Value) (hn:n=D.length+M.length) (hm:m=L.length):(((D++M++L).map bv++ex).drop n).take m=L.map bv:=by
 subst hn;subst hm
 rw[List.map_append,List.append_assoc,List.drop_append_of_le_length (by simp),List.drop_of_length_le (by simp),List.nil_append,List.take_append_of_le_length (by simp),List.take_of_length_le (by simp)]
theorem part_mid (D M L:List Nat) (ex:List Value) (hn:n=D.length) (hm:m=M.length):(((D++M++L).map bv++ex).drop n).take m=M.map bv:=by
 subst hn;subst hm
 rw[List.append_assoc,List.map_append,List.append_assoc,List.drop_append_of_le_length (by simp),List.drop_of_length_le (by simp),List.nil_append,List.map_append,List.append_assoc,List.take_append_of_le_length (by simp),List.take_of_length_le (by simp)]
theorem rot_cells (D M L:List Nat) (ex:List Value) (c:Nat) (hL:0<L.length) (hc:c=(D++M++L).length+ex.length):
  setL (setL ((D++M++L).map bv++ex) (cut 0 c (D.length+L.length) 1) (M.map bv)) (cut 0 c D.length 1) (L.map bv)=(D++L++M).map bv++ex:=by
 simp only[List.length_append]at hc
 have h2:cut 0 c D.length 1=D.length:=by rw[cut,if_neg (by omega)];omega
 rw[h2]
 by_cases hM:M=[]
 ·subst hM
  simp only[List.map_nil,setL,List.append_nil,List.map_append]
  have:=setL_mid (L.map bv) (D.map bv) (L.map bv) ex rfl
  simpa using this
 ·have hMp:0<M.length:=List.length_pos_iff.2 hM
  have h1:cut 0 c (D.length+L.length) 1=D.length+L.length:=by rw[cut,if_neg (by omega)];omega
  rw[h1]
  obtain ⟨W,Z,hW,hWl⟩:∃W Z,M++L=W++Z∧W.length=L.length:=⟨(M++L).take L.length,(M++L).drop L.length,by simp,by simp⟩
  have hZ:Z.length=M.length:=by have:=congrArg List.length hW;simp at this;omega
  have e1:(D++M++L).map bv++ex=(D++W).map bv++Z.map bv++ex:=by rw[List.append_assoc,hW];simp
  rw[e1]
  have e2:=setL_mid (M.map bv) ((D++W).map bv) (Z.map bv) ex (by simp[hZ])
  rw[show ((D++W).map bv).length=D.length+L.length by simp[hWl]]at e2
  rw[e2]
  have e3:=setL_mid (L.map bv) (D.map bv) (W.map bv) (M.map bv++ex) (by simp[hWl])
  rw[show (D.map bv).length=D.length by simp]at e3
  simpa using e3
end Go.Fw
namespace Go.Proofs.YtifdadlhmlhfiaaGreatDoor
open Go Go.Fw Go.Proofs Go.Proofs.Tryz
variable {B T b k mb:Nat} {v:Value} {w w':World}
theorem lenB_short {len tag:Nat} (h1:tag<1048576) (h2:len≤100000000000):(lenB len tag).length≤11:=by
 unfold lenB
 have:=vint_len_aux 4 (8*tag+2) (by omega)
 have:=vint_len_aux 5 len (by omega)
 simp;omega
theorem lenB_pos (a b:Nat):0<(lenB a b).length:=lenB_pos' _ _
theorem copyTmp {f t u:Int} {dv:Value} {tmp T1 T2:List Value} {L:List Nat} (h:tmp=T1++T2) (hl:T1.length=L.length):setL (cBuf f t u dv tmp) 4 (L.map bv)=cBuf f t u dv (L.map bv++T2):=by
 subst h
 unfold cBuf
 rw[setL_cons,setL_cons,setL_cons,setL_cons]
 have:=setL_mid (L.map bv) [] T1 T2 (by simp[hl])
 simp at this
 rw[this]
abbrev encN:String:= "loop.example/pub-profileroads/pub/goprofile.encode"
set_option maxHeartbeats 1000000 in
theorem message_c (B:Nat) (w:World) (bb:Nat) (D:List Nat) (tag:Nat) (T:Nat) (v0:Value) (g:FuncId) (rv:Value) (M:List Nat) (ht:tag<1048576) (h:Bf B w bb D) (hl:D.length+M.length+60≤100000000000)
  (hg:∀w,(callMethod (.iface T v0) encN #[ptr bb]).run Tryz.prog w=.ok (.enter g #[rv,ptr bb]) w)
  (hm:∀w1,Fr 0 [] w w1→Bf B w1 bb D→Calls Tryz.prog g #[rv,ptr bb] w1 (Ret fun _ w'=>Bf B w' bb (D++M)∧Fr B wE w1 w')):
  Calls Tryz.prog 194 #[ptr bb,.int .i64 (tag:Nat),.iface T v0] w (Ret fun _ w'=>Bf B w' bb (D++encF (.bys tag M))∧Fr B wE w w'):=by
 have hLl:(lenB M.length tag).length≤11:=lenB_short ht (by omega)
 obtain ⟨f,t,u,p,c,tmp0,y,h1,h2,h3,h4,h5⟩:=id h.ex
 have hcb:=mc (f:=⟨w,0,[]⟩) h1 rfl
 refine startJ (args:=[_,_,_]) [(0,_),(1,_),(2,_)] 0 [] [] Tryz.func194 rfl Tryz.ntmps194 rfl rfl .nil ?_
 refine sQ fun K1=>cj_reg (jM (k:=jN (k:=jF 3 ru198 so36 (k:=jL ag36 hcb 3 (k:=jE ru36 (k:=jA (k:=K1 ?_)))))))
 refine cj_seqF fun K2 hK2=>cj_reg (jM (k:=jM (k:=?_)))
 refine j_callI (as':=[rv,ptr bb]) (R:=fun w1 _ w2=>Bf B w2 bb (D++M)∧Fr B wE w1 w2) hg rfl rfl rfl (fun w1 hH hf=>hm w1 hf (h.fr hf)) fun w1 v w2 hH1 hf1 hR=>?_
 have hB2:Bf B w2 bb (D++M):=hR.1
 have hF2:Fr B wE w w2:=frE (hf1.quiet _ _) hR.2
 obtain ⟨f2,t2,u2,p2,c2,tmp2,y2,k1, -⟩:=id hB2.ex
 have hcb:=mc (f:=⟨w2,0,[]⟩) k1 rfl
 refine J.begin ⟨w2,0,[]⟩ [] ok_refl .nil ?_
 refine j_nil (ej_then (hK2 _ _ _ (sQ fun K3=>cj_reg (jM (k:=jN (k:=jF 3 ru198 so36 (k:=jL ag36 hcb 3 (k:=jE ru36 (k:=jA (k:=K3 (CJ.t [(0,_),(1,_),(6,_),(7,_)] (k:=sQ fun K4=>cj_reg ?_))))))))))))
 refine jM (k:=jM (k:=jM (k:=jM (k:=?_))))
 refine j_val rfl (fun _ _ h=>r_sub rfl rfl h) ?_
 refine j_eqv (u:=.int .i64 (M.length:Nat)) (by rw[wrap64_small (by simp;omega) (by simp;omega)];congr 1;simp;omega) ?_
 refine j_callB (D':=D++M++lenB M.length tag) hF2 hB2 Tryz.call214 rfl rfl (fun w1 hf hB=>length_c B w1 bb _ _ _ ht (by omega) hB (by simp;omega)) fun v w3 hB3 hF3=>?_
 obtain ⟨f3,t3,u3,p3,c3,tmp3,y3,k2, -⟩:=id hB3.ex
 have hcb:=mc (f:=⟨w3,0,[]⟩) k2 rfl
 refine K4 (sQ fun K5=>cj_reg (jM (k:=jN (k:=jF 3 ru198 so36 (k:=jL ag36 hcb 3 (k:=jE ru36 (k:=jA (k:=K5 (CJ.t [(0,_),(6,_),(7,_),(8,_)] (k:=sQ fun K6=>?_))))))))))
 intro w9 hH9 hf9
 obtain ⟨ff,tt,uu,pp,cc,tmp,yy,g1,g2,g3,g4,g5⟩:=hB3.ex
 have hLp:0<(lenB M.length tag).length:=lenB_pos _ _
 have hln:(D++M++lenB M.length tag).length=D.length+M.length+(lenB M.length tag).length:=by simp;omega
 have hmn:(D++M).length=D.length+M.length:=by simp
 have hcap:(D++M++lenB M.length tag).length≤cc:=g4.sl.2.1
 obtain ⟨hon,rfl⟩:=g4.pos (by omega)
 obtain ⟨ex,hex,hexl⟩:∃ex,yy.cs=(D++M++lenB M.length tag).map bv++ex∧yy.cs.length=cc*1:=by
  rcases g4.sl.2.2 with ⟨-, -,⟨ex,q⟩,q2⟩|⟨q, -⟩
  ·exact ⟨ex,q,q2⟩
  ·rw[hon]at q;cases q
 obtain ⟨T1,T2,hT,hTl⟩:∃T1 T2,tmp=T1++T2∧T1.length=(lenB M.length tag).length:=⟨tmp.take (lenB M.length tag).length,tmp.drop (lenB M.length tag).length,by simp,by simp;omega⟩
 refine C.begin ⟨w9,B,wE⟩ _ ok_refl (hpBf hB3.ge (hf9.blk g1 (.inr (by simp))) g4 fun ho=>⟨(g5 ho).1,hf9.blk (g5 ho).2 (.inr (by simp))⟩) ?_
 refine cj_drawI 11 (lts [0,1,2,3,4,5,6,7,8,9,10]++(11,false)::[]) [0,1] rfl (by kernel_rfl) (by kernel_rfl) (dM [0,1] (k:=dN [0,1] (k:=dF [0,1] 4 ru198 so196 (k:=?_))))
 refine dj_val rfl rfl (sub_of [0,1] rfl) (fun _ _ h=>r_sarr ru196 so5 rfl h) (dM [0,1] (k:=dN [0,1] (k:=dF [0,1] 3 ru198 so36 (k:=dH [0,1] 0 ag36 (k:=dM [0,1] (k:=dM [0,1] (k:=?_)))))))
 refine dj_val rfl rfl (sub_of [0,1] rfl) (fun _ _ h=>r_slmid (i:=(D++M).length) (j:=(D++M++lenB M.length tag).length) ru36 so5 rfl rfl rfl (by omega) hcap h) (dE (h:=fun Kd=>?_))
 refine j_copy (m:=(D++M++lenB M.length tag).length - (D++M).length) (news:=(lenB M.length tag).map bv) 0 rfl rfl rfl rfl ru36 so5 rfl rfl (fun w=>lenOf_slice _ _ _ _) (fun w hH hf=>?_) bvs_scal (by simp[cBuf];omega) rfl ?_
 ·have hb:=hH.get (i:=1) rfl hon
  rw[natMin (by omega)]
  rw[cut,if_neg (by omega)]
  exact fc_any hb (by rw[hex];exact part_last D M (lenB M.length tag) ex (by omega) (by omega)) (by simp;omega)
 refine Kd (.inl rfl) (K6 (CJ.t [(0,_),(6,_),(7,_),(8,_)] (k:=sQ fun K7=>?_)))
 refine CJ.heap [⟨bb,tBuf,cBuf ff tt uu (.slice (some ⟨yy.b,0,none⟩) (D++M++lenB M.length tag).length cc) ((lenB M.length tag).map bv++T2),true,true,none⟩,yy] (fun w hH hf=>by rw[← copyTmp hT hTl];exact hH) ?_
 refine cj_drawI 17 (lts [0,1,2,3,4,5,6,7,8,9,10,11,12,13,14,15,16]++(17,false)::[]) [0,1] rfl (by kernel_rfl) (by kernel_rfl) (dM [0,1] (k:=dN [0,1] (k:=dF [0,1] 3 ru198 so36 (k:=dH [0,1] 0 ag36 (k:=dM [0,1] (k:=dM [0,1] (k:=dM [0,1] (k:=?_))))))))
 refine dj_val rfl rfl (sub_of [0,1] rfl) (fun _ _ h=>r_sub rfl rfl h) ?_
 refine dj_eqv (u:=.int .i64 (((lenB M.length tag).length:Nat):Int)) (by rw[hln,wrap64_small (by omega) (by omega)];congr 1;omega) ?_
 refine dj_val rfl rfl (sub_of [0,1] rfl) (fun _ _ h=>r_add rfl rfl h) ?_
 refine dj_eqv (u:=.int .i64 ((D.length+(lenB M.length tag).length:Nat):Int)) (by rw[wrap64_small (by omega) (by omega)];congr 1) ?_
 refine dj_val rfl rfl (sub_of [0,1] rfl) (fun _ _ h=>r_slcut (i:=D.length+(lenB M.length tag).length) ru36 so5 rfl rfl (by omega) h) (dM [0,1] (k:=dN [0,1] (k:=dF [0,1] 3 ru198 so36 (k:=dH [0,1] 0 ag36 (k:=dM [0,1] (k:=dM [0,1] (k:=?_)))))))
 refine dj_val rfl rfl (sub_of [0,1] rfl) (fun _ _ h=>r_slmid (i:=D.length) (j:=(D++M).length) ru36 so5 rfl rfl rfl (by omega) (by omega) h) (dE (h:=fun Kd=>?_))
 refine j_copy (m:=(D++M).length - D.length) (news:=M.map bv) 1 rfl hon g4.ho g4.hw ru36 so5 rfl rfl (fun w=>lenOf_slice _ _ _ _) (fun w hH hf=>?_) bvs_scal ?_ rfl ?_
 ·have hb:=hH.get (i:=1) rfl hon
  rw[natMin (by omega)]
  rw[cut,if_neg (by omega)]
  exact fc_any hb (by rw[hex];exact part_mid D M (lenB M.length tag) ex (by omega) (by omega)) (by simp)
 ·unfold cut
  split
  ·simp;omega
  ·simp;omega
 refine Kd (.inl rfl) (K7 (CJ.t [(0,_),(6,_),(7,_),(8,_)] (k:=?_)))
 refine cj_drawI 13 (lts [0,1,2,3,4,5,6,7,8,9,10,11,12]++(13,false)::[]) [0,1] rfl (by kernel_rfl) (by kernel_rfl) (dM [0,1] (k:=dN [0,1] (k:=dF [0,1] 3 ru198 so36 (k:=dH [0,1] 0 ag36 (k:=dM [0,1] (k:=?_))))))
 refine dj_val rfl rfl (sub_of [0,1] rfl) (fun _ _ h=>r_slcut (i:=D.length) ru36 so5 rfl rfl (by omega) h) (dM [0,1] (k:=dN [0,1] (k:=dF [0,1] 4 ru198 so196 (k:=dM [0,1] (k:=dM [0,1] (k:=?_))))))
 refine dj_val rfl rfl (sub_of [0,1] rfl) (fun _ _ h=>r_sub rfl rfl h) ?_
 refine dj_eqv (u:=.int .i64 (((lenB M.length tag).length:Nat):Int)) (by rw[hln,wrap64_small (by omega) (by omega)];congr 1;omega) ?_
 refine dj_val rfl rfl (sub_of [0,1] rfl) (fun _ _ h=>r_sarrhi (j:=(lenB M.length tag).length) ru196 so5 rfl rfl (by omega) h) (dE (h:=fun Kd=>?_))
 refine j_copy (m:=(lenB M.length tag).length) (news:=(lenB M.length tag).map bv) 1 rfl hon g4.ho g4.hw ru36 so5 rfl rfl (fun w=>lenOf_slice _ _ _ _) (fun w hH hf=>?_) bvs_scal ?_ rfl ?_
 ·have hb:=hH.get (i:=0) rfl rfl
  rw[natMin (by omega)]
  exact fc_any hb (by simp[cBuf]) (by simp)
 ·unfold cut
  split
  ·omega
  ·simp[setL_length];omega
 refine Kd (.inl rfl) (dj_end ?_)
 refine ?_
 refine ej_end0 Tryz.results194 fun w' hH hf=>?_
 have hcs:=hH.get (i:=1) rfl hon
 have hrot:setL (setL yy.cs (cut 0 cc (D.length+(lenB M.length tag).length) 1) (M.map bv)) (cut 0 cc D.length 1) ((lenB M.length tag).map bv)=(D++lenB M.length tag++M).map bv++ex:=by
  rw[hex];exact rot_cells D M (lenB M.length tag) ex cc hLp (by have:=congrArg List.length hex;simp at this;omega)
 have hl2:(D++M++lenB M.length tag).length=(D++lenB M.length tag++M).length:=by simp;omega
 have hO2:Own tU8 1 ⟨yy.b,yy.T,setL (setL yy.cs (cut 0 cc (D.length+(lenB M.length tag).length) 1) (M.map bv)) (cut 0 cc D.length 1) ((lenB M.length tag).map bv),yy.wr,yy.on,yy.ob⟩ (some ⟨yy.b,0,none⟩) (D++lenB M.length tag++M).length cc ((D++lenB M.length tag++M).map bv):=
  ⟨g4.hT,g4.hw,g4.ho,by simp,by omega,.inl ⟨hon,rfl,⟨ex,hrot⟩,by simp[setL_length];omega⟩⟩
 have hD:D++encF (.bys tag M)=D++lenB M.length tag++M:=by simp[encF,lenB]
 rw[hD]
 rw[hl2]at hH
 exact ⟨bfHp (Nat.le_trans h.size (Nat.le_trans hF3.size hf9.size)) h.ge ⟨by simp;rw[hT]at g2;simp at g2;omega,by rw[hT]at g3;simp[scal]at g3⊢;exact g3.2⟩ hO2 (i:=0) (j:=1) hH rfl rfl,frE (frQ hF3 hf9) hf⟩
abbrev tU64:Nat:=71
theorem flatMap_step' {α β:Type} {xs:List α} {g:α→List β} (hk:k<xs.length):(xs.take (k+1)).flatMap g=(xs.take k).flatMap g++g xs[k]:=by
 rw[← List.take_append_getElem hk,List.flatMap_append];simp
theorem flatMap_take_le {α β:Type} (xs:List α) (g:α→List β) (k:Nat):((xs.take k).flatMap g).length≤(xs.flatMap g).length:=by
 conv=>rhs;rw[← List.take_append_drop k xs,List.flatMap_append,List.length_append]
 omega
theorem vints_len:∀{ns:List Nat},(∀n∈ns,n<18446744073709551616)→(ns.flatMap vint).length≤10*ns.length
 |[],_=>by simp
 |n::r,h=>by
    have:=vint_len (h n (by simp))
    have:=vints_len fun m hm=>h m (List.mem_cons_of_mem _ hm)
    rw[List.flatMap_cons,List.length_append,List.length_cons];omega
theorem numBs_len {tag:Nat} (ht:tag<1048576):∀{ns:List Nat},(∀n∈ns,n<18446744073709551616)→(ns.flatMap (numB tag)).length≤20*ns.length
 |[],_=>by simp
 |n::r,h=>by
    have:=numB_len ht (h n (by simp))
    have:=numBs_len ht fun m hm=>h m (List.mem_cons_of_mem _ hm)
    rw[List.flatMap_cons,List.length_append,List.length_cons];omega
theorem osCell {w1:World} {W:List Nat} {xs:List Value} (hF:Fr B W w w1) (hW:W.all (fun t=> !Nat.beq t T)=true) (hc:∀f:Fm,f.ws=w→f.W.all (fun t=> !Nat.beq t T)=true→∀w',f.ok w'→∀(j:Nat) (u:Value),xs[j]? =some u→w'.cell? ⟨b,j,none⟩=some u) (hv:xs[k]? =some v):
  ∀w',Fm.ok ⟨w1,0,[]⟩ w'→∀(j:Nat) (u:Value),[v][j]? =some u→w'.cell? ⟨b,0+k*1+j,none⟩=some u:=fun w' kp j u hu=>by
 cases j with
 |zero=>simp at hu;subst hu;simpa using hc ⟨w,B,W⟩ rfl hW w' (frQ hF kp) k v hv
 |succ j=>simp at hu
def usB (tag:Nat) (ns:List Nat):List Nat:=if 2<ns.length then encF (.bys tag (ns.flatMap vint)) else ns.flatMap (numB tag)
set_option maxHeartbeats 1000000 in
theorem uint64s_c (B:Nat) (w:World) (bb:Nat) (D:List Nat) (tag:Nat) (sv:Value) (ns:List Nat) (ht:tag<1048576) (hs:OS tU64 1 w sv (ns.map fun (n:Nat)=>Value.int .u64 (n:Int))) (hn:∀n∈ns,n<18446744073709551616) (h:Bf B w bb D) (hl:D.length+20*ns.length+60≤100000000000):
  Calls Tryz.prog 263 #[ptr bb,.int .i64 (tag:Nat),sv] w (Ret fun _ w'=>Bf B w' bb (D++usB tag ns)∧Fr B wE w w'):=by
 obtain ⟨ps,ls,cs,rfl,hls,hlsc,hlsx⟩:=hs.openF
 obtain rfl:ls=ns.length:=by simpa using hls.symm
 have hv:=vints_len hn
 have hnb:=numBs_len ht hn
 obtain ⟨f,t,u,p,c,tmp0,y,h1,h2,h3,h4,h5⟩:=id h.ex
 have hcb:=mc (f:=⟨w,0,[]⟩) h1 rfl
 refine startJ (args:=[_,_,_]) [(0,_),(1,_),(2,_)] 0 [] [] Tryz.func263 rfl Tryz.ntmps263 rfl rfl .nil ?_
 refine sQ fun K1=>cj_seqF fun K2 hK2=>cj_reg (jM (k:=jE ru84 (k:=jG (k:=j_nil (ej_then (hK2 _ _ _ ?_))))))
 refine cj_dec rfl (fun h15=>?_) (fun h15=>?_)
 ·have hgt:2<ns.length:=by omega
  refine sQ fun K3=>cj_reg (jM (k:=jN (k:=jF 3 ru198 so36 (k:=jL ag36 hcb 3 (k:=jE ru36 (k:=jA (k:=K3 (sQ fun K4=>sQ fun K5=>cj_reg (jM (k:=jE ru84 (k:=?_)))))))))))
  refine jM (k:=K5 (CJ.t [(0,_),(1,_),(6,_),(21,_),(22,_),(23,_)] (k:=cj_block ?_)))
  intro w0 hH0 hf0
  refine c_loop (σ:=Nat) (fun k=>[(0,ptr bb),(1,.int .i64 (tag:Nat)),(6,.int .i64 (D.length:Nat)),(21,.slice ps ns.length cs),(22,.int .i64 (ns.length:Nat)),(23,.int .i64 (k:Nat))])
   (fun k w'=>k≤ns.length∧Bf B w' bb (D++(ns.take k).flatMap vint)∧Fr B wE w w') (fun k=>ns.length - k) 0 sR ⟨Nat.zero_le _,by simpa using h.fr hf0,hf0.quiet _ _⟩ ?_
  rintro k w1 ⟨hk,hB1,hF1⟩ KL hKL
  have htl:=flatMap_take_le ns vint k
  refine C.begin ⟨w1,0,[]⟩ [] ok_refl .nil ?_
  refine sQ fun K6=>cj_reg (jS (k:=K6 (sQ fun K7=>?_)))
  refine cj_dec rfl (fun h24=>?_) (fun h24=>?_)
  ·have hk':k<ns.length:=by omega
   obtain ⟨bq,rfl,hsq⟩:=hlsx (by omega)
   have hcell:=osCell (k:=k) (v:=.int .u64 ((ns[k]:Nat):Int)) hF1 rfl hsq (by simp[hk'])
   refine cj_skip (K7 (sQ fun K8=>cj_block (sQ fun K9=>cj_reg (jJ ru84 so71 (k:=jL ag71 hcell 0 (k:=jA (k:=K9 (cj_reg (jM (k:=jM (k:=?_)))))))))))
   refine j_callB (D':=D++(ns.take (k+1)).flatMap vint) hF1 hB1 Tryz.call220 rfl rfl (fun w2 hf hB=>by rw[flatMap_step' hk', ← List.append_assoc];exact varint_c B w2 bb _ ns[k] (hn _ (List.getElem_mem hk')) hB (by rw[List.length_append];omega)) fun v w2 hB2 hF2=>?_
   refine K8 (cj_reg (jI (k:=jM (k:=j_nil (ej_then ?_)))))
   exact fun w' hH hf=>hKL (k+1) _ w' ⟨hk',hB2.fr hf,frQ hF2 hf⟩ (by omega) sR
  ·have hke:k=ns.length:=by omega
   subst hke
   rw[List.take_of_length_le (Nat.le_refl _)]at hB1
   generalize hM:ns.flatMap vint=M at*
   obtain ⟨f2,t2,u2,p2,c2,tmp2,y2,k1, -⟩:=id hB1.ex
   have hcb:=mc (f:=⟨w1,0,[]⟩) k1 rfl
   have hLl:(lenB M.length tag).length≤11:=lenB_short ht (by omega)
   refine cj_exit (K4 (sQ fun K10=>cj_reg (jM (k:=jN (k:=jF 3 ru198 so36 (k:=jL ag36 hcb 3 (k:=jE ru36 (k:=jA (k:=K10 (CJ.t [(0,_),(1,_),(6,_),(9,_)] (k:=sQ fun K11=>cj_reg (jM (k:=?_)))))))))))))
   refine jM (k:=jM (k:=jM (k:=?_)))
   refine j_val rfl (fun _ _ h=>r_sub rfl rfl h) ?_
   refine j_eqv (u:=.int .i64 (M.length:Nat)) (by rw[wrap64_small (by simp;omega) (by simp;omega)];congr 1;simp;omega) ?_
   refine j_callB (D':=D++M++lenB M.length tag) hF1 hB1 Tryz.call214 rfl rfl (fun w1 hf hB=>length_c B w1 bb _ _ _ ht (by omega) hB (by simp;omega)) fun v w3 hB3 hF3=>?_
   obtain ⟨f3,t3,u3,p3,c3,tmp3,y3,k2, -⟩:=id hB3.ex
   have hcb:=mc (f:=⟨w3,0,[]⟩) k2 rfl
   refine K11 (sQ fun K12=>cj_reg (jM (k:=jN (k:=jF 3 ru198 so36 (k:=jL ag36 hcb 3 (k:=jE ru36 (k:=jA (k:=K12 (CJ.t [(0,_),(6,_),(9,_),(10,_)] (k:=sQ fun K13=>?_))))))))))
   intro w9 hH9 hf9
   obtain ⟨ff,tt,uu,pp,cc,tmp,yy,g1,g2,g3,g4,g5⟩:=hB3.ex
   have hLp:0<(lenB M.length tag).length:=lenB_pos _ _
   have hln:(D++M++lenB M.length tag).length=D.length+M.length+(lenB M.length tag).length:=by simp;omega
   have hmn:(D++M).length=D.length+M.length:=by simp
   have hcap:(D++M++lenB M.length tag).length≤cc:=g4.sl.2.1
   obtain ⟨hon,rfl⟩:=g4.pos (by omega)
   obtain ⟨ex,hex,hexl⟩:∃ex,yy.cs=(D++M++lenB M.length tag).map bv++ex∧yy.cs.length=cc*1:=by
    rcases g4.sl.2.2 with ⟨-, -,⟨ex,q⟩,q2⟩|⟨q, -⟩
    ·exact ⟨ex,q,q2⟩
    ·rw[hon]at q;cases q
   obtain ⟨T1,T2,hT,hTl⟩:∃T1 T2,tmp=T1++T2∧T1.length=(lenB M.length tag).length:=⟨tmp.take (lenB M.length tag).length,tmp.drop (lenB M.length tag).length,by simp,by simp;omega⟩
   refine C.begin ⟨w9,B,wE⟩ _ ok_refl (hpBf hB3.ge (hf9.blk g1 (.inr (by simp))) g4 fun ho=>⟨(g5 ho).1,hf9.blk (g5 ho).2 (.inr (by simp))⟩) ?_
   refine cj_drawI 11 (lts [0,1,2,3,4,5,6,7,8,9,10]++(11,false)::[]) [0,1] rfl (by kernel_rfl) (by kernel_rfl) (dM [0,1] (k:=dN [0,1] (k:=dF [0,1] 4 ru198 so196 (k:=?_))))
   refine dj_val rfl rfl (sub_of [0,1] rfl) (fun _ _ h=>r_sarr ru196 so5 rfl h) (dM [0,1] (k:=dN [0,1] (k:=dF [0,1] 3 ru198 so36 (k:=dH [0,1] 0 ag36 (k:=dM [0,1] (k:=dM [0,1] (k:=?_)))))))
   refine dj_val rfl rfl (sub_of [0,1] rfl) (fun _ _ h=>r_slmid (i:=(D++M).length) (j:=(D++M++lenB M.length tag).length) ru36 so5 rfl rfl rfl (by omega) hcap h) (dE (h:=fun Kd=>?_))
   refine j_copy (m:=(D++M++lenB M.length tag).length - (D++M).length) (news:=(lenB M.length tag).map bv) 0 rfl rfl rfl rfl ru36 so5 rfl rfl (fun w=>lenOf_slice _ _ _ _) (fun w hH hf=>?_) bvs_scal (by simp[cBuf];omega) rfl ?_
   ·have hb:=hH.get (i:=1) rfl hon
    rw[natMin (by omega)]
    rw[cut,if_neg (by omega)]
    exact fc_any hb (by rw[hex];exact part_last D M (lenB M.length tag) ex (by omega) (by omega)) (by simp;omega)
   refine Kd (.inl rfl) (K13 (CJ.t [(0,_),(6,_),(9,_),(10,_)] (k:=sQ fun K14=>?_)))
   refine CJ.heap [⟨bb,tBuf,cBuf ff tt uu (.slice (some ⟨yy.b,0,none⟩) (D++M++lenB M.length tag).length cc) ((lenB M.length tag).map bv++T2),true,true,none⟩,yy] (fun w hH hf=>by rw[← copyTmp hT hTl];exact hH) ?_
   refine cj_drawI 17 (lts [0,1,2,3,4,5,6,7,8,9,10,11,12,13,14,15,16]++(17,false)::[]) [0,1] rfl (by kernel_rfl) (by kernel_rfl) (dM [0,1] (k:=dN [0,1] (k:=dF [0,1] 3 ru198 so36 (k:=dH [0,1] 0 ag36 (k:=dM [0,1] (k:=dM [0,1] (k:=dM [0,1] (k:=?_))))))))
   refine dj_val rfl rfl (sub_of [0,1] rfl) (fun _ _ h=>r_sub rfl rfl h) ?_
   refine dj_eqv (u:=.int .i64 (((lenB M.length tag).length:Nat):Int)) (by rw[hln,wrap64_small (by omega) (by omega)];congr 1;omega) ?_
   refine dj_val rfl rfl (sub_of [0,1] rfl) (fun _ _ h=>r_add rfl rfl h) ?_
   refine dj_eqv (u:=.int .i64 ((D.length+(lenB M.length tag).length:Nat):Int)) (by rw[wrap64_small (by omega) (by omega)];congr 1) ?_
   refine dj_val rfl rfl (sub_of [0,1] rfl) (fun _ _ h=>r_slcut (i:=D.length+(lenB M.length tag).length) ru36 so5 rfl rfl (by omega) h) (dM [0,1] (k:=dN [0,1] (k:=dF [0,1] 3 ru198 so36 (k:=dH [0,1] 0 ag36 (k:=dM [0,1] (k:=dM [0,1] (k:=?_)))))))
   refine dj_val rfl rfl (sub_of [0,1] rfl) (fun _ _ h=>r_slmid (i:=D.length) (j:=(D++M).length) ru36 so5 rfl rfl rfl (by omega) (by omega) h) (dE (h:=fun Kd=>?_))
   refine j_copy (m:=(D++M).length - D.length) (news:=M.map bv) 1 rfl hon g4.ho g4.hw ru36 so5 rfl rfl (fun w=>lenOf_slice _ _ _ _) (fun w hH hf=>?_) bvs_scal ?_ rfl ?_
   ·have hb:=hH.get (i:=1) rfl hon
    rw[natMin (by omega)]
    rw[cut,if_neg (by omega)]
    exact fc_any hb (by rw[hex];exact part_mid D M (lenB M.length tag) ex (by omega) (by omega)) (by simp)
   ·unfold cut
    split
    ·simp;omega
    ·simp;omega
   refine Kd (.inl rfl) (K14 (CJ.t [(0,_),(6,_),(9,_),(10,_)] (k:=sQ fun K15=>?_)))
   refine cj_drawI 13 (lts [0,1,2,3,4,5,6,7,8,9,10,11,12]++(13,false)::[]) [0,1] rfl (by kernel_rfl) (by kernel_rfl) (dM [0,1] (k:=dN [0,1] (k:=dF [0,1] 3 ru198 so36 (k:=dH [0,1] 0 ag36 (k:=dM [0,1] (k:=?_))))))
   refine dj_val rfl rfl (sub_of [0,1] rfl) (fun _ _ h=>r_slcut (i:=D.length) ru36 so5 rfl rfl (by omega) h) (dM [0,1] (k:=dN [0,1] (k:=dF [0,1] 4 ru198 so196 (k:=dM [0,1] (k:=dM [0,1] (k:=?_))))))
   refine dj_val rfl rfl (sub_of [0,1] rfl) (fun _ _ h=>r_sub rfl rfl h) ?_
   refine dj_eqv (u:=.int .i64 (((lenB M.length tag).length:Nat):Int)) (by rw[hln,wrap64_small (by omega) (by omega)];congr 1;omega) ?_
   refine dj_val rfl rfl (sub_of [0,1] rfl) (fun _ _ h=>r_sarrhi (j:=(lenB M.length tag).length) ru196 so5 rfl rfl (by omega) h) (dE (h:=fun Kd=>?_))
   refine j_copy (m:=(lenB M.length tag).length) (news:=(lenB M.length tag).map bv) 1 rfl hon g4.ho g4.hw ru36 so5 rfl rfl (fun w=>lenOf_slice _ _ _ _) (fun w hH hf=>?_) bvs_scal ?_ rfl ?_
   ·have hb:=hH.get (i:=0) rfl rfl
    rw[natMin (by omega)]
    exact fc_any hb (by simp[cBuf]) (by simp)
   ·unfold cut
    split
    ·omega
    ·simp[setL_length];omega
   refine Kd (.inl rfl) (K15 (CJ.t [] (k:=cj_ret (ej_ret0 Tryz.results263 fun w' hH hf=>?_))))
   have hus:usB tag ns=encF (.bys tag M):=by rw[usB,if_pos hgt,hM]
   rw[hus]
   have hcs:=hH.get (i:=1) rfl hon
   have hrot:setL (setL yy.cs (cut 0 cc (D.length+(lenB M.length tag).length) 1) (M.map bv)) (cut 0 cc D.length 1) ((lenB M.length tag).map bv)=(D++lenB M.length tag++M).map bv++ex:=by
    rw[hex];exact rot_cells D M (lenB M.length tag) ex cc hLp (by have:=congrArg List.length hex;simp at this;omega)
   have hl2:(D++M++lenB M.length tag).length=(D++lenB M.length tag++M).length:=by simp;omega
   have hO2:Own tU8 1 ⟨yy.b,yy.T,setL (setL yy.cs (cut 0 cc (D.length+(lenB M.length tag).length) 1) (M.map bv)) (cut 0 cc D.length 1) ((lenB M.length tag).map bv),yy.wr,yy.on,yy.ob⟩ (some ⟨yy.b,0,none⟩) (D++lenB M.length tag++M).length cc ((D++lenB M.length tag++M).map bv):=
    ⟨g4.hT,g4.hw,g4.ho,by simp,by omega,.inl ⟨hon,rfl,⟨ex,hrot⟩,by simp[setL_length];omega⟩⟩
   have hD:D++encF (.bys tag M)=D++lenB M.length tag++M:=by simp[encF,lenB]
   rw[hD]
   rw[hl2]at hH
   exact ⟨bfHp (Nat.le_trans h.size (Nat.le_trans hF3.size hf9.size)) h.ge ⟨by simp;rw[hT]at g2;simp at g2;omega,by rw[hT]at g3;simp[scal]at g3⊢;exact g3.2⟩ hO2 (i:=0) (j:=1) hH rfl rfl,frE (frQ hF3 hf9) hf⟩
 ·have hgt:¬2<ns.length:=by omega
  refine cj_skip (K1 (sQ fun K16=>cj_reg (jM (k:=jE ru84 (k:=jM (k:=K16 (cj_block ?_)))))))
  intro w0 hH0 hf0
  refine c_loop (σ:=Nat) (fun k=>[(0,ptr bb),(1,.int .i64 (tag:Nat)),(91,.slice ps ns.length cs),(92,.int .i64 (ns.length:Nat)),(93,.int .i64 (k:Nat))])
   (fun k w'=>k≤ns.length∧Bf B w' bb (D++(ns.take k).flatMap (numB tag))∧Fr B wE w w') (fun k=>ns.length - k) 0 sR ⟨Nat.zero_le _,by simpa using h.fr hf0,hf0.quiet _ _⟩ ?_
  rintro k w1 ⟨hk,hB1,hF1⟩ KL hKL
  have htl:=flatMap_take_le ns (numB tag) k
  refine C.begin ⟨w1,0,[]⟩ [] ok_refl .nil ?_
  refine sQ fun K17=>cj_reg (jS (k:=K17 (sQ fun K18=>?_)))
  refine cj_dec rfl (fun h94=>?_) (fun h94=>?_)
  ·have hk':k<ns.length:=by omega
   obtain ⟨bq,rfl,hsq⟩:=hlsx (by omega)
   have hcell:=osCell (k:=k) (v:=.int .u64 ((ns[k]:Nat):Int)) hF1 rfl hsq (by simp[hk'])
   refine cj_skip (K18 (sQ fun K19=>cj_block (sQ fun K20=>cj_reg (jJ ru84 so71 (k:=jL ag71 hcell 0 (k:=jA (k:=K20 (cj_reg (jM (k:=jM (k:=jM (k:=?_))))))))))))
   refine j_callB (D':=D++(ns.take (k+1)).flatMap (numB tag)) hF1 hB1 Tryz.call221 rfl rfl (fun w2 hf hB=>by rw[flatMap_step' hk', ← List.append_assoc];exact uint64_c B w2 bb _ tag ns[k] ht (hn _ (List.getElem_mem hk')) hB (by rw[List.length_append];omega)) fun v w2 hB2 hF2=>?_
   refine K19 (cj_reg (jI (k:=jM (k:=j_nil (ej_then ?_)))))
   exact fun w' hH hf=>hKL (k+1) _ w' ⟨hk',hB2.fr hf,frQ hF2 hf⟩ (by omega) sR
  ·have hke:k=ns.length:=by omega
   subst hke
   rw[List.take_of_length_le (Nat.le_refl _)]at hB1
   refine cj_exit (ej_then_exit (ej_then_exit (ej_blk_hit (?_))))
   exact ej_end0 Tryz.results263 fun w' hH hf=>⟨by rw[usB,if_neg hgt];exact hB1.fr hf,frQ hF1 hf⟩
def strsB (tag:Nat) (ss:List ByteArray):List Nat:=ss.flatMap fun s=>encF (.bys tag (sB s))
theorem strB_len (tag:Nat) (s:ByteArray):s.size≤(encF (.bys tag (sB s))).length:=by simp[encF,sB_len];omega
theorem strings_c (B:Nat) (w:World) (bb:Nat) (D:List Nat) (tag:Nat) (sv:Value) (ss:List ByteArray) (ht:tag<1048576) (hs:OS tStr 1 w sv (ss.map .string)) (h:Bf B w bb D) (hl:D.length+(strsB tag ss).length+60≤100000000000):
  Calls Tryz.prog 195 #[ptr bb,.int .i64 (tag:Nat),sv] w (Ret fun _ w'=>Bf B w' bb (D++strsB tag ss)∧Fr B wE w w'):=by
 obtain ⟨ps,ls,cs,rfl,hls,hlsc,hlsx⟩:=hs.openF
 obtain rfl:ls=ss.length:=by simpa using hls.symm
 have hle:ss.length≤(strsB tag ss).length:=by
  have:∀l:List ByteArray,l.length≤(strsB tag l).length:=by
   intro l
   induction l with
   |nil=>simp
   |cons a r ih=>
    have h1:=lenB_pos (sB a).length tag
    have h2:(strsB tag (a::r)).length=(encF (.bys tag (sB a))).length+(strsB tag r).length:=by simp[strsB]
    have h3:(encF (.bys tag (sB a))).length=(lenB (sB a).length tag).length+(sB a).length:=by simp[encF,lenB];omega
    rw[h2];simp only[List.length_cons];omega
  exact this ss
 refine startJ (args:=[_,_,_]) [(0,_),(1,_),(2,_)] 0 [] [] Tryz.func195 rfl Tryz.ntmps195 rfl rfl .nil ?_
 refine sQ fun K1=>cj_reg (jM (k:=jE ru27 (k:=jM (k:=K1 (cj_block ?_)))))
 intro w0 hH0 hf0
 refine c_loop (σ:=Nat) (fun k=>[(0,ptr bb),(1,.int .i64 (tag:Nat)),(8,.slice ps ss.length cs),(9,.int .i64 (ss.length:Nat)),(10,.int .i64 (k:Nat))])
  (fun k w'=>k≤ss.length∧Bf B w' bb (D++strsB tag (ss.take k))∧Fr B wE w w') (fun k=>ss.length - k) 0 sR ⟨Nat.zero_le _,by simpa[strsB]using h.fr hf0,hf0.quiet _ _⟩ ?_
 rintro k w1 ⟨hk,hB1,hF1⟩ KL hKL
 refine C.begin ⟨w1,0,[]⟩ [] ok_refl .nil ?_
 refine sQ fun K2=>cj_reg (jS (k:=K2 (sQ fun K3=>?_)))
 refine cj_dec rfl (fun h11=>?_) (fun h11=>?_)
 ·have hk':k<ss.length:=by omega
  obtain ⟨bq,rfl,hsq⟩:=hlsx (by omega)
  have hcell:=osCell (k:=k) (v:=.string ss[k]) hF1 rfl hsq (by simp[hk'])
  have hst:strsB tag (ss.take (k+1))=strsB tag (ss.take k)++encF (.bys tag (sB ss[k])):=flatMap_step' hk'
  have htl:(strsB tag (ss.take (k+1))).length≤(strsB tag ss).length:=flatMap_take_le ss _ (k+1)
  have hsl:=strB_len tag ss[k]
  have hst':=congrArg List.length hst
  rw[List.length_append]at hst'
  refine cj_skip (K3 (sQ fun K4=>cj_block (sQ fun K5=>cj_reg (jJ ru27 so9 (k:=jL ag9 hcell 0 (k:=jA (k:=K5 (cj_reg (jM (k:=jM (k:=jM (k:=?_))))))))))))
  refine j_callB (D':=D++strsB tag (ss.take (k+1))) hF1 hB1 Tryz.call215 rfl rfl (fun w2 hf hB=>by rw[hst, ← List.append_assoc];exact string_c B w2 bb _ tag ss[k] ht hB (by simp;omega)) fun v w2 hB2 hF2=>?_
  refine K4 (cj_reg (jI (k:=jM (k:=j_nil (ej_then ?_)))))
  exact fun w' hH hf=>hKL (k+1) _ w' ⟨hk',hB2.fr hf,frQ hF2 hf⟩ (by omega) sR
 ·have hke:k=ss.length:=by omega
  subst hke
  rw[List.take_of_length_le (Nat.le_refl _)]at hB1
  refine cj_exit (ej_then_exit (ej_then_exit (ej_blk_hit (?_))))
  exact ej_end0 Tryz.results195 fun w' hH hf=>⟨hB1.fr hf,frQ hF1 hf⟩
abbrev tLabel:Nat:=193
theorem me_VT (v a:Value) (w:World):(callMethod (.iface 123 v) encN #[a]).run Tryz.prog w=.ok (.enter 223 #[v,a]) w:=by kernel_rfl
theorem me_Sam (v a:Value) (w:World):(callMethod (.iface 142 v) encN #[a]).run Tryz.prog w=.ok (.enter 261 #[v,a]) w:=by kernel_rfl
theorem me_Map (v a:Value) (w:World):(callMethod (.iface 128 v) encN #[a]).run Tryz.prog w=.ok (.enter 228 #[v,a]) w:=by kernel_rfl
theorem me_Loc (v a:Value) (w:World):(callMethod (.iface 134 v) encN #[a]).run Tryz.prog w=.ok (.enter 254 #[v,a]) w:=by kernel_rfl
theorem me_Fun (v a:Value) (w:World):(callMethod (.iface 131 v) encN #[a]).run Tryz.prog w=.ok (.enter 246 #[v,a]) w:=by kernel_rfl
theorem me_Lin (v a:Value) (w:World):(callMethod (.iface 311 v) encN #[a]).run Tryz.prog w=.ok (.enter 279 #[v,a]) w:=by kernel_rfl
theorem me_Lab (v a:Value) (w:World):(callMethod (.iface 193 v) encN #[a]).run Tryz.prog w=.ok (.enter 271 #[v,a]) w:=by kernel_rfl
theorem atFr {f:Fm} {off:Nat} {cs:List Value} (hF:Fr B wE w f.ws) (hb:∀w',Fr B wE w w'→∀(j:Nat) (u:Value),cs[j]? =some u→w'.cell? ⟨b,off+j,none⟩=some u) (hq:f.B=0∧f.W=[]:=by exact ⟨rfl,rfl⟩):
  ∀w',f.ok w'→∀(j:Nat) (u:Value),cs[j]? =some u→w'.cell? ⟨b,off+j,none⟩=some u:=fun w' hf=>hb w' (frQ hF (by have:Fr f.B f.W f.ws w':=hf;rw[hq.1,hq.2]at this;exact this))
theorem bnat_lt (b:Bool):bnat b<18446744073709551616:=by cases b<;>decide
def vtB (tx:Int) (ux:Int):List Nat:=optB 1 (u64 tx)++(optB 2 (u64 ux))
theorem vtB_len (tx:Int) (ux:Int) (h1:IntKind.i64.wrap tx=tx) (h2:IntKind.i64.wrap ux=ux):(vtB tx ux).length≤40:=by
 have o0:=optB_len (k:=1) (n:=(u64 tx)) (by omega) (u64_lt _)
 have o1:=optB_len (k:=2) (n:=(u64 ux)) (by omega) (u64_lt _)
 simp only[vtB,List.length_append];omega
theorem vtEnc_c (B:Nat) (w:World) (bb:Nat) (D:List Nat) (tx:Int) (ux:Int) (h1:IntKind.i64.wrap tx=tx) (h2:IntKind.i64.wrap ux=ux) {ty un:ByteArray} (hb:Blk w b tVT [.string ty,.string un,.int .i64 tx,.int .i64 ux]) (h:Bf B w bb D) (hl:D.length+60≤100000000000):
  Calls Tryz.prog 223 #[ptr b,ptr bb] w (Ret fun _ w'=>Bf B w' bb (D++vtB tx ux)∧Fr B wE w w'):=by
 have o0:=optB_len (k:=1) (n:=(u64 tx)) (by omega) (u64_lt _)
 have o1:=optB_len (k:=2) (n:=(u64 ux)) (by omega) (u64_lt _)
 have hF0:Fr B wE w w:=Fr.refl _ _ _
 have hc0:=mc (f:=⟨w,0,[]⟩) (fr_row (Fr.refl B wE w) rfl _ _ hb) rfl
 refine startJ (args:=[_,_]) [(0,_),(1,_)] 0 [] [] func223 rfl ntmps223 rfl rfl .nil ?_
 refine sQ fun K1=>cj_reg (jM (k:=jM (k:=jN (k:=jF 2 ru127 so2 (k:=jL ag2 hc0 2 (k:=?_))))))
 refine j_callB (D':=D++optB 1 (u64 tx)) hF0 h call196 rfl rfl (fun w1 hf hB=>int64Opt_c B w1 bb _ 1 tx (by omega) h1 hB (by first|omega|(simp only[List.length_append];omega))) fun v w10 hB1 hF1=>?_
 have hc0:=mc (f:=⟨w10,0,[]⟩) (fr_row hF1 rfl _ _ hb) rfl
 refine K1 (cj_reg (jM (k:=jM (k:=jN (k:=jF 3 ru127 so2 (k:=jL ag2 hc0 3 (k:=?_)))))))
 refine j_callB (D':=D++optB 1 (u64 tx)++optB 2 (u64 ux)) hF1 hB1 call196 rfl rfl (fun w1 hf hB=>int64Opt_c B w1 bb _ 2 ux (by omega) h2 hB (by first|omega|(simp only[List.length_append];omega))) fun v w11 hB2 hF2=>?_
 have hc0:=mc (f:=⟨w11,0,[]⟩) (fr_row hF2 rfl _ _ hb) rfl
 refine j_nil ?_
 refine ?_
 exact ej_end0 results223 fun w' hH hf=>⟨by have:=hB2.fr hf;simp only[vtB,List.append_assoc]at this⊢;exact this,frQ hF2 hf⟩
def mpB (id:Nat) (st:Nat) (li:Nat) (of:Nat) (fx:Int) (bx:Int) (q0:Bool) (q1:Bool) (q2:Bool) (q3:Bool):List Nat:=optB 1 id++(optB 2 st++(optB 3 li++(optB 4 of++(optB 5 (u64 fx)++(optB 6 (u64 bx)++(optB 7 (bnat q0)++(optB 8 (bnat q1)++(optB 9 (bnat q2)++(optB 10 (bnat q3))))))))))
theorem mpB_len (id:Nat) (st:Nat) (li:Nat) (of:Nat) (fx:Int) (bx:Int) (q0:Bool) (q1:Bool) (q2:Bool) (q3:Bool) (lid:id<18446744073709551616) (lst:st<18446744073709551616) (lli:li<18446744073709551616) (lof:of<18446744073709551616) (h1:IntKind.i64.wrap fx=fx) (h2:IntKind.i64.wrap bx=bx):(mpB id st li of fx bx q0 q1 q2 q3).length≤200:=by
 have o0:=optB_len (k:=1) (n:=id) (by omega) ((by omega))
 have o1:=optB_len (k:=2) (n:=st) (by omega) ((by omega))
 have o2:=optB_len (k:=3) (n:=li) (by omega) ((by omega))
 have o3:=optB_len (k:=4) (n:=of) (by omega) ((by omega))
 have o4:=optB_len (k:=5) (n:=(u64 fx)) (by omega) (u64_lt _)
 have o5:=optB_len (k:=6) (n:=(u64 bx)) (by omega) (u64_lt _)
 have o6:=optB_len (k:=7) (n:=(bnat q0)) (by omega) ((bnat_lt _))
 have o7:=optB_len (k:=8) (n:=(bnat q1)) (by omega) ((bnat_lt _))
 have o8:=optB_len (k:=9) (n:=(bnat q2)) (by omega) ((bnat_lt _))
 have o9:=optB_len (k:=10) (n:=(bnat q3)) (by omega) ((bnat_lt _))
 simp only[mpB,List.length_append];omega
theorem mpEnc_c (B:Nat) (w:World) (bb:Nat) (D:List Nat) (id:Nat) (st:Nat) (li:Nat) (of:Nat) (fx:Int) (bx:Int) (q0:Bool) (q1:Bool) (q2:Bool) (q3:Bool) (lid:id<18446744073709551616) (lst:st<18446744073709551616) (lli:li<18446744073709551616) (lof:of<18446744073709551616) (h1:IntKind.i64.wrap fx=fx) (h2:IntKind.i64.wrap bx=bx) {fi bu:ByteArray} (hb:Blk w b tMap [.int .u64 (id:Nat),.int .u64 (st:Nat),.int .u64 (li:Nat),.int .u64 (of:Nat),.string fi,.string bu,.bool q0,.bool q1,.bool q2,.bool q3,.int .i64 fx,.int .i64 bx]) (h:Bf B w bb D) (hl:D.length+220≤100000000000):
  Calls Tryz.prog 228 #[ptr b,ptr bb] w (Ret fun _ w'=>Bf B w' bb (D++mpB id st li of fx bx q0 q1 q2 q3)∧Fr B wE w w'):=by
 have o0:=optB_len (k:=1) (n:=id) (by omega) ((by omega))
 have o1:=optB_len (k:=2) (n:=st) (by omega) ((by omega))
 have o2:=optB_len (k:=3) (n:=li) (by omega) ((by omega))
 have o3:=optB_len (k:=4) (n:=of) (by omega) ((by omega))
 have o4:=optB_len (k:=5) (n:=(u64 fx)) (by omega) (u64_lt _)
 have o5:=optB_len (k:=6) (n:=(u64 bx)) (by omega) (u64_lt _)
 have o6:=optB_len (k:=7) (n:=(bnat q0)) (by omega) ((bnat_lt _))
 have o7:=optB_len (k:=8) (n:=(bnat q1)) (by omega) ((bnat_lt _))
 have o8:=optB_len (k:=9) (n:=(bnat q2)) (by omega) ((bnat_lt _))
 have o9:=optB_len (k:=10) (n:=(bnat q3)) (by omega) ((bnat_lt _))
 have hF0:Fr B wE w w:=Fr.refl _ _ _
 have hc0:=mc (f:=⟨w,0,[]⟩) (fr_row (Fr.refl B wE w) rfl _ _ hb) rfl
 refine startJ (args:=[_,_]) [(0,_),(1,_)] 0 [] [] func228 rfl ntmps228 rfl rfl .nil ?_
 refine sQ fun K1=>cj_reg (jM (k:=jM (k:=jN (k:=jF 0 ru130 so71 (k:=jL ag71 hc0 0 (k:=?_))))))
 refine j_callB (D':=D++optB 1 id) hF0 h call230 rfl rfl (fun w1 hf hB=>uint64Opt_c B w1 bb _ 1 id (by omega) (by omega) hB (by first|omega|(simp only[List.length_append];omega))) fun v w10 hB1 hF1=>?_
 have hc0:=mc (f:=⟨w10,0,[]⟩) (fr_row hF1 rfl _ _ hb) rfl
 refine K1 (sQ fun K2=>cj_reg (jM (k:=jM (k:=jN (k:=jF 1 ru130 so71 (k:=jL ag71 hc0 1 (k:=?_)))))))
 refine j_callB (D':=D++optB 1 id++optB 2 st) hF1 hB1 call230 rfl rfl (fun w1 hf hB=>uint64Opt_c B w1 bb _ 2 st (by omega) (by omega) hB (by first|omega|(simp only[List.length_append];omega))) fun v w11 hB2 hF2=>?_
 have hc0:=mc (f:=⟨w11,0,[]⟩) (fr_row hF2 rfl _ _ hb) rfl
 refine K2 (CJ.t [(0,_),(1,_)] (k:=sQ fun K3=>cj_reg (jM (k:=jM (k:=jN (k:=jF 2 ru130 so71 (k:=jL ag71 hc0 2 (k:=?_))))))))
 refine j_callB (D':=D++optB 1 id++optB 2 st++optB 3 li) hF2 hB2 call230 rfl rfl (fun w1 hf hB=>uint64Opt_c B w1 bb _ 3 li (by omega) (by omega) hB (by first|omega|(simp only[List.length_append];omega))) fun v w12 hB3 hF3=>?_
 have hc0:=mc (f:=⟨w12,0,[]⟩) (fr_row hF3 rfl _ _ hb) rfl
 refine K3 (sQ fun K4=>cj_reg (jM (k:=jM (k:=jN (k:=jF 3 ru130 so71 (k:=jL ag71 hc0 3 (k:=?_)))))))
 refine j_callB (D':=D++optB 1 id++optB 2 st++optB 3 li++optB 4 of) hF3 hB3 call230 rfl rfl (fun w1 hf hB=>uint64Opt_c B w1 bb _ 4 of (by omega) (by omega) hB (by first|omega|(simp only[List.length_append];omega))) fun v w13 hB4 hF4=>?_
 have hc0:=mc (f:=⟨w13,0,[]⟩) (fr_row hF4 rfl _ _ hb) rfl
 refine K4 (CJ.t [(0,_),(1,_)] (k:=sQ fun K5=>cj_reg (jM (k:=jM (k:=jN (k:=jF 10 ru130 so2 (k:=jL ag2 hc0 10 (k:=?_))))))))
 refine j_callB (D':=D++optB 1 id++optB 2 st++optB 3 li++optB 4 of++optB 5 (u64 fx)) hF4 hB4 call196 rfl rfl (fun w1 hf hB=>int64Opt_c B w1 bb _ 5 fx (by omega) h1 hB (by first|omega|(simp only[List.length_append];omega))) fun v w14 hB5 hF5=>?_
 have hc0:=mc (f:=⟨w14,0,[]⟩) (fr_row hF5 rfl _ _ hb) rfl
 refine K5 (sQ fun K6=>cj_reg (jM (k:=jM (k:=jN (k:=jF 11 ru130 so2 (k:=jL ag2 hc0 11 (k:=?_)))))))
 refine j_callB (D':=D++optB 1 id++optB 2 st++optB 3 li++optB 4 of++optB 5 (u64 fx)++optB 6 (u64 bx)) hF5 hB5 call196 rfl rfl (fun w1 hf hB=>int64Opt_c B w1 bb _ 6 bx (by omega) h2 hB (by first|omega|(simp only[List.length_append];omega))) fun v w15 hB6 hF6=>?_
 have hc0:=mc (f:=⟨w15,0,[]⟩) (fr_row hF6 rfl _ _ hb) rfl
 refine K6 (CJ.t [(0,_),(1,_)] (k:=sQ fun K7=>cj_reg (jM (k:=jM (k:=jN (k:=jF 6 ru130 so4 (k:=jL ag4 hc0 6 (k:=?_))))))))
 refine j_callB (D':=D++optB 1 id++optB 2 st++optB 3 li++optB 4 of++optB 5 (u64 fx)++optB 6 (u64 bx)++optB 7 (bnat q0)) hF6 hB6 call231 rfl rfl (fun w1 hf hB=>boolOpt_c B w1 bb _ 7 q0 (by omega) hB (by first|omega|(simp only[List.length_append];omega))) fun v w16 hB7 hF7=>?_
 have hc0:=mc (f:=⟨w16,0,[]⟩) (fr_row hF7 rfl _ _ hb) rfl
 refine K7 (sQ fun K8=>cj_reg (jM (k:=jM (k:=jN (k:=jF 7 ru130 so4 (k:=jL ag4 hc0 7 (k:=?_)))))))
 refine j_callB (D':=D++optB 1 id++optB 2 st++optB 3 li++optB 4 of++optB 5 (u64 fx)++optB 6 (u64 bx)++optB 7 (bnat q0)++optB 8 (bnat q1)) hF7 hB7 call231 rfl rfl (fun w1 hf hB=>boolOpt_c B w1 bb _ 8 q1 (by omega) hB (by first|omega|(simp only[List.length_append];omega))) fun v w17 hB8 hF8=>?_
 have hc0:=mc (f:=⟨w17,0,[]⟩) (fr_row hF8 rfl _ _ hb) rfl
 refine K8 (CJ.t [(0,_),(1,_)] (k:=sQ fun K9=>cj_reg (jM (k:=jM (k:=jN (k:=jF 8 ru130 so4 (k:=jL ag4 hc0 8 (k:=?_))))))))
 refine j_callB (D':=D++optB 1 id++optB 2 st++optB 3 li++optB 4 of++optB 5 (u64 fx)++optB 6 (u64 bx)++optB 7 (bnat q0)++optB 8 (bnat q1)++optB 9 (bnat q2)) hF8 hB8 call231 rfl rfl (fun w1 hf hB=>boolOpt_c B w1 bb _ 9 q2 (by omega) hB (by first|omega|(simp only[List.length_append];omega))) fun v w18 hB9 hF9=>?_
 have hc0:=mc (f:=⟨w18,0,[]⟩) (fr_row hF9 rfl _ _ hb) rfl
 refine K9 (cj_reg (jM (k:=jM (k:=jN (k:=jF 9 ru130 so4 (k:=jL ag4 hc0 9 (k:=?_)))))))
 refine j_callB (D':=D++optB 1 id++optB 2 st++optB 3 li++optB 4 of++optB 5 (u64 fx)++optB 6 (u64 bx)++optB 7 (bnat q0)++optB 8 (bnat q1)++optB 9 (bnat q2)++optB 10 (bnat q3)) hF9 hB9 call231 rfl rfl (fun w1 hf hB=>boolOpt_c B w1 bb _ 10 q3 (by omega) hB (by first|omega|(simp only[List.length_append];omega))) fun v w19 hB10 hF10=>?_
 have hc0:=mc (f:=⟨w19,0,[]⟩) (fr_row hF10 rfl _ _ hb) rfl
 refine j_nil ?_
 refine ?_
 exact ej_end0 results228 fun w' hH hf=>⟨by have:=hB10.fr hf;simp only[mpB,List.append_assoc]at this⊢;exact this,frQ hF10 hf⟩
def fnB (id:Nat) (nx:Int) (sx:Int) (fx:Int) (sl:Int):List Nat:=optB 1 id++(optB 2 (u64 nx)++(optB 3 (u64 sx)++(optB 4 (u64 fx)++(optB 5 (u64 sl)))))
theorem fnB_len (id:Nat) (nx:Int) (sx:Int) (fx:Int) (sl:Int) (lid:id<18446744073709551616) (h1:IntKind.i64.wrap nx=nx) (h2:IntKind.i64.wrap sx=sx) (h3:IntKind.i64.wrap fx=fx) (h4:IntKind.i64.wrap sl=sl):(fnB id nx sx fx sl).length≤100:=by
 have o0:=optB_len (k:=1) (n:=id) (by omega) ((by omega))
 have o1:=optB_len (k:=2) (n:=(u64 nx)) (by omega) (u64_lt _)
 have o2:=optB_len (k:=3) (n:=(u64 sx)) (by omega) (u64_lt _)
 have o3:=optB_len (k:=4) (n:=(u64 fx)) (by omega) (u64_lt _)
 have o4:=optB_len (k:=5) (n:=(u64 sl)) (by omega) (u64_lt _)
 simp only[fnB,List.length_append];omega
theorem fnEnc_c (B:Nat) (w:World) (bb:Nat) (D:List Nat) (id:Nat) (nx:Int) (sx:Int) (fx:Int) (sl:Int) (lid:id<18446744073709551616) (h1:IntKind.i64.wrap nx=nx) (h2:IntKind.i64.wrap sx=sx) (h3:IntKind.i64.wrap fx=fx) (h4:IntKind.i64.wrap sl=sl) {na sy fi:ByteArray} (hb:Blk w b tFun [.int .u64 (id:Nat),.string na,.string sy,.string fi,.int .i64 sl,.int .i64 nx,.int .i64 sx,.int .i64 fx]) (h:Bf B w bb D) (hl:D.length+120≤100000000000):
  Calls Tryz.prog 246 #[ptr b,ptr bb] w (Ret fun _ w'=>Bf B w' bb (D++fnB id nx sx fx sl)∧Fr B wE w w'):=by
 have o0:=optB_len (k:=1) (n:=id) (by omega) ((by omega))
 have o1:=optB_len (k:=2) (n:=(u64 nx)) (by omega) (u64_lt _)
 have o2:=optB_len (k:=3) (n:=(u64 sx)) (by omega) (u64_lt _)
 have o3:=optB_len (k:=4) (n:=(u64 fx)) (by omega) (u64_lt _)
 have o4:=optB_len (k:=5) (n:=(u64 sl)) (by omega) (u64_lt _)
 have hF0:Fr B wE w w:=Fr.refl _ _ _
 have hc0:=mc (f:=⟨w,0,[]⟩) (fr_row (Fr.refl B wE w) rfl _ _ hb) rfl
 refine startJ (args:=[_,_]) [(0,_),(1,_)] 0 [] [] func246 rfl ntmps246 rfl rfl .nil ?_
 refine sQ fun K1=>cj_reg (jM (k:=jM (k:=jN (k:=jF 0 ru133 so71 (k:=jL ag71 hc0 0 (k:=?_))))))
 refine j_callB (D':=D++optB 1 id) hF0 h call230 rfl rfl (fun w1 hf hB=>uint64Opt_c B w1 bb _ 1 id (by omega) (by omega) hB (by first|omega|(simp only[List.length_append];omega))) fun v w10 hB1 hF1=>?_
 have hc0:=mc (f:=⟨w10,0,[]⟩) (fr_row hF1 rfl _ _ hb) rfl
 refine K1 (sQ fun K2=>cj_reg (jM (k:=jM (k:=jN (k:=jF 5 ru133 so2 (k:=jL ag2 hc0 5 (k:=?_)))))))
 refine j_callB (D':=D++optB 1 id++optB 2 (u64 nx)) hF1 hB1 call196 rfl rfl (fun w1 hf hB=>int64Opt_c B w1 bb _ 2 nx (by omega) h1 hB (by first|omega|(simp only[List.length_append];omega))) fun v w11 hB2 hF2=>?_
 have hc0:=mc (f:=⟨w11,0,[]⟩) (fr_row hF2 rfl _ _ hb) rfl
 refine K2 (CJ.t [(0,_),(1,_)] (k:=sQ fun K3=>cj_reg (jM (k:=jM (k:=jN (k:=jF 6 ru133 so2 (k:=jL ag2 hc0 6 (k:=?_))))))))
 refine j_callB (D':=D++optB 1 id++optB 2 (u64 nx)++optB 3 (u64 sx)) hF2 hB2 call196 rfl rfl (fun w1 hf hB=>int64Opt_c B w1 bb _ 3 sx (by omega) h2 hB (by first|omega|(simp only[List.length_append];omega))) fun v w12 hB3 hF3=>?_
 have hc0:=mc (f:=⟨w12,0,[]⟩) (fr_row hF3 rfl _ _ hb) rfl
 refine K3 (sQ fun K4=>cj_reg (jM (k:=jM (k:=jN (k:=jF 7 ru133 so2 (k:=jL ag2 hc0 7 (k:=?_)))))))
 refine j_callB (D':=D++optB 1 id++optB 2 (u64 nx)++optB 3 (u64 sx)++optB 4 (u64 fx)) hF3 hB3 call196 rfl rfl (fun w1 hf hB=>int64Opt_c B w1 bb _ 4 fx (by omega) h3 hB (by first|omega|(simp only[List.length_append];omega))) fun v w13 hB4 hF4=>?_
 have hc0:=mc (f:=⟨w13,0,[]⟩) (fr_row hF4 rfl _ _ hb) rfl
 refine K4 (CJ.t [(0,_),(1,_)] (k:=cj_reg (jM (k:=jM (k:=jN (k:=jF 4 ru133 so2 (k:=jL ag2 hc0 4 (k:=?_))))))))
 refine j_callB (D':=D++optB 1 id++optB 2 (u64 nx)++optB 3 (u64 sx)++optB 4 (u64 fx)++optB 5 (u64 sl)) hF4 hB4 call196 rfl rfl (fun w1 hf hB=>int64Opt_c B w1 bb _ 5 sl (by omega) h4 hB (by first|omega|(simp only[List.length_append];omega))) fun v w14 hB5 hF5=>?_
 have hc0:=mc (f:=⟨w14,0,[]⟩) (fr_row hF5 rfl _ _ hb) rfl
 refine j_nil ?_
 refine ?_
 exact ej_end0 results246 fun w' hH hf=>⟨by have:=hB5.fr hf;simp only[fnB,List.append_assoc]at this⊢;exact this,frQ hF5 hf⟩
def lnB (fx:Nat) (li:Int):List Nat:=optB 1 fx++(optB 2 (u64 li))
theorem lnB_len (fx:Nat) (li:Int) (lfx:fx<18446744073709551616) (h1:IntKind.i64.wrap li=li):(lnB fx li).length≤40:=by
 have o0:=optB_len (k:=1) (n:=fx) (by omega) ((by omega))
 have o1:=optB_len (k:=2) (n:=(u64 li)) (by omega) (u64_lt _)
 simp only[lnB,List.length_append];omega
theorem lnEnc_c (B:Nat) (w:World) (bb:Nat) (D:List Nat) (fx:Nat) (li:Int) (lfx:fx<18446744073709551616) (h1:IntKind.i64.wrap li=li) {off:Nat} {fp:Value} (hb:∀w',Fr B wE w w'→∀(j:Nat) (u:Value),[fp,.int .i64 li,.int .u64 (fx:Nat)][j]? =some u→w'.cell? ⟨b,off+j,none⟩=some u) (h:Bf B w bb D) (hl:D.length+60≤100000000000):
  Calls Tryz.prog 279 #[.pointer (some ⟨b,off,none⟩),ptr bb] w (Ret fun _ w'=>Bf B w' bb (D++lnB fx li)∧Fr B wE w w'):=by
 have o0:=optB_len (k:=1) (n:=fx) (by omega) ((by omega))
 have o1:=optB_len (k:=2) (n:=(u64 li)) (by omega) (u64_lt _)
 have hF0:Fr B wE w w:=Fr.refl _ _ _
 have hc0:=atFr (f:=⟨w,0,[]⟩) (Fr.refl B wE w) hb
 refine startJ (args:=[_,_]) [(0,_),(1,_)] 0 [] [] func279 rfl ntmps279 rfl rfl .nil ?_
 refine sQ fun K1=>cj_reg (jM (k:=jM (k:=jN (k:=jF 2 ru140 so71 (k:=jL ag71 hc0 2 (k:=?_))))))
 refine j_callB (D':=D++optB 1 fx) hF0 h call230 rfl rfl (fun w1 hf hB=>uint64Opt_c B w1 bb _ 1 fx (by omega) (by omega) hB (by first|omega|(simp only[List.length_append];omega))) fun v w10 hB1 hF1=>?_
 have hc0:=atFr (f:=⟨w10,0,[]⟩) hF1 hb
 refine K1 (cj_reg (jM (k:=jM (k:=jN (k:=jF 1 ru140 so2 (k:=jL ag2 hc0 1 (k:=?_)))))))
 refine j_callB (D':=D++optB 1 fx++optB 2 (u64 li)) hF1 hB1 call196 rfl rfl (fun w1 hf hB=>int64Opt_c B w1 bb _ 2 li (by omega) h1 hB (by first|omega|(simp only[List.length_append];omega))) fun v w11 hB2 hF2=>?_
 have hc0:=atFr (f:=⟨w11,0,[]⟩) hF2 hb
 refine j_nil ?_
 refine ?_
 exact ej_end0 results279 fun w' hH hf=>⟨by have:=hB2.fr hf;simp only[lnB,List.append_assoc]at this⊢;exact this,frQ hF2 hf⟩
def lbB (kx:Int) (sx:Int) (nx:Int):List Nat:=optB 1 (u64 kx)++(optB 2 (u64 sx)++(optB 3 (u64 nx)))
theorem lbB_len (kx:Int) (sx:Int) (nx:Int) (h1:IntKind.i64.wrap kx=kx) (h2:IntKind.i64.wrap sx=sx) (h3:IntKind.i64.wrap nx=nx):(lbB kx sx nx).length≤60:=by
 have o0:=optB_len (k:=1) (n:=(u64 kx)) (by omega) (u64_lt _)
 have o1:=optB_len (k:=2) (n:=(u64 sx)) (by omega) (u64_lt _)
 have o2:=optB_len (k:=3) (n:=(u64 nx)) (by omega) (u64_lt _)
 simp only[lbB,List.length_append];omega
theorem lbEnc_c (B:Nat) (w:World) (bb:Nat) (D:List Nat) (kx:Int) (sx:Int) (nx:Int) (h1:IntKind.i64.wrap kx=kx) (h2:IntKind.i64.wrap sx=sx) (h3:IntKind.i64.wrap nx=nx) (h:Bf B w bb D) (hl:D.length+80≤100000000000):
  Calls Tryz.prog 271 #[.agg #[.int .i64 kx,.int .i64 sx,.int .i64 nx],ptr bb] w (Ret fun _ w'=>Bf B w' bb (D++lbB kx sx nx)∧Fr B wE w w'):=by
 have o0:=optB_len (k:=1) (n:=(u64 kx)) (by omega) (u64_lt _)
 have o1:=optB_len (k:=2) (n:=(u64 sx)) (by omega) (u64_lt _)
 have o2:=optB_len (k:=3) (n:=(u64 nx)) (by omega) (u64_lt _)
 refine startJ (args:=[_,_]) [(0,_),(1,_)] 0 [] [] func271 rfl ntmps271 rfl rfl .nil ?_
 refine sQ fun K1=>cj_reg (j_boxA (vs:=[_,_,_]) rfl rfl fun b2=>K1 (sQ fun K2=>?_))
 intro wb hHb hfb
 have hb:=hHb.get (i:=0) rfl rfl
 have hF0:Fr B wE wb wb:=Fr.refl _ _ _
 have h:Bf B wb bb D:=h.fr hfb
 have hc0:=mc (f:=⟨wb,0,[]⟩) hb rfl
 refine C.begin ⟨wb,0,[]⟩ [] ok_refl .nil ?_
 refine cj_reg (jM (k:=jF 0 ru193 so2 (k:=jL ag2 hc0 0 (k:=?_))))
 refine j_callB (D':=D++optB 1 (u64 kx)) hF0 h call196 rfl rfl (fun w1 hf hB=>int64Opt_c B w1 bb _ 1 kx (by omega) h1 hB (by first|omega|(simp only[List.length_append];omega))) fun v w10 hB1 hF1=>?_
 have hc0:=mc (f:=⟨w10,0,[]⟩) (fr_row hF1 rfl _ _ hb) rfl
 refine K2 (sQ fun K3=>cj_reg (jM (k:=jF 1 ru193 so2 (k:=jL ag2 hc0 1 (k:=?_)))))
 refine j_callB (D':=D++optB 1 (u64 kx)++optB 2 (u64 sx)) hF1 hB1 call196 rfl rfl (fun w1 hf hB=>int64Opt_c B w1 bb _ 2 sx (by omega) h2 hB (by first|omega|(simp only[List.length_append];omega))) fun v w11 hB2 hF2=>?_
 have hc0:=mc (f:=⟨w11,0,[]⟩) (fr_row hF2 rfl _ _ hb) rfl
 refine K3 (cj_reg (jM (k:=jF 2 ru193 so2 (k:=jL ag2 hc0 2 (k:=?_)))))
 refine j_callB (D':=D++optB 1 (u64 kx)++optB 2 (u64 sx)++optB 3 (u64 nx)) hF2 hB2 call196 rfl rfl (fun w1 hf hB=>int64Opt_c B w1 bb _ 3 nx (by omega) h3 hB (by first|omega|(simp only[List.length_append];omega))) fun v w12 hB3 hF3=>?_
 have hc0:=mc (f:=⟨w12,0,[]⟩) (fr_row hF3 rfl _ _ hb) rfl
 refine j_nil ?_
 refine ?_
 exact ej_end0 results271 fun w' hH hf=>⟨by have:=hB3.fr hf;simp only[lbB,List.append_assoc]at this⊢;exact this,frQ (frE (hfb.quiet _ _) hF3) hf⟩
def Enc (B bb:Nat) (w:World) (g:FuncId) (rv:Value) (M:List Nat):Prop:=∀w1 D,Fr B wE w w1→Bf B w1 bb D→D.length+M.length+100000000≤100000000000→Calls Tryz.prog g #[rv,ptr bb] w1 (Ret fun _ w'=>Bf B w' bb (D++M)∧Fr B wE w1 w')
theorem Enc.later {bb:Nat} {g:FuncId} {rv:Value} {M:List Nat} (h:Enc B bb w g rv M) (k:Fr B wE w w'):Enc B bb w' g rv M:=fun w1 D hF hB hl=>h w1 D (frE k hF) hB hl
def msB (tag:Nat) (Ms:List (List Nat)):List Nat:=Ms.flatMap fun M=>encF (.bys tag M)
theorem msB_step {tag:Nat} {Ms:List (List Nat)} (hk:k<Ms.length):msB tag (Ms.take (k+1))=msB tag (Ms.take k)++encF (.bys tag Ms[k]):=flatMap_step' hk
theorem msB_le (tag:Nat) (Ms:List (List Nat)) (k:Nat):(msB tag (Ms.take k)).length≤(msB tag Ms).length:=flatMap_take_le Ms _ k
theorem encF_le (tag:Nat) (M:List Nat):M.length≤(encF (.bys tag M)).length:=by simp[encF];omega
theorem osEl {α:Type} {sz:Nat} {xs:List α} {c:α→List Value} (hsz:∀a,(c a).length=sz) {a:α} (hW:wE.all (fun t=> !Nat.beq t T)=true) (hc:∀f:Fm,f.ws=w→f.W.all (fun t=> !Nat.beq t T)=true→∀w',f.ok w'→∀(j:Nat) (u:Value),(xs.flatMap c)[j]? =some u→w'.cell? ⟨b,j,none⟩=some u) (ha:xs[k]? =some a):
  ∀w',Fr B wE w w'→∀(j:Nat) (u:Value),(c a)[j]? =some u→w'.cell? ⟨b,0+k*sz+j,none⟩=some u:=fun w' hF j u hu=>by
 rw[Nat.zero_add]
 exact hc ⟨w,B,wE⟩ rfl hW w' hF _ u (flatMap_get hsz ha j u hu)
def cLn (q:Value×Int×Nat):List Value:=[q.1,.int .i64 q.2.1,.int .u64 (q.2.2:Nat)]
def lcB (id mx ad:Nat) (lns:List (Value×Int×Nat)):List Nat:=optB 1 id++(optB 2 mx++(optB 3 ad++msB 4 (lns.map fun q=>lnB q.2.2 q.2.1)))
structure LnOK (lns:List (Value×Int×Nat)):Prop where
 ok:∀q∈lns,q.2.2<18446744073709551616∧IntKind.i64.wrap q.2.1=q.2.1
 len:lns.length≤2000000
set_option maxHeartbeats 1000000 in
theorem lcEnc_c (B:Nat) (w:World) (bb:Nat) (b:Nat) (id mx ad:Nat) (mp:Option Addr) (lv:Value) (fo:Bool) (lns:List (Value×Int×Nat)) (h1:id<18446744073709551616) (h2:mx<18446744073709551616) (h3:ad<18446744073709551616) (hq:LnOK lns)
  (hb:Blk w b tLoc [.int .u64 (id:Nat),.pointer mp,.int .u64 (ad:Nat),lv,.bool fo,.int .u64 (mx:Nat)]) (hs:OS tLine 3 w lv (lns.flatMap cLn)):Enc B bb w 254 (ptr b) (lcB id mx ad lns):=by
 intro w0 D hF h hl
 have hb:=fr_row hF rfl _ _ hb
 have hs:=hs.mono (fr_row hF rfl)
 clear hF
 obtain ⟨ps,ls,cs,rfl,hls,hlsc,hlsx⟩:=hs.openF
 have hl3:=flatMap_len (c:=cLn) (sz:=3) (fun _=>rfl) lns
 obtain rfl:ls=lns.length:=by omega
 have o0:=optB_len (k:=1) (n:=id) (by omega) h1
 have o1:=optB_len (k:=2) (n:=mx) (by omega) h2
 have o2:=optB_len (k:=3) (n:=ad) (by omega) h3
 have hlen:(lcB id mx ad lns).length=(optB 1 id).length+((optB 2 mx).length+((optB 3 ad).length+(msB 4 (lns.map fun q=>lnB q.2.2 q.2.1)).length)):=by simp only[lcB,List.length_append]
 have hc0:=mc (f:=⟨w0,0,[]⟩) hb rfl
 refine startJ (args:=[_,_]) [(0,_),(1,_)] 0 [] [] func254 rfl ntmps254 rfl rfl .nil ?_
 refine sQ fun K1=>cj_reg (jM (k:=jM (k:=jN (k:=jF 0 ru137 so71 (k:=jL ag71 hc0 0 (k:=?_))))))
 refine j_callB (D':=D++optB 1 id) (Fr.refl B wE w0) h call230 rfl rfl (fun w1 hf hB=>uint64Opt_c B w1 bb _ 1 id (by omega) h1 hB (by omega)) fun v w1 hB1 hF1=>?_
 have hc0:=mc (f:=⟨w1,0,[]⟩) (fr_row hF1 rfl _ _ hb) rfl
 refine K1 (sQ fun K2=>cj_reg (jM (k:=jM (k:=jN (k:=jF 5 ru137 so71 (k:=jL ag71 hc0 5 (k:=?_)))))))
 refine j_callB (D':=D++optB 1 id++optB 2 mx) hF1 hB1 call230 rfl rfl (fun w1 hf hB=>uint64Opt_c B w1 bb _ 2 mx (by omega) h2 hB (by simp only[List.length_append];omega)) fun v w2 hB2 hF2=>?_
 have hc0:=mc (f:=⟨w2,0,[]⟩) (fr_row hF2 rfl _ _ hb) rfl
 refine K2 (CJ.t [(0,_),(1,_)] (k:=sQ fun K3=>cj_reg (jM (k:=jM (k:=jN (k:=jF 2 ru137 so71 (k:=jL ag71 hc0 2 (k:=?_))))))))
 refine j_callB (D':=D++optB 1 id++optB 2 mx++optB 3 ad) hF2 hB2 call230 rfl rfl (fun w1 hf hB=>uint64Opt_c B w1 bb _ 3 ad (by omega) h3 hB (by simp only[List.length_append];omega)) fun v w3 hB3 hF3=>?_
 have hc0:=mc (f:=⟨w3,0,[]⟩) (fr_row hF3 rfl _ _ hb) rfl
 refine K3 (sQ fun K4=>cj_reg (jM (k:=jN (k:=jF 3 ru137 so135 (k:=jL ag135 hc0 3 (k:=jE ru135 (k:=jM (k:=K4 (CJ.t [(0,_),(1,_),(27,_),(28,_)] (k:=cj_block ?_))))))))))
 intro w4 hH4 hf4
 refine c_loop (σ:=Nat) (fun k=>[(0,ptr b),(1,ptr bb),(27,.int .i64 (lns.length:Nat)),(28,.int .i64 (k:Nat))])
  (fun k w'=>k≤lns.length∧Bf B w' bb (D++optB 1 id++optB 2 mx++optB 3 ad++msB 4 ((lns.map fun q=>lnB q.2.2 q.2.1).take k))∧Fr B wE w0 w') (fun k=>lns.length - k) 0 sR ⟨Nat.zero_le _,by simpa[msB]using hB3.fr hf4,frQ hF3 hf4⟩ ?_
 rintro k w5 ⟨hk,hB5,hF5⟩ KL hKL
 have hc0:=mc (f:=⟨w5,0,[]⟩) (fr_row hF5 rfl _ _ hb) rfl
 have hql:=hq.len
 refine C.begin ⟨w5,0,[]⟩ [] ok_refl .nil ?_
 refine sQ fun K5=>cj_reg (jS (k:=K5 (sQ fun K6=>?_)))
 refine cj_dec rfl (fun h29=>?_) (fun h29=>?_)
 ·have hk':k<lns.length:=by omega
  obtain ⟨bq,rfl,hsq⟩:=hlsx (by omega)
  have hq0:=hq.ok lns[k] (List.getElem_mem hk')
  have hel:=osEl (B:=B) (c:=cLn) (sz:=3) (fun _=>rfl) rfl hsq (List.getElem?_eq_getElem hk')
  have hst:=msB_step (tag:=4) (Ms:=lns.map fun q=>lnB q.2.2 q.2.1) (k:=k) (by simpa using hk')
  have hle:=msB_le 4 (lns.map fun q=>lnB q.2.2 q.2.1) (k+1)
  have hMk:(lns.map fun q=>lnB q.2.2 q.2.1)[k]'(by simpa using hk')=lnB lns[k].2.2 lns[k].2.1:=by simp
  rw[hMk]at hst
  have hst':=congrArg List.length hst
  rw[List.length_append]at hst'
  have hel':=encF_le 4 (lnB lns[k].2.2 lns[k].2.1)
  refine cj_skip (K6 (sQ fun K7=>cj_block (sQ fun K8=>cj_reg (jM (k:=jA (k:=K8 (cj_reg (jM (k:=jM (k:=jN (k:=jF 3 ru137 so135 (k:=jL ag135 hc0 3 (k:=?_)))))))))))))
  refine jM (k:=jJ ru135 so140 (k:=?_))
  refine j_val rfl (fun _ _ h=>r_mki ru311 rfl rfl h) ?_
  refine j_callB (D':=D++optB 1 id++optB 2 mx++optB 3 ad++msB 4 ((lns.map fun q=>lnB q.2.2 q.2.1).take (k+1))) hF5 hB5 call194 rfl rfl (fun w1 hf hB=>by
    rw[hst, ← List.append_assoc]
    exact message_c B w1 bb _ 4 _ _ _ _ _ (by omega) hB (by simp only[List.length_append];omega) (fun w=>me_Lin _ _ w) fun w2 hf2 hB2'=>lnEnc_c B w2 bb _ _ _ hq0.1 hq0.2 (fun w' hF=>hel w' (frE (frQ (frQ hF5 hf) hf2) hF)) hB2' (by simp only[List.length_append];omega)) fun v w6 hB6 hF6=>?_
  refine K7 (CJ.t [(0,_),(1,_),(27,_),(28,_)] (k:=cj_reg (jI (k:=jM (k:=j_nil (ej_then ?_))))))
  exact fun w' hH hf=>hKL (k+1) _ w' ⟨hk',hB6.fr hf,frQ hF6 hf⟩ (by omega) sR
 ·have hke:k=lns.length:=by omega
  subst hke
  rw[List.take_of_length_le (by simp)]at hB5
  refine cj_exit (ej_then_exit (ej_then_exit (ej_blk_hit (?_))))
  exact ej_end0 results254 fun w' hH hf=>⟨by have:=hB5.fr hf;simp only[lcB,List.append_assoc]at this⊢;exact this,frQ hF5 hf⟩
def cLb (q:Int×Int×Int):List Value:=[.int .i64 q.1,.int .i64 q.2.1,.int .i64 q.2.2]
def zsB (tag:Nat) (zs:List Int):List Nat:=zs.flatMap fun z=>numB tag (u64 z)
theorem zsB_len {tag:Nat} (ht:tag<1048576) (zs:List Int):(zsB tag zs).length≤20*zs.length:=by
 induction zs with
 |nil=>simp[zsB]
 |cons z r ih=>
  have:=numB_len ht (u64_lt z)
  have h:(zsB tag (z::r)).length=(numB tag (u64 z)).length+(zsB tag r).length:=by simp[zsB]
  rw[h,List.length_cons];omega
theorem usB_len {tag:Nat} (ht:tag<1048576) {ns:List Nat} (h:∀n∈ns,n<18446744073709551616) (hl:ns.length≤2000000):(usB tag ns).length≤20*ns.length+20:=by
 unfold usB
 split
 ·have:=vints_len h
  have h2:=lenB_short (len:=(ns.flatMap vint).length) ht (by omega)
  have:(encF (.bys tag (ns.flatMap vint))).length=(lenB (ns.flatMap vint).length tag).length+(ns.flatMap vint).length:=by simp[encF,lenB];omega
  omega
 ·have:=numBs_len ht h;omega
def smB (ns:List Nat) (zs:List Int) (lbs:List (Int×Int×Int)):List Nat:=usB 1 ns++(zsB 2 zs++msB 3 (lbs.map fun q=>lbB q.1 q.2.1 q.2.2))
structure SmOK (ns:List Nat) (zs:List Int) (lbs:List (Int×Int×Int)):Prop where
 okn:∀n∈ns,n<18446744073709551616
 okl:∀q∈lbs,IntKind.i64.wrap q.1=q.1∧IntKind.i64.wrap q.2.1=q.2.1∧IntKind.i64.wrap q.2.2=q.2.2
 l1:ns.length≤2000000
 l2:zs.length≤2000000
 l3:lbs.length≤2000000
set_option maxHeartbeats 1000000 in
theorem smEnc_c (B:Nat) (w:World) (bb:Nat) (b:Nat) (lo vv la na nu iv xv:Value) (ns:List Nat) (zs:List Int) (lbs:List (Int×Int×Int)) (hq:SmOK ns zs lbs)
  (hb:Blk w b tSam [lo,vv,la,na,nu,iv,xv]) (hi:OS tU64 1 w iv (ns.map fun (n:Nat)=>Value.int .u64 (n:Int))) (hv:OS tI64 1 w vv (zs.map (.int .i64))) (hx:OS tLabel 3 w xv (lbs.flatMap cLb)):Enc B bb w 261 (ptr b) (smB ns zs lbs):=by
 intro w0 D hF h hl
 have hb:=fr_row hF rfl _ _ hb
 have hi:=hi.mono (fr_row hF rfl)
 have hv:=hv.mono (fr_row hF rfl)
 have hx:=hx.mono (fr_row hF rfl)
 clear hF
 obtain ⟨pz,lz,cz,rfl,hlz, -,hzx⟩:=hv.openF
 obtain rfl:lz=zs.length:=by simpa using hlz.symm
 obtain ⟨pl,ll,cl,rfl,hll, -,hlx⟩:=hx.openF
 have hl3:=flatMap_len (c:=cLb) (sz:=3) (fun _=>rfl) lbs
 obtain rfl:ll=lbs.length:=by omega
 have o0:=usB_len (tag:=1) (by omega) hq.okn (by have:=hq.l1;omega)
 have o1:=zsB_len (tag:=2) (by omega) zs
 have q1:=hq.l1
 have q2:=hq.l2
 have q3:=hq.l3
 have hlen:(smB ns zs lbs).length=(usB 1 ns).length+((zsB 2 zs).length+(msB 3 (lbs.map fun q=>lbB q.1 q.2.1 q.2.2)).length):=by simp only[smB,List.length_append]
 have hc0:=mc (f:=⟨w0,0,[]⟩) hb rfl
 refine startJ (args:=[_,_]) [(0,_),(1,_)] 0 [] [] func261 rfl ntmps261 rfl rfl .nil ?_
 refine sQ fun K1=>cj_reg (jM (k:=jM (k:=jN (k:=jF 5 ru147 so84 (k:=jL ag84 hc0 5 (k:=?_))))))
 refine j_callB (D':=D++usB 1 ns) (Fr.refl B wE w0) h call263 rfl rfl (fun w1 hf hB=>uint64s_c B w1 bb _ 1 _ ns (by omega) (hi.mono fun b cs h=>hf.blk h (.inr (by simp))) hq.okn hB (by omega)) fun v w1 hB1 hF1=>?_
 have hc0:=mc (f:=⟨w1,0,[]⟩) (fr_row hF1 rfl _ _ hb) rfl
 refine K1 (sQ fun K2=>sQ fun K3=>cj_reg (jM (k:=jN (k:=jF 1 ru147 so53 (k:=jL ag53 hc0 1 (k:=jE ru53 (k:=jM (k:=K3 (CJ.t [(0,_),(1,_),(17,_),(18,_),(19,_)] (k:=cj_block ?_))))))))))
 intro w2 hH2 hf2
 refine c_loop (σ:=Nat) (fun k=>[(0,ptr b),(1,ptr bb),(17,.slice pz zs.length cz),(18,.int .i64 (zs.length:Nat)),(19,.int .i64 (k:Nat))])
  (fun k w'=>k≤zs.length∧Bf B w' bb (D++usB 1 ns++zsB 2 (zs.take k))∧Fr B wE w0 w') (fun k=>zs.length - k) 0 sR ⟨Nat.zero_le _,by simpa[zsB]using hB1.fr hf2,frQ hF1 hf2⟩ ?_
 rintro k w3 ⟨hk,hB3,hF3⟩ KL hKL
 have hc0:=mc (f:=⟨w3,0,[]⟩) (fr_row hF3 rfl _ _ hb) rfl
 refine C.begin ⟨w3,0,[]⟩ [] ok_refl .nil ?_
 refine sQ fun K4=>cj_reg (jS (k:=K4 (sQ fun K5=>?_)))
 refine cj_dec rfl (fun h20=>?_) (fun h20=>?_)
 ·have hk':k<zs.length:=by omega
  obtain ⟨bq,rfl,hsq⟩:=hzx (by omega)
  have hcell:=osCell (k:=k) (v:=.int .i64 zs[k]) hF3 rfl hsq (by simp[hk'])
  have hst:zsB 2 (zs.take (k+1))=zsB 2 (zs.take k)++numB 2 (u64 zs[k]):=flatMap_step' hk'
  have hle:(zsB 2 (zs.take k)).length≤(zsB 2 zs).length:=flatMap_take_le zs _ k
  refine cj_skip (K5 (sQ fun K6=>cj_block (sQ fun K7=>cj_reg (jJ ru53 so2 (k:=jL ag2 hcell 0 (k:=jA (k:=K7 (cj_reg (jM (k:=jM (k:=?_)))))))))))
  refine j_callB (D':=D++usB 1 ns++zsB 2 (zs.take (k+1))) hF3 hB3 call216 rfl rfl (fun w4 hf hB=>by rw[hst, ← List.append_assoc];exact int64_c B w4 bb _ 2 zs[k] (by omega) hB (by simp only[List.length_append];omega)) fun v w4 hB4 hF4=>?_
  refine K6 (cj_reg (jI (k:=jM (k:=j_nil (ej_then ?_)))))
  exact fun w' hH hf=>hKL (k+1) _ w' ⟨hk',hB4.fr hf,frQ hF4 hf⟩ (by omega) sR
 ·have hke:k=zs.length:=by omega
  subst hke
  rw[List.take_of_length_le (Nat.le_refl _)]at hB3
  refine cj_exit (K2 (sQ fun K8=>cj_reg (jM (k:=jN (k:=jF 6 ru147 so145 (k:=jL ag145 hc0 6 (k:=jE ru145 (k:=jM (k:=K8 (CJ.t [(1,_),(30,_),(31,_),(32,_)] (k:=cj_block ?_)))))))))))
  intro w5 hH5 hf5
  refine c_loop (σ:=Nat) (fun k=>[(1,ptr bb),(30,.slice pl lbs.length cl),(31,.int .i64 (lbs.length:Nat)),(32,.int .i64 (k:Nat))])
   (fun k w'=>k≤lbs.length∧Bf B w' bb (D++usB 1 ns++zsB 2 zs++msB 3 ((lbs.map fun q=>lbB q.1 q.2.1 q.2.2).take k))∧Fr B wE w0 w') (fun k=>lbs.length - k) 0 sR ⟨Nat.zero_le _,by simpa[msB]using hB3.fr hf5,frQ hF3 hf5⟩ ?_
  rintro k w6 ⟨hk,hB6,hF6⟩ KL hKL
  refine C.begin ⟨w6,0,[]⟩ [] ok_refl .nil ?_
  refine sQ fun K9=>cj_reg (jS (k:=K9 (sQ fun K10=>?_)))
  refine cj_dec rfl (fun h33=>?_) (fun h33=>?_)
  ·have hk':k<lbs.length:=by omega
   obtain ⟨bq,rfl,hsq⟩:=hlx (by omega)
   have hq0:=hq.okl lbs[k] (List.getElem_mem hk')
   have hel:=osEl (B:=B) (c:=cLb) (sz:=3) (fun _=>rfl) rfl hsq (List.getElem?_eq_getElem hk')
   have hcell:∀w',Fm.ok ⟨w6,0,[]⟩ w'→∀(j:Nat) (u:Value),(cLb lbs[k])[j]? =some u→w'.cell? ⟨bq,0+k*3+j,none⟩=some u:=fun w' hf=>hel w' (frQ hF6 hf)
   have hst:=msB_step (tag:=3) (Ms:=lbs.map fun q=>lbB q.1 q.2.1 q.2.2) (k:=k) (by simpa using hk')
   have hle:=msB_le 3 (lbs.map fun q=>lbB q.1 q.2.1 q.2.2) (k+1)
   have hMk:(lbs.map fun q=>lbB q.1 q.2.1 q.2.2)[k]'(by simpa using hk')=lbB lbs[k].1 lbs[k].2.1 lbs[k].2.2:=by simp
   rw[hMk]at hst
   have hst':=congrArg List.length hst
   rw[List.length_append]at hst'
   have hel':=encF_le 3 (lbB lbs[k].1 lbs[k].2.1 lbs[k].2.2)
   refine cj_skip (K10 (sQ fun K11=>cj_block (sQ fun K12=>cj_reg (jJ ru145 so193 (k:=?_)))))
   refine j_valw rfl (fun a w ha hH hf=>r_loadA ag193 so193 rfl rfl (hcell w (hf)) ha) (j_allocA (zs:=[(.int .i64 0),(.int .i64 0),(.int .i64 0)]) zv193 rfl fun b7=>jB [_,_,_] [_] 0 so193 (k:=K12 (cj_reg (jM (k:=?_)))))
   refine j_valw rfl (fun a w ha hH hf=>r_ldA (vs:=[_,_,_]) 0 rfl rfl ag193 so193 rfl rfl rfl ha hH) (j_val rfl (fun _ _ h=>r_mki ru193 rfl rfl h) ?_)
   refine j_callB (D':=D++usB 1 ns++zsB 2 zs++msB 3 ((lbs.map fun q=>lbB q.1 q.2.1 q.2.2).take (k+1))) hF6 hB6 call194 rfl rfl (fun w1 hf hB=>by
     rw[hst, ← List.append_assoc]
     exact message_c B w1 bb _ 3 _ _ _ _ _ (by omega) hB (by simp only[List.length_append];omega) (fun w=>me_Lab _ _ w) fun w2 hf2 hB2'=>lbEnc_c B w2 bb _ _ _ _ hq0.1 hq0.2.1 hq0.2.2 hB2' (by simp only[List.length_append];omega)) fun v w7 hB7 hF7=>?_
   refine K11 (cj_reg (jI (k:=jM (k:=j_nil (ej_then ?_)))))
   exact fun w' hH hf=>hKL (k+1) _ w' ⟨hk',hB7.fr hf,frQ hF7 hf⟩ (by omega) sR
  ·have hke:k=lbs.length:=by omega
   subst hke
   rw[List.take_of_length_le (by simp)]at hB6
   refine cj_exit (ej_then_exit (ej_then_exit (ej_blk_hit (?_))))
   exact ej_end0 results261 fun w' hH hf=>⟨by have:=hB6.fr hf;simp only[smB,List.append_assoc]at this⊢;exact this,frQ hF6 hf⟩
structure EncAll (B bb:Nat) (w:World) (g:FuncId) (bs:List Nat) (Ms:List (List Nat)):Prop where
 len:bs.length=Ms.length
 each:∀(i:Nat) b M,bs[i]? =some b→Ms[i]? =some M→Enc B bb w g (ptr b) M
 few:Ms.length≤2000000
structure PIn where (ts ss ms ls fs:List (List Nat)) (tab:List ByteArray) (dx kx ti du pe tx ux:Int)
def pfB (q:PIn):List Nat:=msB 1 q.ts++(msB 2 q.ss++(msB 3 q.ms++(msB 4 q.ls++(msB 5 q.fs++(strsB 6 q.tab++(optB 7 (u64 q.dx)++(optB 8 (u64 q.kx)++(optB 9 (u64 q.ti)++(optB 10 (u64 q.du)++((if q.tx≠0∨q.ux≠0 then encF (.bys 11 (vtB q.tx q.ux)) else [])++optB 12 (u64 q.pe)))))))))))
structure PInOK (q:PIn):Prop where
 w1:IntKind.i64.wrap q.dx=q.dx
 w2:IntKind.i64.wrap q.kx=q.kx
 w3:IntKind.i64.wrap q.ti=q.ti
 w4:IntKind.i64.wrap q.du=q.du
 w5:IntKind.i64.wrap q.pe=q.pe
 w6:IntKind.i64.wrap q.tx=q.tx
 w7:IntKind.i64.wrap q.ux=q.ux
set_option maxHeartbeats 4000000 in
theorem pfEnc_c (B:Nat) (w:World) (bb:Nat) (b per:Nat) (q:PIn) (df dr ke ty un:ByteArray) (tv sv mv lv fv cv cx sx:Value) (dsx:Int) (bt bs bm bl bf:List Nat) (hq:PInOK q)
  (hb:Blk w b tProf [tv,.string df,sv,mv,lv,fv,cv,.string dr,.string ke,.int .i64 q.ti,.int .i64 q.du,ptr per,.int .i64 q.pe,cx,.int .i64 q.dx,.int .i64 q.kx,sx,.int .i64 dsx]) (hper:Blk w per tVT [.string ty,.string un,.int .i64 q.tx,.int .i64 q.ux])
  (h1:OS pVT 1 w tv (bt.map ptr)) (h2:OS pSam 1 w sv (bs.map ptr)) (h3:OS pMap 1 w mv (bm.map ptr)) (h4:OS pLoc 1 w lv (bl.map ptr)) (h5:OS pFun 1 w fv (bf.map ptr)) (h6:OS tStr 1 w sx (q.tab.map .string))
  (e1:EncAll B bb w 223 bt q.ts) (e2:EncAll B bb w 261 bs q.ss) (e3:EncAll B bb w 228 bm q.ms) (e4:EncAll B bb w 254 bl q.ls) (e5:EncAll B bb w 246 bf q.fs):Enc B bb w 192 (ptr b) (pfB q):=by
 intro w0 D hF h hl
 have hb:=fr_row hF rfl _ _ hb
 have hper:=fr_row hF rfl _ _ hper
 have h6:=h6.mono (fr_row hF rfl)
 have h1:=h1.mono (fr_row hF rfl)
 obtain ⟨p1,l1,c1,rfl,hl1, -,hx1⟩:=h1.openF
 obtain rfl:l1=q.ts.length:=by have:=e1.len;simp at hl1;omega
 have h2:=h2.mono (fr_row hF rfl)
 obtain ⟨p2,l2,c2,rfl,hl2, -,hx2⟩:=h2.openF
 obtain rfl:l2=q.ss.length:=by have:=e2.len;simp at hl2;omega
 have h3:=h3.mono (fr_row hF rfl)
 obtain ⟨p3,l3,c3,rfl,hl3, -,hx3⟩:=h3.openF
 obtain rfl:l3=q.ms.length:=by have:=e3.len;simp at hl3;omega
 have h4:=h4.mono (fr_row hF rfl)
 obtain ⟨p4,l4,c4,rfl,hl4, -,hx4⟩:=h4.openF
 obtain rfl:l4=q.ls.length:=by have:=e4.len;simp at hl4;omega
 have h5:=h5.mono (fr_row hF rfl)
 obtain ⟨p5,l5,c5,rfl,hl5, -,hx5⟩:=h5.openF
 obtain rfl:l5=q.fs.length:=by have:=e5.len;simp at hl5;omega
 have o7:=optB_len (k:=7) (n:=u64 q.dx) (by omega) (u64_lt _)
 have o8:=optB_len (k:=8) (n:=u64 q.kx) (by omega) (u64_lt _)
 have o9:=optB_len (k:=9) (n:=u64 q.ti) (by omega) (u64_lt _)
 have o10:=optB_len (k:=10) (n:=u64 q.du) (by omega) (u64_lt _)
 have o12:=optB_len (k:=12) (n:=u64 q.pe) (by omega) (u64_lt _)
 have o11:=vtB_len q.tx q.ux hq.w6 hq.w7
 have hpl:(pfB q).length=(msB 1 q.ts).length+((msB 2 q.ss).length+((msB 3 q.ms).length+((msB 4 q.ls).length+((msB 5 q.fs).length+((strsB 6 q.tab).length+((optB 7 (u64 q.dx)).length+((optB 8 (u64 q.kx)).length+((optB 9 (u64 q.ti)).length+((optB 10 (u64 q.du)).length+((if q.tx≠0∨q.ux≠0 then encF (.bys 11 (vtB q.tx q.ux)) else []).length+(optB 12 (u64 q.pe)).length)))))))))):=by simp only[pfB,List.length_append]
 rw[hpl]at hl
 clear hpl
 have few1:=e1.few
 have few2:=e2.few
 have few3:=e3.few
 have few4:=e4.few
 have few5:=e5.few
 have hc0:=mc (f:=⟨w0,0,[]⟩) hb rfl
 refine startJ (args:=[_,_]) [(0,_),(1,_)] 0 [] [] func192 rfl ntmps192 rfl rfl .nil ?_
 refine sQ fun K1=>sQ fun K2=>cj_reg (jM (k:=jN (k:=jF 0 ru125 so118 (k:=jL ag118 hc0 0 (k:=jE ru118 (k:=jM (k:=K2 (cj_block ?_))))))))
 intro v1 hH1' hf1'
 refine c_loop (σ:=Nat) (fun k=>[(0,ptr b),(1,ptr bb),(18,.slice p1 q.ts.length c1),(19,.int .i64 (q.ts.length:Nat)),(20,.int .i64 (k:Nat))])
  (fun k w'=>k≤q.ts.length∧Bf B w' bb (D++msB 1 (q.ts.take k))∧Fr B wE w0 w') (fun k=>q.ts.length - k) 0 sR ⟨Nat.zero_le _,by simpa[msB]using h.fr hf1',frQ (Fr.refl B wE w0) hf1'⟩ ?_
 rintro k u1 ⟨hk1,hB1,hF1⟩ KL hKL
 have hc0:=mc (f:=⟨u1,0,[]⟩) (fr_row hF1 rfl _ _ hb) rfl
 refine C.begin ⟨u1,0,[]⟩ [] ok_refl .nil ?_
 refine sQ fun K3=>cj_reg (jS (k:=K3 (sQ fun K4=>?_)))
 refine cj_dec rfl (fun h21'=>?_) (fun h21'=>?_)
 ·have hk':k<q.ts.length:=by omega
  obtain ⟨bq,rfl,hsq⟩:=hx1 (by omega)
  have hkb:k<bt.length:=by rw[e1.len];exact hk'
  have hcell:=osCell (k:=k) (v:=ptr bt[k]) hF1 rfl hsq (by simp[hkb])
  have hst:=msB_step (tag:=1) (Ms:=q.ts) (k:=k) hk'
  have hle:=msB_le 1 q.ts (k+1)
  have hst':=congrArg List.length hst
  rw[List.length_append]at hst'
  have hel':=encF_le 1 q.ts[k]
  have hen:=e1.each k _ _ (List.getElem?_eq_getElem hkb) (List.getElem?_eq_getElem hk')
  refine cj_skip (K4 (sQ fun K5=>cj_block (sQ fun K6=>cj_reg (jJ ru118 so123 (k:=jL ag123 hcell 0 (k:=jA (k:=K6 (cj_reg (jM (k:=jM (k:=?_)))))))))))
  refine j_val rfl (fun _ _ h=>r_mki ru123 rfl rfl h) ?_
  refine j_callB (D':=D++msB 1 (q.ts.take (k+1))) hF1 hB1 call194 rfl rfl (fun w1 hf hB=>by
    rw[hst, ← List.append_assoc]
    exact message_c B w1 bb _ 1 _ _ _ _ _ (by omega) hB (by simp only[List.length_append];omega) (fun w=>me_VT _ _ w) fun w2 hf2 hB2'=>hen w2 _ (frQ (frQ (frE hF hF1) hf) hf2) hB2' (by simp only[List.length_append];omega)) fun v w7 hB7 hF7=>?_
  refine K5 (cj_reg (jI (k:=jM (k:=j_nil (ej_then ?_)))))
  exact fun w' hH hf=>hKL (k+1) _ w' ⟨hk',hB7.fr hf,frQ hF7 hf⟩ (by omega) sR
 ·have hke1:k=q.ts.length:=by omega
  rw[hke1,List.take_of_length_le (Nat.le_refl _)]at hB1
  clear hKL hke1 hk1
  refine cj_exit (K1 (CJ.t [(0,_),(1,_)] (k:=sQ fun K7=>sQ fun K8=>cj_reg (jM (k:=jN (k:=jF 2 ru125 so119 (k:=jL ag119 hc0 2 (k:=jE ru119 (k:=jM (k:=K8 (cj_block ?_)))))))))))
  intro v2 hH2' hf2'
  refine c_loop (σ:=Nat) (fun k=>[(0,ptr b),(1,ptr bb),(32,.slice p2 q.ss.length c2),(33,.int .i64 (q.ss.length:Nat)),(34,.int .i64 (k:Nat))])
   (fun k w'=>k≤q.ss.length∧Bf B w' bb (D++msB 1 q.ts++msB 2 (q.ss.take k))∧Fr B wE w0 w') (fun k=>q.ss.length - k) 0 sR ⟨Nat.zero_le _,by simpa[msB]using hB1.fr hf2',frQ hF1 hf2'⟩ ?_
  rintro k u2 ⟨hk2,hB2,hF2⟩ KL hKL
  have hc0:=mc (f:=⟨u2,0,[]⟩) (fr_row hF2 rfl _ _ hb) rfl
  refine C.begin ⟨u2,0,[]⟩ [] ok_refl .nil ?_
  refine sQ fun K9=>cj_reg (jS (k:=K9 (sQ fun K10=>?_)))
  refine cj_dec rfl (fun h35'=>?_) (fun h35'=>?_)
  ·have hk':k<q.ss.length:=by omega
   obtain ⟨bq,rfl,hsq⟩:=hx2 (by omega)
   have hkb:k<bs.length:=by rw[e2.len];exact hk'
   have hcell:=osCell (k:=k) (v:=ptr bs[k]) hF2 rfl hsq (by simp[hkb])
   have hst:=msB_step (tag:=2) (Ms:=q.ss) (k:=k) hk'
   have hle:=msB_le 2 q.ss (k+1)
   have hst':=congrArg List.length hst
   rw[List.length_append]at hst'
   have hel':=encF_le 2 q.ss[k]
   have hen:=e2.each k _ _ (List.getElem?_eq_getElem hkb) (List.getElem?_eq_getElem hk')
   refine cj_skip (K10 (sQ fun K11=>cj_block (sQ fun K12=>cj_reg (jJ ru119 so142 (k:=jL ag142 hcell 0 (k:=jA (k:=K12 (cj_reg (jM (k:=jM (k:=?_)))))))))))
   refine j_val rfl (fun _ _ h=>r_mki ru142 rfl rfl h) ?_
   refine j_callB (D':=D++msB 1 q.ts++msB 2 (q.ss.take (k+1))) hF2 hB2 call194 rfl rfl (fun w1 hf hB=>by
     rw[hst, ← List.append_assoc]
     exact message_c B w1 bb _ 2 _ _ _ _ _ (by omega) hB (by simp only[List.length_append];omega) (fun w=>me_Sam _ _ w) fun w2 hf2 hB2'=>hen w2 _ (frQ (frQ (frE hF hF2) hf) hf2) hB2' (by simp only[List.length_append];omega)) fun v w7 hB7 hF7=>?_
   refine K11 (cj_reg (jI (k:=jM (k:=j_nil (ej_then ?_)))))
   exact fun w' hH hf=>hKL (k+1) _ w' ⟨hk',hB7.fr hf,frQ hF7 hf⟩ (by omega) sR
  ·have hke2:k=q.ss.length:=by omega
   rw[hke2,List.take_of_length_le (Nat.le_refl _)]at hB2
   clear hKL hke2 hk2
   refine cj_exit (K7 (CJ.t [(0,_),(1,_)] (k:=sQ fun K13=>sQ fun K14=>cj_reg (jM (k:=jN (k:=jF 3 ru125 so120 (k:=jL ag120 hc0 3 (k:=jE ru120 (k:=jM (k:=K14 (cj_block ?_)))))))))))
   intro v3 hH3' hf3'
   refine c_loop (σ:=Nat) (fun k=>[(0,ptr b),(1,ptr bb),(46,.slice p3 q.ms.length c3),(47,.int .i64 (q.ms.length:Nat)),(48,.int .i64 (k:Nat))])
    (fun k w'=>k≤q.ms.length∧Bf B w' bb (D++msB 1 q.ts++msB 2 q.ss++msB 3 (q.ms.take k))∧Fr B wE w0 w') (fun k=>q.ms.length - k) 0 sR ⟨Nat.zero_le _,by simpa[msB]using hB2.fr hf3',frQ hF2 hf3'⟩ ?_
   rintro k u3 ⟨hk3,hB3,hF3⟩ KL hKL
   have hc0:=mc (f:=⟨u3,0,[]⟩) (fr_row hF3 rfl _ _ hb) rfl
   refine C.begin ⟨u3,0,[]⟩ [] ok_refl .nil ?_
   refine sQ fun K15=>cj_reg (jS (k:=K15 (sQ fun K16=>?_)))
   refine cj_dec rfl (fun h49'=>?_) (fun h49'=>?_)
   ·have hk':k<q.ms.length:=by omega
    obtain ⟨bq,rfl,hsq⟩:=hx3 (by omega)
    have hkb:k<bm.length:=by rw[e3.len];exact hk'
    have hcell:=osCell (k:=k) (v:=ptr bm[k]) hF3 rfl hsq (by simp[hkb])
    have hst:=msB_step (tag:=3) (Ms:=q.ms) (k:=k) hk'
    have hle:=msB_le 3 q.ms (k+1)
    have hst':=congrArg List.length hst
    rw[List.length_append]at hst'
    have hel':=encF_le 3 q.ms[k]
    have hen:=e3.each k _ _ (List.getElem?_eq_getElem hkb) (List.getElem?_eq_getElem hk')
    refine cj_skip (K16 (sQ fun K17=>cj_block (sQ fun K18=>cj_reg (jJ ru120 so128 (k:=jL ag128 hcell 0 (k:=jA (k:=K18 (cj_reg (jM (k:=jM (k:=?_)))))))))))
    refine j_val rfl (fun _ _ h=>r_mki ru128 rfl rfl h) ?_
    refine j_callB (D':=D++msB 1 q.ts++msB 2 q.ss++msB 3 (q.ms.take (k+1))) hF3 hB3 call194 rfl rfl (fun w1 hf hB=>by
      rw[hst, ← List.append_assoc]
      exact message_c B w1 bb _ 3 _ _ _ _ _ (by omega) hB (by simp only[List.length_append];omega) (fun w=>me_Map _ _ w) fun w2 hf2 hB2'=>hen w2 _ (frQ (frQ (frE hF hF3) hf) hf2) hB2' (by simp only[List.length_append];omega)) fun v w7 hB7 hF7=>?_
    refine K17 (cj_reg (jI (k:=jM (k:=j_nil (ej_then ?_)))))
    exact fun w' hH hf=>hKL (k+1) _ w' ⟨hk',hB7.fr hf,frQ hF7 hf⟩ (by omega) sR
   ·have hke3:k=q.ms.length:=by omega
    rw[hke3,List.take_of_length_le (Nat.le_refl _)]at hB3
    clear hKL hke3 hk3
    refine cj_exit (K13 (CJ.t [(0,_),(1,_)] (k:=sQ fun K19=>sQ fun K20=>cj_reg (jM (k:=jN (k:=jF 4 ru125 so121 (k:=jL ag121 hc0 4 (k:=jE ru121 (k:=jM (k:=K20 (cj_block ?_)))))))))))
    intro v4 hH4' hf4'
    refine c_loop (σ:=Nat) (fun k=>[(0,ptr b),(1,ptr bb),(60,.slice p4 q.ls.length c4),(61,.int .i64 (q.ls.length:Nat)),(62,.int .i64 (k:Nat))])
     (fun k w'=>k≤q.ls.length∧Bf B w' bb (D++msB 1 q.ts++msB 2 q.ss++msB 3 q.ms++msB 4 (q.ls.take k))∧Fr B wE w0 w') (fun k=>q.ls.length - k) 0 sR ⟨Nat.zero_le _,by simpa[msB]using hB3.fr hf4',frQ hF3 hf4'⟩ ?_
    rintro k u4 ⟨hk4,hB4,hF4⟩ KL hKL
    have hc0:=mc (f:=⟨u4,0,[]⟩) (fr_row hF4 rfl _ _ hb) rfl
    refine C.begin ⟨u4,0,[]⟩ [] ok_refl .nil ?_
    refine sQ fun K21=>cj_reg (jS (k:=K21 (sQ fun K22=>?_)))
    refine cj_dec rfl (fun h63'=>?_) (fun h63'=>?_)
    ·have hk':k<q.ls.length:=by omega
     obtain ⟨bq,rfl,hsq⟩:=hx4 (by omega)
     have hkb:k<bl.length:=by rw[e4.len];exact hk'
     have hcell:=osCell (k:=k) (v:=ptr bl[k]) hF4 rfl hsq (by simp[hkb])
     have hst:=msB_step (tag:=4) (Ms:=q.ls) (k:=k) hk'
     have hle:=msB_le 4 q.ls (k+1)
     have hst':=congrArg List.length hst
     rw[List.length_append]at hst'
     have hel':=encF_le 4 q.ls[k]
     have hen:=e4.each k _ _ (List.getElem?_eq_getElem hkb) (List.getElem?_eq_getElem hk')
     refine cj_skip (K22 (sQ fun K23=>cj_block (sQ fun K24=>cj_reg (jJ ru121 so134 (k:=jL ag134 hcell 0 (k:=jA (k:=K24 (cj_reg (jM (k:=jM (k:=?_)))))))))))
     refine j_val rfl (fun _ _ h=>r_mki ru134 rfl rfl h) ?_
     refine j_callB (D':=D++msB 1 q.ts++msB 2 q.ss++msB 3 q.ms++msB 4 (q.ls.take (k+1))) hF4 hB4 call194 rfl rfl (fun w1 hf hB=>by
       rw[hst, ← List.append_assoc]
       exact message_c B w1 bb _ 4 _ _ _ _ _ (by omega) hB (by simp only[List.length_append];omega) (fun w=>me_Loc _ _ w) fun w2 hf2 hB2'=>hen w2 _ (frQ (frQ (frE hF hF4) hf) hf2) hB2' (by simp only[List.length_append];omega)) fun v w7 hB7 hF7=>?_
     refine K23 (cj_reg (jI (k:=jM (k:=j_nil (ej_then ?_)))))
     exact fun w' hH hf=>hKL (k+1) _ w' ⟨hk',hB7.fr hf,frQ hF7 hf⟩ (by omega) sR
    ·have hke4:k=q.ls.length:=by omega
     rw[hke4,List.take_of_length_le (Nat.le_refl _)]at hB4
     clear hKL hke4 hk4
     refine cj_exit (K19 (CJ.t [(0,_),(1,_)] (k:=sQ fun K25=>sQ fun K26=>cj_reg (jM (k:=jN (k:=jF 5 ru125 so122 (k:=jL ag122 hc0 5 (k:=jE ru122 (k:=jM (k:=K26 (cj_block ?_)))))))))))
     intro v5 hH5' hf5'
     refine c_loop (σ:=Nat) (fun k=>[(0,ptr b),(1,ptr bb),(74,.slice p5 q.fs.length c5),(75,.int .i64 (q.fs.length:Nat)),(76,.int .i64 (k:Nat))])
      (fun k w'=>k≤q.fs.length∧Bf B w' bb (D++msB 1 q.ts++msB 2 q.ss++msB 3 q.ms++msB 4 q.ls++msB 5 (q.fs.take k))∧Fr B wE w0 w') (fun k=>q.fs.length - k) 0 sR ⟨Nat.zero_le _,by simpa[msB]using hB4.fr hf5',frQ hF4 hf5'⟩ ?_
     rintro k u5 ⟨hk5,hB5,hF5⟩ KL hKL
     have hc0:=mc (f:=⟨u5,0,[]⟩) (fr_row hF5 rfl _ _ hb) rfl
     refine C.begin ⟨u5,0,[]⟩ [] ok_refl .nil ?_
     refine sQ fun K27=>cj_reg (jS (k:=K27 (sQ fun K28=>?_)))
     refine cj_dec rfl (fun h77'=>?_) (fun h77'=>?_)
     ·have hk':k<q.fs.length:=by omega
      obtain ⟨bq,rfl,hsq⟩:=hx5 (by omega)
      have hkb:k<bf.length:=by rw[e5.len];exact hk'
      have hcell:=osCell (k:=k) (v:=ptr bf[k]) hF5 rfl hsq (by simp[hkb])
      have hst:=msB_step (tag:=5) (Ms:=q.fs) (k:=k) hk'
      have hle:=msB_le 5 q.fs (k+1)
      have hst':=congrArg List.length hst
      rw[List.length_append]at hst'
      have hel':=encF_le 5 q.fs[k]
      have hen:=e5.each k _ _ (List.getElem?_eq_getElem hkb) (List.getElem?_eq_getElem hk')
      refine cj_skip (K28 (sQ fun K29=>cj_block (sQ fun K30=>cj_reg (jJ ru122 so131 (k:=jL ag131 hcell 0 (k:=jA (k:=K30 (cj_reg (jM (k:=jM (k:=?_)))))))))))
      refine j_val rfl (fun _ _ h=>r_mki ru131 rfl rfl h) ?_
      refine j_callB (D':=D++msB 1 q.ts++msB 2 q.ss++msB 3 q.ms++msB 4 q.ls++msB 5 (q.fs.take (k+1))) hF5 hB5 call194 rfl rfl (fun w1 hf hB=>by
        rw[hst, ← List.append_assoc]
        exact message_c B w1 bb _ 5 _ _ _ _ _ (by omega) hB (by simp only[List.length_append];omega) (fun w=>me_Fun _ _ w) fun w2 hf2 hB2'=>hen w2 _ (frQ (frQ (frE hF hF5) hf) hf2) hB2' (by simp only[List.length_append];omega)) fun v w7 hB7 hF7=>?_
      refine K29 (cj_reg (jI (k:=jM (k:=j_nil (ej_then ?_)))))
      exact fun w' hH hf=>hKL (k+1) _ w' ⟨hk',hB7.fr hf,frQ hF7 hf⟩ (by omega) sR
     ·have hke5:k=q.fs.length:=by omega
      rw[hke5,List.take_of_length_le (Nat.le_refl _)]at hB5
      clear hKL hke5 hk5
      refine cj_exit (K25 (CJ.t [(0,_),(1,_)] (k:=sQ fun K31=>cj_reg (jM (k:=jM (k:=jN (k:=jF 16 ru125 so27 (k:=jL ag27 hc0 16 (k:=?_)))))))))
      refine j_callB (D':=D++msB 1 q.ts++msB 2 q.ss++msB 3 q.ms++msB 4 q.ls++msB 5 q.fs++strsB 6 q.tab) hF5 hB5 call195 rfl rfl (fun w1 hf hB=>strings_c B w1 bb _ 6 _ q.tab (by omega) (h6.mono (fr_row (frQ hF5 hf) rfl)) hB (by simp only[List.length_append];omega)) fun v u6 hB6 hF6=>?_
      have hc0:=mc (f:=⟨u6,0,[]⟩) (fr_row hF6 rfl _ _ hb) rfl
      refine K31 (sQ fun K32=>cj_reg (jM (k:=jM (k:=jN (k:=jF 14 ru125 so2 (k:=jL ag2 hc0 14 (k:=?_)))))))
      refine j_callB (D':=D++msB 1 q.ts++msB 2 q.ss++msB 3 q.ms++msB 4 q.ls++msB 5 q.fs++strsB 6 q.tab++optB 7 (u64 q.dx)) hF6 hB6 call196 rfl rfl (fun w1 hf hB=>int64Opt_c B w1 bb _ 7 q.dx (by omega) hq.w1 hB (by simp only[List.length_append];omega)) fun v u7 hB7 hF7=>?_
      have hc0:=mc (f:=⟨u7,0,[]⟩) (fr_row hF7 rfl _ _ hb) rfl
      refine K32 (CJ.t [(0,_),(1,_)] (k:=sQ fun K33=>cj_reg (jM (k:=jM (k:=jN (k:=jF 15 ru125 so2 (k:=jL ag2 hc0 15 (k:=?_))))))))
      refine j_callB (D':=D++msB 1 q.ts++msB 2 q.ss++msB 3 q.ms++msB 4 q.ls++msB 5 q.fs++strsB 6 q.tab++optB 7 (u64 q.dx)++optB 8 (u64 q.kx)) hF7 hB7 call196 rfl rfl (fun w1 hf hB=>int64Opt_c B w1 bb _ 8 q.kx (by omega) hq.w2 hB (by simp only[List.length_append];omega)) fun v u8 hB8 hF8=>?_
      have hc0:=mc (f:=⟨u8,0,[]⟩) (fr_row hF8 rfl _ _ hb) rfl
      refine K33 (sQ fun K34=>cj_reg (jM (k:=jM (k:=jN (k:=jF 9 ru125 so2 (k:=jL ag2 hc0 9 (k:=?_)))))))
      refine j_callB (D':=D++msB 1 q.ts++msB 2 q.ss++msB 3 q.ms++msB 4 q.ls++msB 5 q.fs++strsB 6 q.tab++optB 7 (u64 q.dx)++optB 8 (u64 q.kx)++optB 9 (u64 q.ti)) hF8 hB8 call196 rfl rfl (fun w1 hf hB=>int64Opt_c B w1 bb _ 9 q.ti (by omega) hq.w3 hB (by simp only[List.length_append];omega)) fun v u9 hB9 hF9=>?_
      have hc0:=mc (f:=⟨u9,0,[]⟩) (fr_row hF9 rfl _ _ hb) rfl
      refine K34 (CJ.t [(0,_),(1,_)] (k:=sQ fun K35=>cj_reg (jM (k:=jM (k:=jN (k:=jF 10 ru125 so2 (k:=jL ag2 hc0 10 (k:=?_))))))))
      refine j_callB (D':=D++msB 1 q.ts++msB 2 q.ss++msB 3 q.ms++msB 4 q.ls++msB 5 q.fs++strsB 6 q.tab++optB 7 (u64 q.dx)++optB 8 (u64 q.kx)++optB 9 (u64 q.ti)++optB 10 (u64 q.du)) hF9 hB9 call196 rfl rfl (fun w1 hf hB=>int64Opt_c B w1 bb _ 10 q.du (by omega) hq.w4 hB (by simp only[List.length_append];omega)) fun v u10 hB10 hF10=>?_
      have hc0:=mc (f:=⟨u10,0,[]⟩) (fr_row hF10 rfl _ _ hb) rfl
      have hcp:=mc (f:=⟨u10,0,[]⟩) (fr_row hF10 rfl _ _ hper) rfl
      refine K35 (cj_seqF fun K36 hK36=>?_)
      have hJ134:∀w',Bf B w' bb (D++msB 1 q.ts++msB 2 q.ss++msB 3 q.ms++msB 4 q.ls++msB 5 q.fs++strsB 6 q.tab++optB 7 (u64 q.dx)++optB 8 (u64 q.kx)++optB 9 (u64 q.ti)++optB 10 (u64 q.du)++(if q.tx≠0∨q.ux≠0 then encF (.bys 11 (vtB q.tx q.ux)) else []))→Fr B wE w0 w'→N K36 148 [(0,ptr b),(1,ptr bb)] w':=by
       intro u12 hB12 hF12
       have hc0:=mc (f:=⟨u12,0,[]⟩) (fr_row hF12 rfl _ _ hb) rfl
       refine hK36 ⟨u12,0,[]⟩ _ [] ?_ u12 .nil ok_refl
       refine cj_reg (jM (k:=jM (k:=jN (k:=jF 12 ru125 so2 (k:=jL ag2 hc0 12 (k:=?_))))))
       refine j_callB (D':=D++msB 1 q.ts++msB 2 q.ss++msB 3 q.ms++msB 4 q.ls++msB 5 q.fs++strsB 6 q.tab++optB 7 (u64 q.dx)++optB 8 (u64 q.kx)++optB 9 (u64 q.ti)++optB 10 (u64 q.du)++(if q.tx≠0∨q.ux≠0 then encF (.bys 11 (vtB q.tx q.ux)) else [])++optB 12 (u64 q.pe)) hF12 hB12 call196 rfl rfl (fun w1 hf hB=>int64Opt_c B w1 bb _ 12 q.pe (by omega) hq.w5 hB (by simp only[List.length_append];omega)) fun v u13 hB13 hF13=>?_
       refine j_nil ?_
       refine ?_
       exact ej_end0 results192 fun w' hH hf=>⟨by have:=hB13.fr hf;simp only[pfB,List.append_assoc]at this⊢;exact this,frQ hF13 hf⟩
      clear hK36
      refine sQ fun K37=>cj_reg (jM (k:=jN (k:=jF 11 ru125 so123 (k:=jL ag123 hc0 11 (k:=jA (k:=K37 (CJ.t [(0,_),(1,_),(14,_)] (k:=sQ fun K38=>cj_reg (jM (k:=?_))))))))))
      refine j_val rfl (fun _ _ h=>r_pnneq ud123 rfl h) ?_
      refine j_eqv (u:=.bool true) rfl ?_
      refine jM (k:=?_)
      refine j_gt rfl rfl (jM (k:=?_))
      refine j_gt rfl rfl (jN (k:=?_))
      refine j_gt rfl rfl (jF 2 ru127 so2 (k:=?_))
      refine j_gt rfl rfl (jL ag2 hcp 2 (k:=?_))
      refine j_gt rfl rfl (j_val rfl (fun _ _ h=>r_neq rfl rfl h) (j_gt rfl rfl (jM (k:=?_))))
      refine j_split (t:=127) rfl (fun hg127=>?_) (fun hg127=>?_)
      ·refine j_gf rfl rfl rfl rfl (j_gf rfl rfl rfl rfl (j_gf rfl rfl rfl rfl (j_gf rfl rfl rfl rfl (j_gf rfl rfl rfl rfl (j_gt rfl rfl (jT (k:=jT (k:=K38 (CJ.t [(0,_),(1,_),(134,_)] (k:=?_))))))))))
       refine cj_if_t rfl (cj_reg (jM (k:=jM (k:=jN (k:=jF 11 ru125 so123 (k:=jL ag123 hc0 11 (k:=?_)))))))
       refine j_val rfl (fun _ _ h=>r_mki ru123 rfl rfl h) ?_
       refine j_callB (D':=D++msB 1 q.ts++msB 2 q.ss++msB 3 q.ms++msB 4 q.ls++msB 5 q.fs++strsB 6 q.tab++optB 7 (u64 q.dx)++optB 8 (u64 q.kx)++optB 9 (u64 q.ti)++optB 10 (u64 q.du)++encF (.bys 11 (vtB q.tx q.ux))) hF10 hB10 call194 rfl rfl (fun w1 hf hB=>message_c B w1 bb _ 11 _ _ _ _ _ (by omega) hB (by simp only[List.length_append];omega) (fun w=>me_VT _ _ w) fun w2 hf2 hB2'=>vtEnc_c B w2 bb _ q.tx q.ux hq.w6 hq.w7 (hf2.blk (hf.blk (fr_row hF10 rfl _ _ hper) (.inr (by simp))) (.inr (by simp))) hB2' (by simp only[List.length_append];omega)) fun v u11 hB11 hF11=>?_
       have hc0:=mc (f:=⟨u11,0,[]⟩) (fr_row hF11 rfl _ _ hb) rfl
       refine j_nil (ej_then ?_)
       intro w' hH hf
       first
        |(have hx:q.tx≠0∨q.ux≠0:=.inl (of_decide_eq_true hg127);rw[if_pos hx]at hJ134;exact N.sub' (hJ134 w' (hB11.fr hf) (frQ hF11 hf)) ⟨rfl,rfl,trivial⟩)
        |(have hx:q.tx≠0∨q.ux≠0:=.inr (of_decide_eq_true h134);rw[if_pos hx]at hJ134;exact N.sub' (hJ134 w' (hB11.fr hf) (frQ hF11 hf)) ⟨rfl,rfl,trivial⟩)
        |(have hx:¬(q.tx≠0∨q.ux≠0):=not_or.2 ⟨of_decide_eq_false hg127,of_decide_eq_false h134⟩;rw[if_neg hx,List.append_nil]at hJ134;exact N.sub' (hJ134 w' (hB10.fr hf) (frQ hF10 hf)) ⟨rfl,rfl,trivial⟩)
      ·refine j_gt rfl rfl (jM (k:=?_))
       refine j_gt rfl rfl (jN (k:=?_))
       refine j_gt rfl rfl (jF 3 ru127 so2 (k:=?_))
       refine j_gt rfl rfl (jL ag2 hcp 3 (k:=?_))
       refine j_gt rfl rfl (j_val rfl (fun _ _ h=>r_neq rfl rfl h) (j_gt rfl rfl (jK (k:=jT (k:=K38 (CJ.t [(0,_),(1,_),(134,_)] (k:=?_)))))))
       refine cj_if rfl (fun h134=>?_) (fun h134=>?_)
       ·refine cj_reg (jM (k:=jM (k:=jN (k:=jF 11 ru125 so123 (k:=jL ag123 hc0 11 (k:=?_))))))
        refine j_val rfl (fun _ _ h=>r_mki ru123 rfl rfl h) ?_
        refine j_callB (D':=D++msB 1 q.ts++msB 2 q.ss++msB 3 q.ms++msB 4 q.ls++msB 5 q.fs++strsB 6 q.tab++optB 7 (u64 q.dx)++optB 8 (u64 q.kx)++optB 9 (u64 q.ti)++optB 10 (u64 q.du)++encF (.bys 11 (vtB q.tx q.ux))) hF10 hB10 call194 rfl rfl (fun w1 hf hB=>message_c B w1 bb _ 11 _ _ _ _ _ (by omega) hB (by simp only[List.length_append];omega) (fun w=>me_VT _ _ w) fun w2 hf2 hB2'=>vtEnc_c B w2 bb _ q.tx q.ux hq.w6 hq.w7 (hf2.blk (hf.blk (fr_row hF10 rfl _ _ hper) (.inr (by simp))) (.inr (by simp))) hB2' (by simp only[List.length_append];omega)) fun v u11 hB11 hF11=>?_
        have hc0:=mc (f:=⟨u11,0,[]⟩) (fr_row hF11 rfl _ _ hb) rfl
        refine j_nil (ej_then ?_)
        intro w' hH hf
        first
         |(have hx:q.tx≠0∨q.ux≠0:=.inl (of_decide_eq_true hg127);rw[if_pos hx]at hJ134;exact N.sub' (hJ134 w' (hB11.fr hf) (frQ hF11 hf)) ⟨rfl,rfl,trivial⟩)
         |(have hx:q.tx≠0∨q.ux≠0:=.inr (of_decide_eq_true h134);rw[if_pos hx]at hJ134;exact N.sub' (hJ134 w' (hB11.fr hf) (frQ hF11 hf)) ⟨rfl,rfl,trivial⟩)
         |(have hx:¬(q.tx≠0∨q.ux≠0):=not_or.2 ⟨of_decide_eq_false hg127,of_decide_eq_false h134⟩;rw[if_neg hx,List.append_nil]at hJ134;exact N.sub' (hJ134 w' (hB10.fr hf) (frQ hF10 hf)) ⟨rfl,rfl,trivial⟩)
       ·refine cj_skip (ej_then ?_)
        intro w' hH hf
        first
         |(have hx:q.tx≠0∨q.ux≠0:=.inl (of_decide_eq_true hg127);rw[if_pos hx]at hJ134;exact N.sub' (hJ134 w' (hB11.fr hf) (frQ hF11 hf)) ⟨rfl,rfl,trivial⟩)
         |(have hx:q.tx≠0∨q.ux≠0:=.inr (of_decide_eq_true h134);rw[if_pos hx]at hJ134;exact N.sub' (hJ134 w' (hB11.fr hf) (frQ hF11 hf)) ⟨rfl,rfl,trivial⟩)
         |(have hx:¬(q.tx≠0∨q.ux≠0):=not_or.2 ⟨of_decide_eq_false hg127,of_decide_eq_false h134⟩;rw[if_neg hx,List.append_nil]at hJ134;exact N.sub' (hJ134 w' (hB10.fr hf) (frQ hF10 hf)) ⟨rfl,rfl,trivial⟩)
def tabM (T:List ByteArray):List (ByteArray×Value):=T.zipIdx.map fun p=>(p.1,.int .i64 (p.2:Nat))
theorem tabM_keys (T:List ByteArray):(tabM T).map (·.1)=T:=by rw[tabM,List.map_map];exact List.zipIdx_map_fst 0 T
theorem tabM_push (T:List ByteArray) (s:ByteArray):tabM (T++[s])=tabM T++[(s,.int .i64 (T.length:Nat))]:=by simp[tabM,List.zipIdx_append]
theorem tabM_mem {T:List ByteArray} {s:ByteArray} (h:(s,v)∈tabM T):∃i:Nat,v=.int .i64 (i:Nat)∧T[i]? =some s:=by
 obtain ⟨⟨s',i⟩,hm,he⟩:=List.mem_map.1 h
 injection he with e1 e2
 subst e1
 exact ⟨i,e2.symm,(List.mem_zipIdx_iff_getElem?).1 hm⟩
structure Tab (w:World) (mb:Nat) (S T:List ByteArray):Prop where
 ex:∃(es:List MapEntry) (ck:Nat),w.heap[mb]? =some (.map es.toArray ck)∧MEnc Value.string (tabM T) es ck
 sub:∀s∈T,s∈S
theorem nodup_lenB:∀{l m:List ByteArray},l.Nodup→(∀x∈l,x∈m)→l.length≤m.length
 |[],_,_,_=>Nat.zero_le _
 |a::r,m,h,hs=>by
    letI:BEq ByteArray:=instBEqOfDecidableEq
    have h1:=List.nodup_cons.1 h
    have ha:a∈m:=hs a (by simp)
    have:=nodup_lenB (l:=r) (m:=m.erase a) h1.2 fun x hx=>(List.mem_erase_of_ne (by rintro rfl;exact h1.1 hx)).2 (hs x (by simp[hx]))
    rw[List.length_erase_of_mem ha]at this
    have:=List.length_pos_of_mem ha
    simp only[List.length_cons]
    omega
theorem Tab.nodup {S T:List ByteArray} (h:Tab w mb S T):T.Nodup:=by
 obtain ⟨es,ck, -,hM⟩:=h.ex
 have:=hM.keys
 rwa [tabM_keys]at this
theorem Tab.len {S T:List ByteArray} (h:Tab w mb S T):T.length≤S.length:=nodup_lenB h.nodup h.sub
theorem Tab.keep {S T:List ByteArray} (h:Tab w mb S T) (k:∀es ck,w.heap[mb]? =some (.map es ck)→w'.heap[mb]? =some (.map es ck)):Tab w' mb S T:=by
 obtain ⟨es,ck,h1,h2⟩:=h.ex
 exact ⟨⟨es,ck,k _ _ h1,h2⟩,h.sub⟩
theorem msetNew {κ:Type} [DecidableEq κ]:∀{ms:List (κ×Value)} {k:κ} {v:Value},k∉ms.map (·.1)→mset ms k v=ms++[(k,v)]
 |[],_,_,_=>rfl
 |(k',y)::r,k,v,h=>by
     simp only[List.map_cons,List.mem_cons,not_or]at h
     simp only[mset,if_neg h.1,msetNew h.2,List.cons_append]
theorem add_c (w:World) (mb:Nat) (S T:List ByteArray) (s:ByteArray) (hT:Tab w mb S T) (hs:s∈S) (hS:S.length≤100000000000):
  Calls Tryz.prog 103 #[.map (some mb),.string s] w (Ret fun v w'=>∃(T':List ByteArray) (n:Nat),v=.int .i64 (n:Nat)∧T'[n]? =some s∧T<+:T'∧Tab w' mb S T'∧KeepX [mb] w w'∧(T'=T∨T'=T++[s])):=by
 obtain ⟨es,ck,hmb,hM⟩:=hT.ex
 have hTl:=hT.len
 have hel:es.length=T.length:=by have:=hM.length;simpa[tabM]using this
 refine startJ (args:=[_,_]) [(0,_),(1,_)] 0 [1000000] _ func103 rfl ntmps103 rfl rfl (Hp.oneMap hmb (Nat.zero_le _) rfl) ?_
 refine sQ fun K1=>cj_reg (jA (k:=K1 (sQ fun K2=>cj_reg (jM (k:=jM (k:=?_))))))
 refine j_valw rfl (fun a w ha hH hf=>r_mlook2 (k:=s) 0 rfl ru189 (keyT_string ru9) hM zv3 rfl rfl (fun _ _ _=>⟨fun _ _=>trivial,trivial⟩) ha hH hf) (jM (k:=jX (k:=jX (k:=jA (k:=jA (k:=K2 (sQ fun K3=>sQ fun K4=>cj_reg (jM (k:=jU (k:=K4 (CJ.t [(0,_),(1,_),(5,_),(14,_)] (k:=?_))))))))))))
 refine cj_if rfl (fun h14=>?_) (fun h14=>?_)
 ·have hnone:mget (tabM T) s=none:=by
   cases hc:mget (tabM T) s with
   |none=>rfl
   |some v=>rw[hc]at h14;cases h14
  have hnew:s∉(tabM T).map (·.1):=mget_none.1 hnone
  refine sQ fun K5=>cj_reg (jM (k:=?_))
  refine j_valw rfl (fun a w ha hH hf=>r_mlen 0 rfl ru189 rfl ha hH) (jA (k:=K5 (cj_reg (jM (k:=jM (k:=jM (k:=?_)))))))
  refine j_mapupd (k:=s) 0 rfl ru189 (keyT_string ru9) hM rfl rfl rfl (fun _ _ _=>⟨fun _ _=>trivial,trivial⟩) fun es' ck' hM'=>?_
  have hM2:MEnc Value.string (tabM (T++[s])) es' ck':=by rw[tabM_push, ← msetNew hnew, ← hel];exact hM'
  refine K3 (sQ fun K6=>cj_reg (jM (k:=jA (k:=K6 (cj_ret ?_)))))
  first
   |exact ej_ret1 results103 rfl fun w' hH hf=>⟨T++[s],es.length,rfl,by simp[hel],List.prefix_append _ _,⟨⟨es',ck',hH.obj (i:=0) rfl rfl,hM2⟩,fun x hx=>by
      rcases List.mem_append.1 hx with hx|hx
      ·exact hT.sub x hx
      ·simp at hx;subst hx;exact hs⟩,Hp.keepX (l:=[mb]) hH.2.2.2 hf,.inr rfl⟩
   |exact ej_ret1 results103 rfl fun w' hH hf=>⟨T,i,by rw[hv];rfl,hi,List.prefix_refl _,⟨⟨es,ck,hH.obj (i:=0) rfl rfl,hM⟩,hT.sub⟩,Hp.keepX (l:=[mb]) hH.2.2.2 hf,.inl rfl⟩
 ·obtain ⟨v,hv⟩:∃v,mget (tabM T) s=some v:=by
   cases hc:mget (tabM T) s with
   |none=>rw[hc]at h14;cases h14
   |some v=>exact ⟨v,rfl⟩
  obtain ⟨i,rfl,hi⟩:=tabM_mem (mget_mem hv)
  refine cj_skip (K3 (sQ fun K7=>cj_reg (jM (k:=jA (k:=K7 (CJ.t [(4,_)] (k:=cj_ret ?_)))))))
  first
   |exact ej_ret1 results103 rfl fun w' hH hf=>⟨T++[s],es.length,rfl,by simp[hel],List.prefix_append _ _,⟨⟨es',ck',hH.obj (i:=0) rfl rfl,hM2⟩,fun x hx=>by
      rcases List.mem_append.1 hx with hx|hx
      ·exact hT.sub x hx
      ·simp at hx;subst hx;exact hs⟩,Hp.keepX (l:=[mb]) hH.2.2.2 hf,.inr rfl⟩
   |exact ej_ret1 results103 rfl fun w' hH hf=>⟨T,i,by rw[hv];rfl,hi,List.prefix_refl _,⟨⟨es,ck,hH.obj (i:=0) rfl rfl,hM⟩,hT.sub⟩,Hp.keepX (l:=[mb]) hH.2.2.2 hf,.inl rfl⟩
end Go.Proofs.YtifdadlhmlhfiaaGreatDoor
namespace Go.Fw
open Go
variable {a:Act} {x:Operand} {w w':World}
def MapAt (w:World) (mo:Option Nat) (es:List MapEntry) (ck:Nat):Prop:=(mo=none∧es=[]∧ck=0)∨∃b,mo=some b∧w.heap[b]? =some (.map es.toArray ck)
theorem MapAt.keep {mo:Option Nat} {es:List MapEntry} {ck:Nat} (h:MapAt w mo es ck) (k:∀(b:Nat) es ck,w.heap[b]? =some (.map es ck)→w'.heap[b]? =some (.map es ck)):MapAt w' mo es ck:=by
 rcases h with h|⟨b,h1,h2⟩
 ·exact .inl h
 ·exact .inr ⟨b,h1,k _ _ _ h2⟩
abbrev itM (it:Nat) (mo:Option Nat) (since:Nat) (seen:List Nat) (stepped:Nat):Ent:=⟨it,0,[],true,false,some (.mapIter mo since seen.toArray stepped)⟩
theorem okK {f:Fm} {b T:Nat} (hf:f.ok w) (k:KeepX [b] w w') (hm:f.may b T) (ho:∀o:Obj,w.heap[b]? =some o→tagOf o=T):f.ok w':=
 ⟨k.os.trans hf.os,k.tape.trans hf.tape,k.output.trans hf.output,Nat.le_trans hf.size k.size,fun c o hc hk=>by
  have h1:=hf.keep c o hc hk
  refine k.keep c o h1 fun hm2=>?_
  simp at hm2
  subst hm2
  have h2:=ho o h1
  have h3:=(Array.getElem?_eq_some_iff.1 hc).1
  rcases hm with hm|⟨hm,hm'⟩
  ·omega
  ·rcases hk with hk|hk
   ·omega
   ·exact hk (h2▸hm')⟩
section
variable {P:Program} {Q:Exit→Act→World→Prop} {n:Nat} {f:Fm} {e:Env} {H:Heap} {ops:Array Oper} {rest:List Oper} {d ty:Nat} {pos:String} {af:Array Edge}
variable {mt kt vt ck:Nat} {mo:Option Nat} {es:List MapEntry}
theorem j_rangeM {m:Operand} (hu:∀w,(underlying mt).run P w=.ok (.map kt vt) w) (hM:∀w,Hp f w H→f.ok w→MapAt w mo es ck) (hm:ev e m=some (.map mo)) (hd:Nat.blt d n=true)
  (k:∀it,J P ops Q n f ((d,.pointer (some ⟨it,0,none⟩))::e) (itM it mo ck [] ck::H) rest):J P ops Q n f e H (⟨some d,.range mt m,ty,pos,af,none⟩::rest):=fun w hH hf=>by
 have hn:New w { w with heap:=w.heap.push (.mapIter mo ck #[] ck) } w.heap.size (.mapIter mo ck #[] ck):=⟨rfl,rfl,rfl,rfl,rfl⟩
 refine L.valw hd (fun a ha=>?_) (k w.heap.size _ (hH.newO hf hn) (hf.new hn))
 simp only[execOp,ha.ev hm]
 rcases hM w hH hf with ⟨rfl,rfl,rfl⟩|⟨b,rfl,hb⟩
 ·have h1:(Instr.range mt (.map none)).run P w=.ok (.pointer (some ⟨w.heap.size,0,none⟩)) { w with heap:=w.heap.push (.mapIter none 0 #[] 0) }:=by
   simp only[Instr.range]
   simp only[Sem.run_bind,hu,Result.andThen_ok,Sem.run_pure]
   rfl
  simp[h1]
 ·have h1:=run_range (P:=P) hu hb
  simp[h1]
theorem j_nextM {it since stepped:Nat} {seen:List Nat} (i:Nat) (hi:H[i]? =some (itM it mo since seen stepped)) (hM:∀w,Hp f w H→f.ok w→MapAt w mo es ck) (hlt:∀x∈es,x.born<since) (hst:since≤stepped) (hx:ev e x=some (.pointer (some ⟨it,0,none⟩))) (hd:Nat.blt d n=true)
  (k1:(∀x∈es,x.born∈seen)→J P ops Q n f ((d,.tuple #[.bool false])::e) H rest)
  (k2:∀x∈es,x.born∉seen→J P ops Q n f ((d,.tuple #[.bool true,x.key,x.val])::e) (putH H i (itM it mo since (seen++[x.born]) ck)) rest):J P ops Q n f e H (⟨some d,.next x false,ty,pos,af,none⟩::rest):=fun w hH hf=>by
 rcases hM w hH hf with ⟨rfl,rfl,rfl⟩|⟨b,rfl,hb⟩
 ·refine L.valw hd (fun a ha=>?_) (k1 (by simp) w hH hf)
  simp only[execOp,ha.ev hx]
  have h1:(Instr.next (.pointer (some ⟨it,0,none⟩)) false ty).run P w=.ok (.tuple #[.bool false]) w:=by
   simp only[Instr.next]
   simp only[Sem.run_bind,run_getObj (hH.obj hi rfl) rfl,Result.andThen_ok,Sem.run_pure]
  simp[h1]
 ·rcases run_next (P:=P) (rt:=ty) (hH.obj hi rfl) hb hlt hst with ⟨w',h1,h2,h3,h4,h5,h6⟩|⟨w',x,h1,h2,h3,h4⟩
  ·have hD:Dr w w':=⟨h3,h4,h5,h2⟩
   refine L.valw hd (fun a ha=>?_) (k1 h6 w' (hH.dr hD) (Fr.dr hf hD))
   simp only[execOp,ha.ev hx]
   simp[h1]
  ·obtain ⟨h5,h6⟩:=hH.putO hi rfl h2 rfl hf
   refine L.valw hd (fun a ha=>?_) (k2 x h3 h4 w' h5 h6)
   simp only[execOp,ha.ev hx]
   simp[h1]
theorem r_entryM {it since:Nat} {seen:List Nat} {xe:MapEntry} (i:Nat) (hi:H[i]? =some (itM it mo since (seen++[xe.born]) ck)) (hM:∀w,Hp f w H→f.ok w→MapAt w mo es ck) (hx:ev e x=some (.pointer (some ⟨it,0,none⟩)))
  (hxe:xe∈es) (hnd:(es.map (·.born)).Nodup) (ha:Sat n e a) (hH:Hp f w H) (hf:f.ok w):
  (execOp a.eval ⟨some d,.entry x,ty,pos,af,none⟩).run P w=.ok (.value (.tuple #[xe.key,xe.val])) w:=by
 rcases hM w hH hf with ⟨-,rfl, -⟩|⟨b,rfl,hb⟩
 ·cases hxe
 have h1:=hH.obj hi rfl
 have h3:es.find? (fun z=>z.born==xe.born)=some xe:=by
  cases hf:es.find? (fun z=>z.born==xe.born) with
  |none=>exact absurd (List.find?_eq_none.1 hf xe hxe) (by simp)
  |some z=>
   have hz:=List.find?_some hf
   have hm:=List.mem_of_find?_eq_some hf
   rw[born_eq hnd hm hxe (by simpa using hz)]
 simp only[execOp,ha.ev hx]
 have h2':(getObj b).run P w=.ok (.map es.toArray ck) w:=run_getObj hb rfl
 simp only[Instr.entry,Sem.run_bind,run_getObj h1 rfl,Result.andThen_ok]
 simp[h2',h3]
theorem r_mlookM {κ:Type} [DecidableEq κ] {enc:κ→Value} {ms:List (κ×Value)} {m kx:Operand} {k:κ} {z:Value} (hu:∀w,(underlying mt).run P w=.ok (.map kt vt) w) (hk:KeyT P kt enc (fun _ _=>True)) (hM:MEnc enc ms es ck) (hz:∀w,(zeroValue vt).run P w=.ok z w)
  (hm:ev e m=some (.map mo)) (hkx:ev e kx=some (enc k)) (ha:Sat n e a) (hA:MapAt w mo es ck):
  (execOp a.eval ⟨some d,.lookup mt m kx false,ty,pos,af,none⟩).run P w=.ok (.value ((mget ms k).getD z)) w:=by
 simp only[execOp,ha.ev hm,ha.ev hkx]
 rcases hA with ⟨rfl,rfl, -⟩|⟨b,rfl,hb⟩
 ·have hnil:ms=[]:=by have:=hM.kv;simpa using this.symm
  subst hnil
  have:=run_lookup_nil (P:=P) (w:=w) hu hk (k:=k) trivial hz false
  simp[this,mget_nil]
 ·have:=run_lookup (P:=P) hu hk hM hb (fun _ _=>trivial) (k:=k) trivial hz false
  simp[this]
theorem Hp.putX {f:Fm} {H:Heap} {i:Nat} {y y':Ent} (h:Hp f w H) (hx:H[i]? =some y) (ho:y.ex=true) (hb:y'.b=y.b) (hm:y'.ex=true→y'.wr=true→f.may y'.b y'.tag) (k:KeepX [y.b] w w') (hh:y'.has w'):Hp f w' (putH H i y'):=
 h.putK hx ho hb hm (fun z _ _ hne o hz=>k.keep _ o hz (by simpa using hne)) hh
end
end Go.Fw
namespace Go.Proofs.YtifdadlhmlhfiaaGreatDoor
open Go Go.Fw Go.Proofs Go.Proofs.Tryz
variable {T':List ByteArray} {es:List MapEntry} {W bs:List Nat} {cs:List Value} {T b ck k mb:Nat} {w:World}
section
variable {Q:Exit→Act→World→Prop} {n:Nat} {f:Fm} {e:Env} {H:Heap} {ops:Array Oper} {rest:List Oper} {d ty:Nat} {pos:String} {af:Array Edge}
theorem j_callA1 {S T:List ByteArray} {s:ByteArray} {args:Array Operand} {tys:Array TypeId} (i:Nat) (hi:H[i]? =some (mpE mb es ck)) (hM:MEnc Value.string (tabM T) es ck) (hT:∀s∈T,s∈S) (hs:s∈S) (hS:S.length≤100000000000)
  (hargs:evL e args.toList=some [.map (some mb),.string s]) (hd:Nat.blt d n=true)
  (k:∀(T':List ByteArray) (m:Nat) es' ck',T'[m]? =some s→T<+:T'→(∀s∈T',s∈S)→MEnc Value.string (tabM T') es' ck'→(T'=T∨T'=T++[s])→J Tryz.prog ops Q n f ((d,.int .i64 (m:Nat))::e) (putH H i (mpE mb es' ck')) rest):
  J Tryz.prog ops Q n f e H (⟨some d,.call ⟨.value (.func 103),args,tys⟩,ty,pos,af,none⟩::rest):=
 j_callE (R:=fun w v w'=>∃(T':List ByteArray) (m:Nat),v=.int .i64 (m:Nat)∧T'[m]? =some s∧T<+:T'∧Tab w' mb S T'∧KeepX [mb] w w'∧(T'=T∨T'=T++[s])) Tryz.call103 hargs hd (fun w hH _=>add_c w mb S T s ⟨⟨es,ck,hH.obj hi rfl,hM⟩,hT⟩ hs hS) fun w v w' hH hf hR=>by
  obtain ⟨T',m,rfl,h1,h2,h3,h4,h0⟩:=hR
  obtain ⟨es',ck',h5,h6⟩:=h3.ex
  have hm:=hH.mayx (List.mem_of_getElem? hi) rfl rfl
  refine k T' m es' ck' h1 h2 h3.sub h6 h0 w' (hH.putX hi rfl rfl (fun _ _=>hm) h4 ⟨fun h=>(by cases h),fun o ho=>by cases ho;exact h5⟩) (okK hf h4 hm fun o ho=>?_)
  have h7:=hH.obj hi rfl
  have h8:w.heap[mb]? =some o:=ho
  rw[h7]at h8
  cases h8;rfl
theorem j_callA {S T:List ByteArray} {s:ByteArray} {args:Array Operand} {tys:Array TypeId} (i:Nat) (hi:H[i]? =some (mpE mb es ck)) (hM:MEnc Value.string (tabM T) es ck) (hT:∀s∈T,s∈S) (hs:s∈S) (hS:S.length≤100000000000)
  (hargs:evL e args.toList=some [.map (some mb),.string s]) (hd:Nat.blt d n=true)
  (k:∀(T':List ByteArray) (m:Nat) es' ck',T'[m]? =some s→T<+:T'→(∀s∈T',s∈S)→MEnc Value.string (tabM T') es' ck'→J Tryz.prog ops Q n f ((d,.int .i64 (m:Nat))::e) (putH H i (mpE mb es' ck')) rest):
  J Tryz.prog ops Q n f e H (⟨some d,.call ⟨.value (.func 103),args,tys⟩,ty,pos,af,none⟩::rest):=
 j_callA1 i hi hM hT hs hS hargs hd fun T' m es' ck' h1 h2 h3 h4 _=>k T' m es' ck' h1 h2 h3 h4
end
theorem Hp.rowMap (hb:Blk w b T cs) (hm:w.heap[mb]? =some (.map es.toArray ck)) (hT:W.any (fun t=>Nat.beq t T)=true) (hT2:W.any (fun t=>Nat.beq t 1000000)=true):
  Hp ⟨w,0,W⟩ w (⟨b,T,cs,true,true,none⟩::mpE mb es ck::restH w [b,mb]):=by
 have hne:mb≠b:=by
  rintro rfl
  have h1:w.heap[mb]? =some (.cells cs.toArray T (0,0)):=hb
  rw[hm]at h1;cases h1
 refine ⟨⟨fun _=>hb,fun o h=>by cases h⟩,fun _ _=>.inr ⟨Nat.zero_le _,mem_of_any hT⟩,fun _ y hy he=>?_,⟨fun h=>(by cases h),fun o ho=>by cases ho;exact hm⟩,fun _ _=>.inr ⟨Nat.zero_le _,mem_of_any hT2⟩,fun _=>rest_ne (by simp),Hp.rest _⟩
 rcases List.mem_cons.1 hy with rfl|hy
 ·exact hne
 ·exact rest_ne (by simp) y hy he
theorem frK {w0 u w':World} {B:Nat} {l:List Nat} (h:Fr B W w0 u) (k:KeepX l u w') (hl:∀b∈l,w0.heap.size≤b∨(B≤b∧∀o:Obj,u.heap[b]? =some o→tagOf o∈W)):Fr B W w0 w':=
 ⟨k.os.trans h.os,k.tape.trans h.tape,k.output.trans h.output,Nat.le_trans h.size k.size,fun b o hb hc=>by
  have h1:=h.keep b o hb hc
  refine k.keep b o h1 fun hm=>?_
  rcases hl b hm with h2|⟨h3,h2⟩
  ·have:=(Array.getElem?_eq_some_iff.1 hb).1;omega
  ·rcases hc with hc|hc
   ·omega
   ·exact hc (h2 o h1)⟩
theorem tag_row (h:Blk w b T cs) (hT:T∈W):∀o:Obj,w.heap[b]? =some o→tagOf o∈W:=fun o ho=>by
 have h1:w.heap[b]? =some (.cells cs.toArray T (0,0)):=h
 rw[ho]at h1;cases h1;exact hT
def At (T:List ByteArray) (n:Int) (s:ByteArray):Prop:=∃k:Nat,n=k∧T[k]? =some s
theorem prefix_get {α:Type} {T T':List α} (p:T<+:T') {s:α} (h:T[k]? =some s):T'[k]? =some s:=by
 obtain ⟨e,rfl⟩:=p
 rw[List.getElem?_append_left (List.getElem?_eq_some_iff.1 h).1];exact h
theorem At.mono {T:List ByteArray} {n:Int} {s:ByteArray} (h:At T n s) (p:T<+:T'):At T' n s:=by
 obtain ⟨k,rfl,h⟩:=h
 exact ⟨k,rfl,prefix_get p h⟩
theorem At.mk {T:List ByteArray} {s:ByteArray} (h:T[k]? =some s) (p:T<+:T'):At T' (k:Nat) s:=⟨k,rfl,prefix_get p h⟩
def Pg {α:Type} (k:Nat) (bs:List Nat) (xs:List α) (φ ψ:Nat→α→Prop):Prop:=∀(i:Nat) b x,bs[i]? =some b→xs[i]? =some x→(i<k→φ b x)∧(k≤i→ψ b x)
theorem Pg.mono {α:Type} {xs:List α} {φ φ' ψ ψ':Nat→α→Prop} (h:Pg k bs xs φ ψ) (h1:∀b x,φ b x→φ' b x) (h2:∀b x,ψ b x→ψ' b x):Pg k bs xs φ' ψ':=fun i b x hb hx=>⟨fun hi=>h1 _ _ ((h i b x hb hx).1 hi),fun hi=>h2 _ _ ((h i b x hb hx).2 hi)⟩
theorem nodup_ix {α:Type} {l:List α} (h:l.Nodup) {i j:Nat} (hi:i<l.length) (hj:j<l.length) (e:l[i]=l[j]):i=j:=by
 have hp:=List.pairwise_iff_getElem.1 h
 rcases Nat.lt_trichotomy i j with h1|h1|h1
 ·exact absurd e (hp i j hi hj h1)
 ·exact h1
 ·exact absurd e.symm (hp j i hj hi h1)
theorem Pg.step {α:Type} {b0:Nat} {xs:List α} {φ φ' ψ ψ':Nat→α→Prop} {x0:α} (h:Pg k bs xs φ ψ) (hn:bs.Nodup) (hb:bs[k]? =some b0) (hx:xs[k]? =some x0) (h1:∀b x,b≠b0→φ b x→φ' b x) (h2:∀b x,b≠b0→ψ b x→ψ' b x) (h3:φ' b0 x0):Pg (k+1) bs xs φ' ψ':=fun i b x hb' hx'=>by
 have hne:i≠k→b≠b0:=fun hik e=>hik (by
  subst e
  have l1:=(List.getElem?_eq_some_iff.1 hb').1
  have l2:=(List.getElem?_eq_some_iff.1 hb).1
  rw[List.getElem?_eq_getElem l1]at hb'
  rw[List.getElem?_eq_getElem l2]at hb
  have e2:bs[i]=bs[k]:=by simp at hb' hb;rw[hb',hb]
  exact nodup_ix hn l1 l2 e2)
 refine ⟨fun hi=>?_,fun hi=>h2 b x (hne (by omega)) ((h i b x hb' hx').2 (by omega))⟩
 by_cases hik:i=k
 ·subst hik
  rw[hb]at hb';rw[hx]at hx'
  cases hb';cases hx'
  exact h3
 ·exact h1 b x (hne hik) ((h i b x hb' hx').1 (by omega))
theorem Pg.full {α:Type} {xs:List α} {φ ψ:Nat→α→Prop} (h:Pg k bs xs φ ψ) (hl:bs.length=xs.length) (hk:xs.length≤k):Each bs xs φ:=⟨hl,fun i b x hb hx=>(h i b x hb hx).1 (by have:=(List.getElem?_eq_some_iff.1 hx).1;omega)⟩
theorem take_succ_mem {α:Type} {xs:List α} (hk:k<xs.length) {x:α}:x∈xs.take (k+1)↔x∈xs.take k∨x=xs[k]:=by
 rw[← List.take_append_getElem hk,List.mem_append,List.mem_singleton]
theorem indexStr_c (w:World) (v:Value) (xs:List ByteArray) (x:ByteArray) (h:Lay RStr 1 w v xs):Calls Tryz.prog 76 #[v,.string x] w (Ret fun v w'=>(∃i:Int,v=.int .i64 i∧(i<0→x∉xs))∧Fr 0 [] w w'):=by
 obtain ⟨p,c,rfl,hl,hx⟩:=h.open
 refine startJ (args:=[_,_]) [(0,_),(1,_)] 0 [] [] func76 rfl ntmps76 rfl rfl .nil ?_
 refine sQ fun K1=>cj_reg (jA (k:=K1 (sQ fun K2=>sQ fun K3=>cj_reg (jM (k:=jE ru27 (k:=jM (k:=K3 (cj_block ?_))))))))
 refine cj_loop (σ:=Nat) (fun k=>[(0,.slice p xs.length c),(1,.string x),(7,.int .i64 (xs.length:Nat)),(8,.int .i64 (k:Nat))]) (fun _=>[]) (fun k _=>k≤xs.length∧x∉xs.take k) (fun k=>xs.length - k) 0 sR (fun w hH hf=>⟨.nil,Nat.zero_le _,by simp⟩) ?_
 rintro k w1 ⟨hk,hk'⟩ hf1 hH1 KL hKL
 refine C.begin _ [] hf1 .nil ?_
 refine sQ fun K4=>cj_reg (jS (k:=K4 (sQ fun K5=>?_)))
 refine cj_dec rfl (fun hlt=>?_) (fun hlt=>?_)
 ·have hlt':k<xs.length:=by omega
  obtain ⟨b,o,cs,rfl,hcs,hR,hcell⟩:=hx k xs[k] (List.getElem?_eq_getElem hlt')
  unfold RStr at hR
  subst hR
  refine cj_skip (K5 (sQ fun K6=>cj_block (sQ fun K7=>cj_reg (jM (k:=jA (k:=K7 (sQ fun K8=>cj_reg (jM (k:=jM (k:=jM (k:=jJ ru27 so9 (k:=?_))))))))))))
  refine j_valw rfl (fun a w ha hH hf=>r_load ag9 rfl (hcell w (hf.keepAll (.inr rfl)) 0 _ rfl) ha) (j_val rfl (fun _ _ h=>r_seql rfl rfl h) (K8 ?_))
  refine cj_dec rfl (fun heq=>?_) (fun heq=>?_)
  ·refine sQ fun K9=>cj_reg (jM (k:=jA (k:=K9 (CJ.t [(4,_)] (k:=cj_ret ?_)))))
   first|exact ej_ret1 results76 rfl fun w' hH hf=>⟨⟨_,rfl,fun h=>absurd h (by omega)⟩,hf⟩|exact ej_ret1 results76 rfl fun w' hH hf=>⟨⟨_,rfl,fun _ hm=>hk' (by rw[List.take_of_length_le (by omega)];exact hm)⟩,hf⟩
  ·refine cj_skip (K6 (cj_reg (jI (k:=jM (k:=j_nil (ej_then ?_))))))
   exact fun w hH hf=>hKL (k+1) _ w ⟨hlt',by rw[take_succ_mem hlt'];rintro (h|h)<;>simp_all⟩ hf .nil (by omega) sR
 ·refine cj_exit (K2 (sQ fun K10=>cj_reg (jA (k:=K10 (cj_ret ?_)))))
  first|exact ej_ret1 results76 rfl fun w' hH hf=>⟨⟨_,rfl,fun h=>absurd h (by omega)⟩,hf⟩|exact ej_ret1 results76 rfl fun w' hH hf=>⟨⟨_,rfl,fun _ hm=>hk' (by rw[List.take_of_length_le (by omega)];exact hm)⟩,hf⟩
theorem containsStr_c (w:World) (v:Value) (xs:List ByteArray) (x:ByteArray) (h:Lay RStr 1 w v xs):Calls Tryz.prog 61 #[v,.string x] w (Ret fun v w'=>(∃b,v=.bool b∧(b=false→x∉xs))∧Fr 0 [] w w'):=by
 refine startJ (args:=[_,_]) [(0,_),(1,_)] 0 [] [] func61 rfl ntmps61 rfl rfl .nil ?_
 refine sQ fun K1=>cj_reg (jA (k:=K1 (sQ fun K2=>cj_reg (jM (k:=jM (k:=?_))))))
 refine j_callQ (φ:=fun v=>∃i:Int,v=.int .i64 i∧(i<0→x∉xs)) call76 rfl rfl (fun w hH hf=>indexStr_c w _ _ _ (h.keep (RStr.keep (hf.keepAll (.inr rfl))) (hf.keepAll (.inr rfl)))) ?_
 rintro _ ⟨i7,rfl,hi7⟩
 refine j_val rfl (fun _ _ h=>r_geq rfl rfl h) (jA (k:=K2 (cj_ret ?_)))
 exact ej_ret1 results61 rfl fun w' hH hf=>⟨⟨_,rfl,fun h=>hi7 (by simpa using h)⟩,hf⟩
theorem indexU64_c (w:World) (v:Value) (xs:List Int) (x:Int) (h:Lay (RInt .u64) 1 w v xs):Calls Tryz.prog 110 #[v,.int .u64 x] w (Ret fun v w'=>(∃i:Int,v=.int .i64 i∧(i<0→x∉xs))∧Fr 0 [] w w'):=by
 obtain ⟨p,c,rfl,hl,hx⟩:=h.open
 refine startJ (args:=[_,_]) [(0,_),(1,_)] 0 [] [] func110 rfl ntmps110 rfl rfl .nil ?_
 refine sQ fun K1=>cj_reg (jA (k:=K1 (sQ fun K2=>sQ fun K3=>cj_reg (jM (k:=jE ru84 (k:=jM (k:=K3 (cj_block ?_))))))))
 refine cj_loop (σ:=Nat) (fun k=>[(0,.slice p xs.length c),(1,.int .u64 x),(7,.int .i64 (xs.length:Nat)),(8,.int .i64 (k:Nat))]) (fun _=>[]) (fun k _=>k≤xs.length∧x∉xs.take k) (fun k=>xs.length - k) 0 sR (fun w hH hf=>⟨.nil,Nat.zero_le _,by simp⟩) ?_
 rintro k w1 ⟨hk,hk'⟩ hf1 hH1 KL hKL
 refine C.begin _ [] hf1 .nil ?_
 refine sQ fun K4=>cj_reg (jS (k:=K4 (sQ fun K5=>?_)))
 refine cj_dec rfl (fun hlt=>?_) (fun hlt=>?_)
 ·have hlt':k<xs.length:=by omega
  obtain ⟨b,o,cs,rfl,hcs,hR,hcell⟩:=hx k xs[k] (List.getElem?_eq_getElem hlt')
  obtain ⟨rfl, -⟩:=hR
  refine cj_skip (K5 (sQ fun K6=>cj_block (sQ fun K7=>cj_reg (jM (k:=jA (k:=K7 (sQ fun K8=>cj_reg (jM (k:=jM (k:=jM (k:=jJ ru84 so71 (k:=?_))))))))))))
  refine j_valw rfl (fun a w ha hH hf=>r_load ag71 rfl (hcell w (hf.keepAll (.inr rfl)) 0 _ rfl) ha) (jQ (k:=K8 ?_))
  refine cj_dec rfl (fun heq=>?_) (fun heq=>?_)
  ·refine sQ fun K9=>cj_reg (jM (k:=jA (k:=K9 (CJ.t [(4,_)] (k:=cj_ret ?_)))))
   first|exact ej_ret1 results110 rfl fun w' hH hf=>⟨⟨_,rfl,fun h=>absurd h (by omega)⟩,hf⟩|exact ej_ret1 results110 rfl fun w' hH hf=>⟨⟨_,rfl,fun _ hm=>hk' (by rw[List.take_of_length_le (by omega)];exact hm)⟩,hf⟩
  ·refine cj_skip (K6 (cj_reg (jI (k:=jM (k:=j_nil (ej_then ?_))))))
   exact fun w hH hf=>hKL (k+1) _ w ⟨hlt',by rw[take_succ_mem hlt'];rintro (h|h)<;>simp_all⟩ hf .nil (by omega) sR
 ·refine cj_exit (K2 (sQ fun K10=>cj_reg (jA (k:=K10 (cj_ret ?_)))))
  first|exact ej_ret1 results110 rfl fun w' hH hf=>⟨⟨_,rfl,fun h=>absurd h (by omega)⟩,hf⟩|exact ej_ret1 results110 rfl fun w' hH hf=>⟨⟨_,rfl,fun _ hm=>hk' (by rw[List.take_of_length_le (by omega)];exact hm)⟩,hf⟩
theorem containsU64_c (w:World) (v:Value) (xs:List Int) (x:Int) (h:Lay (RInt .u64) 1 w v xs):Calls Tryz.prog 94 #[v,.int .u64 x] w (Ret fun v w'=>(∃b,v=.bool b∧(b=false→x∉xs))∧Fr 0 [] w w'):=by
 refine startJ (args:=[_,_]) [(0,_),(1,_)] 0 [] [] func94 rfl ntmps94 rfl rfl .nil ?_
 refine sQ fun K1=>cj_reg (jA (k:=K1 (sQ fun K2=>cj_reg (jM (k:=jM (k:=?_))))))
 refine j_callQ (φ:=fun v=>∃i:Int,v=.int .i64 i∧(i<0→x∉xs)) call110 rfl rfl (fun w hH hf=>indexU64_c w _ _ _ (h.keep (RInt.keep (hf.keepAll (.inr rfl))) (hf.keepAll (.inr rfl)))) ?_
 rintro _ ⟨i7,rfl,hi7⟩
 refine j_val rfl (fun _ _ h=>r_geq rfl rfl h) (jA (k:=K2 (cj_ret ?_)))
 exact ej_ret1 results94 rfl fun w' hH hf=>⟨⟨_,rfl,fun h=>hi7 (by simpa using h)⟩,hf⟩
theorem nodup_take_succ {α:Type} {xs:List α} (hk:k<xs.length) (h:(xs.take k).Nodup) (hn:xs[k]∉xs.take k):(xs.take (k+1)).Nodup:=by
 rw[← List.take_append_getElem hk,List.nodup_append]
 exact ⟨h,by simp,by simp;rintro a ha rfl;exact hn ha⟩
theorem ids_c (w:World) (v:Value) (xs:List Int) (h:Lay (RInt .u64) 1 w v xs):Calls Tryz.prog 62 #[v] w (Ret fun v w'=>(∃b,v=.bool b∧(b=true→0∉xs∧xs.Nodup∧xs.length≤60))∧Fr 0 [] w w'):=by
 obtain ⟨p,c,rfl,hl,hx⟩:=h.open
 have hcap:=h.cap
 refine startJ (args:=[_]) [(0,_)] 0 [] [] func62 rfl ntmps62 rfl rfl .nil ?_
 refine sQ fun K1=>cj_reg (jA (k:=K1 (sQ fun K2=>sQ fun K3=>cj_reg (jM (k:=jE ru84 (k:=jM (k:=K3 (cj_block ?_))))))))
 refine cj_loop (σ:=Nat) (fun k=>[(0,.slice p xs.length c),(5,.slice p xs.length c),(6,.int .i64 (xs.length:Nat)),(7,.int .i64 (k:Nat))]) (fun _=>[]) (fun k _=>k≤xs.length∧0∉xs.take k∧(xs.take k).Nodup) (fun k=>xs.length - k) 0 sR (fun w hH hf=>⟨.nil,Nat.zero_le _,by simp,by simp⟩) ?_
 rintro k w1 ⟨hk,hz,hd⟩ hf1 hH1 KL hKL
 refine C.begin _ [] hf1 .nil ?_
 refine sQ fun K4=>cj_reg (jS (k:=K4 (sQ fun K5=>?_)))
 refine cj_dec rfl (fun hlt=>?_) (fun hlt=>?_)
 ·have hlt':k<xs.length:=by omega
  obtain ⟨b,o,cs,rfl,hcs,hR,hcell⟩:=hx k xs[k] (List.getElem?_eq_getElem hlt')
  obtain ⟨rfl, -⟩:=hR
  refine cj_skip (K5 (sQ fun K6=>cj_block (sQ fun K7=>cj_reg (jM (k:=jJ ru84 so71 (k:=?_))))))
  refine j_valw rfl (fun a w ha hH hf=>r_load ag71 rfl (hcell w (hf.keepAll (.inr rfl)) 0 _ rfl) ha) (jA (k:=jA (k:=K7 (sQ fun K8=>cj_reg (jM (k:=jQ (k:=jM (k:=?_))))))))
  refine j_split (t:=14) rfl (fun hg14=>?_) (fun hg14=>?_)
  ·refine j_gf rfl rfl rfl rfl (j_gf rfl rfl rfl rfl (j_gf rfl rfl rfl rfl (j_gf rfl rfl rfl rfl (j_gf rfl rfl rfl rfl (jT (k:=K8 (CJ.t [(0,_),(5,_),(6,_),(7,_),(20,_)] (k:=?_))))))))
   refine cj_if_t rfl (sQ fun K9=>cj_reg (jA (k:=K9 (cj_ret ?_))))
   first|exact ej_ret1 results62 rfl fun w' hH hf=>⟨⟨_,rfl,fun h=>absurd h (by decide)⟩,hf⟩|exact ej_ret1 results62 rfl fun w' hH hf=>⟨⟨_,rfl,fun h=>by
    rw[List.take_of_length_le (by omega)]at hz hd
    simp at h
    exact ⟨hz,hd,by omega⟩⟩,hf⟩
  ·refine j_gt rfl rfl (jM (k:=?_))
   refine j_gt rfl rfl (jM (k:=?_))
   refine j_gt rfl rfl (j_val rfl (fun _ _ h=>r_slhi ru84 so71 rfl rfl (by omega) h) (j_gt rfl rfl (jM (k:=?_))))
   refine j_gt rfl rfl ?_
   refine j_callQ (φ:=fun v=>∃b,v=.bool b∧(b=false→xs[k]∉xs.take k)) call94 rfl rfl (fun w hH hf=>containsU64_c w _ _ _ ((h.take k hk).keep (RInt.keep (hf.keepAll (.inr rfl))) (hf.keepAll (.inr rfl)))) ?_
   rintro _ ⟨b19,rfl,hb19⟩
   refine jK (k:=K8 (CJ.t [(0,_),(5,_),(6,_),(7,_),(20,_)] (k:=?_)))
   refine cj_if rfl (fun h20=>?_) (fun h20=>?_)
   ·refine sQ fun K10=>cj_reg (jA (k:=K10 (cj_ret ?_)))
    first|exact ej_ret1 results62 rfl fun w' hH hf=>⟨⟨_,rfl,fun h=>absurd h (by decide)⟩,hf⟩|exact ej_ret1 results62 rfl fun w' hH hf=>⟨⟨_,rfl,fun h=>by
     rw[List.take_of_length_le (by omega)]at hz hd
     simp at h
     exact ⟨hz,hd,by omega⟩⟩,hf⟩
   ·refine cj_skip (K6 (cj_reg (jI (k:=jM (k:=j_nil (ej_then ?_))))))
    have hne:xs[k]≠0:=by simpa using hg14
    exact fun w hH hf=>hKL (k+1) _ w ⟨hlt',fun h=>((take_succ_mem hlt').1 h).elim hz (fun h=>hne h.symm),nodup_take_succ hlt' hd (hb19 h20)⟩ hf .nil (by omega) sR
 ·refine cj_exit (K2 (sQ fun K11=>cj_reg (jM (k:=jE ru84 (k:=?_)))))
  refine j_val rfl (fun _ _ h=>r_leq rfl rfl h) (jA (k:=K11 (cj_ret ?_)))
  first|exact ej_ret1 results62 rfl fun w' hH hf=>⟨⟨_,rfl,fun h=>absurd h (by decide)⟩,hf⟩|exact ej_ret1 results62 rfl fun w' hH hf=>⟨⟨_,rfl,fun h=>by
   rw[List.take_of_length_le (by omega)]at hz hd
   simp at h
   exact ⟨hz,hd,by omega⟩⟩,hf⟩
structure LabP (x:PSample):Prop where
 tlen:x.texts.length≤60
 nlen:x.nums.length≤60
 tasc:∀(i:Nat) (t u:PTexts),x.texts[i]? =some t→x.texts[i+1]? =some u→ltB t.key u.key=true
 nasc:∀(i:Nat) (t u:PNums),x.nums[i]? =some t→x.nums[i+1]? =some u→ltB t.key u.key=true
 tl:∀t∈x.texts,t.list≠[]∧t.list.length≤60∧⟨#[]⟩∉t.list
 nl:∀t∈x.nums,t.list≠[]∧t.list.length≤60
theorem ne_nil_of {α:Type} {l:List α} (h:decide ((l.length:Int)=0)=false):l≠[]:=by
 rintro rfl;simp at h
theorem le60_of {l:Nat} (h:decide ((60:Int)<(l:Int))=false):l≤60:=by simp at h;omega
theorem asc_step {α:Type} {xs:List α} {lt:α→α→Bool} (hk:k<xs.length) (h:∀(i:Nat) (t u:α),i+1<k→xs[i]? =some t→xs[i+1]? =some u→lt t u=true) (hn:∀(h0:0<k),lt (xs[k - 1]'(by omega)) xs[k]=true):
  ∀(i:Nat) (t u:α),i+1<k+1→xs[i]? =some t→xs[i+1]? =some u→lt t u=true:=by
 intro i t u hi ht hu
 by_cases hik:i+1<k
 ·exact h i t u hik ht hu
 ·have:i+1=k:=by omega
  subst this
  have:=hn (by omega)
  rw[List.getElem?_eq_getElem (by omega)]at ht
  rw[List.getElem?_eq_getElem hk]at hu
  simp at ht hu
  rw[← ht, ← hu]
  simpa using this
theorem all_step {α:Type} {xs:List α} {φ:α→Prop} (hk:k<xs.length) (h:∀t∈xs.take k,φ t) (hn:φ xs[k]):∀t∈xs.take (k+1),φ t:=by
 intro t ht
 rcases (take_succ_mem hk).1 ht with h1|rfl
 ·exact h t h1
 ·exact hn
theorem labeled_c (w:World) (cs:List Value) (x:PSample) (h:RSample w cs x):Calls Tryz.prog 25 #[.agg cs.toArray] w (Ret fun v w'=>(∃b,v=.bool b∧(b=true→LabP x))∧Fr 0 [] w w'):=by
 obtain ⟨la,lb,lt,lu,rfl,hla,hlb,hlt,hlu⟩:=h
 obtain ⟨p3,c3,rfl,hl3,hx3⟩:=hlt.open
 obtain ⟨p4,c4,rfl,hl4,hx4⟩:=hlu.open
 refine startJ (args:=[_]) [(0,_)] 0 [] [] func25 rfl ntmps25 rfl rfl .nil ?_
 refine sQ fun K1=>cj_reg (j_boxA (vs:=[_,_,_,_]) rfl rfl fun b1=>jA (k:=K1 ?_))
 refine cj_seqF fun K2 hK2=>sQ fun K3=>cj_reg (jF 2 ru57 so54 (k:=jH 0 ag54 (k:=jE ru54 (k:=jM (k:=K3 (cj_block ?_))))))
 refine cj_loop (σ:=Nat) (fun k=>[(1,.pointer (some ⟨b1,0,none⟩)),(8,.slice p3 x.texts.length c3),(9,.int .i64 (x.texts.length:Nat)),(10,.int .i64 (k:Nat))]) (fun _=>[⟨b1,57,[la,lb,.slice p3 x.texts.length c3,.slice p4 x.nums.length c4],true,true,none⟩])
  (fun k _=>k≤x.texts.length∧(∀(i:Nat) (t u:PTexts),i+1<k→x.texts[i]? =some t→x.texts[i+1]? =some u→ltB t.key u.key=true)∧∀t∈x.texts.take k,t.list≠[]∧t.list.length≤60∧⟨#[]⟩∉t.list)
  (fun k=>x.texts.length - k) 0 sR (fun w hH hf=>⟨hH,Nat.zero_le _,by intro i t u h;omega,by simp⟩) ?_
 rintro k w1 ⟨hk,hT1,hT2⟩ hf1 hH1 KL hKL
 refine C.begin _ _ hf1 hH1 ?_
 refine sQ fun K4=>cj_reg (jS (k:=K4 (sQ fun K5=>?_)))
 refine cj_dec rfl (fun hlt11=>?_) (fun hlt11=>?_)
 ·have hk':k<x.texts.length:=by omega
  obtain ⟨b,o,cs,rfl,hcs,⟨l1,rfl,hl1⟩,hcell⟩:=hx3 k x.texts[k] (List.getElem?_eq_getElem hk')
  obtain ⟨p1,c1,rfl,hs1, -⟩:=hl1.open
  refine cj_skip (K5 (sQ fun K6=>cj_block (sQ fun K7=>cj_reg (jM (k:=jJ ru54 so109 (k:=?_))))))
  refine j_valw rfl (fun a w ha hH hf=>r_loadA ag109 so109 rfl rfl (hcell w (hf.keepAll (.inr rfl))) ha) (j_allocA (zs:=[(.string ⟨#[]⟩),(.slice none 0 0)]) zv109 rfl fun b4=>jA (k:=jB [_,_] [_,_] 0 so109 (k:=K7 (sQ fun K8=>?_))))
  refine cj_drawI 31 (lts [0,1,2,3,4,5,6,7,8,9,10,11,12,13,14,15,16,17,18,19,20,21,22,23,24,25,26,27,28]++(29,false)::lts [30]) [0,1] rfl (by kernel_rfl) (by kernel_rfl) (dM [0,1] (k:=?_))
  refine dj_val rfl rfl (sub_of [0,1] rfl) (fun _ _ h=>r_gtr rfl rfl h) (dM [0,1] (k:=?_))
  refine dj_split (t:=17) rfl (fun hg17=>?_) (fun hg17=>?_)
  ·have h0k:0<k:=by simpa using hg17
   obtain ⟨b',o',cs',hp, -,⟨l',rfl, -⟩,hcell'⟩:=hx3 (k - 1) (x.texts[k - 1]'(by omega)) (List.getElem?_eq_getElem (by omega))
   injection hp with hp;injection hp with hp1 hp2;subst hp1;subst hp2
   refine dj_gt rfl rfl rfl rfl (sub_of [0,1] rfl) (fun a w ha hS=>r_fl (q:=2) (ft:=54) ru57 rfl so54 rfl ha) (dj_gt rfl rfl rfl rfl (sub_of [0,1] rfl) (fun a w ha hS=>r_ldS 1 rfl rfl ag54 rfl rfl ha hS) (dj_gt rfl rfl rfl rfl (sub_of [0,1] rfl) (fun a w ha hS=>r_move rfl ha) (dj_gt rfl rfl rfl rfl (sub_of [0,1] rfl) (fun a w ha hS=>r_dec h0k (by omega) rfl rfl ha) (dj_gt rfl rfl rfl rfl (sub_of [0,1] rfl) (fun a w ha hS=>r_idx ru54 so109 rfl rfl (by omega) ha) (dj_gt rfl rfl rfl rfl (sub_of [0,1] rfl) (fun a w ha hS=>r_fl (q:=0) (ft:=9) ru109 rfl so9 rfl ha) (dj_gt rfl rfl rfl rfl (sub_of [0,1] rfl) (fun a w ha hS=>r_load ag9 rfl (hcell' w (hS.2.keepAll (.inr rfl)) 0 _ rfl) ha) (dj_gt rfl rfl rfl rfl (sub_of [0,1] rfl) (fun a w ha hS=>r_fl (q:=0) (ft:=9) ru109 rfl so9 rfl ha) (dj_gt rfl rfl rfl rfl (sub_of [0,1] rfl) (fun a w ha hS=>r_ldS 0 rfl rfl ag9 rfl rfl ha hS) (dj_gt rfl rfl rfl rfl (sub_of [0,1] rfl) (fun a w ha hS=>r_sgeq rfl rfl ha) (dj_val rfl rfl (sub_of [0,1] rfl) (fun _ _ h=>r_pick_t rfl rfl h) (dM [0,1] (k:=?_))))))))))))
   refine dj_split (t:=29) rfl (fun hg29=>?_) (fun hg29=>?_)
   ·refine dj_gf rfl rfl rfl rfl rfl (sub_of [0,1] rfl) (dj_gf rfl rfl rfl rfl rfl (sub_of [0,1] rfl) (dj_gf rfl rfl rfl rfl rfl (sub_of [0,1] rfl) (dj_gf rfl rfl rfl rfl rfl (sub_of [0,1] rfl) (dj_val rfl rfl (sub_of [0,1] rfl) (fun _ _ h=>r_pick_t rfl rfl h) (dM [0,1] (k:=?_))))))
    refine dj_gf rfl rfl rfl rfl rfl (sub_of [0,1] rfl) (dj_gf rfl rfl rfl rfl rfl (sub_of [0,1] rfl) (dj_gf rfl rfl rfl rfl rfl (sub_of [0,1] rfl) (dj_gf rfl rfl rfl rfl rfl (sub_of [0,1] rfl) (dj_val rfl rfl (sub_of [0,1] rfl) (fun _ _ h=>r_pick_t rfl rfl h) (dM [0,1] (k:=?_))))))
    refine dj_gf rfl rfl rfl rfl rfl (sub_of [0,1] rfl) (dj_gf rfl rfl rfl rfl rfl (sub_of [0,1] rfl) (dE (h:=fun Kd=>j_gf rfl rfl rfl rfl (Kd (sb [0,1]) (dj_val rfl rfl (sub_of [0,1] rfl) (fun _ _ h=>r_pick_t rfl rfl h) (K8 (CJ.t [(1,_),(8,_),(9,_),(10,_),(45,_)] (k:=?_))))))))
    refine cj_if_t rfl (sQ fun K9=>cj_reg (jA (k:=K9 (cj_ret ?_))))
    first|exact ej_ret1 results25 rfl fun w' hH hf=>⟨⟨_,rfl,fun h=>absurd h (by decide)⟩,hf⟩|exact ej_ret1 results25 rfl fun w' hH hf=>⟨⟨_,rfl,fun h=>by
     rw[List.take_of_length_le (by omega)]at hT2 hN2
     simp at h hg86
     exact ⟨by omega,by omega,fun i t u ht hu=>hT1 i t u (by have:=(List.getElem?_eq_some_iff.1 hu).1;omega) ht hu,fun i t u ht hu=>hN1 i t u (by have:=(List.getElem?_eq_some_iff.1 hu).1;omega) ht hu,hT2,hN2⟩⟩,hf⟩
   ·refine dj_gt rfl rfl rfl rfl (sub_of [0,1] rfl) (fun a w ha hS=>r_fl (q:=1) (ft:=27) ru109 rfl so27 rfl ha) (dj_gt rfl rfl rfl rfl (sub_of [0,1] rfl) (fun a w ha hS=>r_ldS 0 rfl rfl ag27 rfl rfl ha hS) (dj_gt rfl rfl rfl rfl (sub_of [0,1] rfl) (fun a w ha hS=>r_len ru27 rfl ha) (dj_gt rfl rfl rfl rfl (sub_of [0,1] rfl) (fun a w ha hS=>r_eql rfl rfl ha) (dj_val rfl rfl (sub_of [0,1] rfl) (fun _ _ h=>r_pick_f rfl rfl h) (dM [0,1] (k:=?_))))))
    refine dj_split (t:=35) rfl (fun hg35=>?_) (fun hg35=>?_)
    ·refine dj_gf rfl rfl rfl rfl rfl (sub_of [0,1] rfl) (dj_gf rfl rfl rfl rfl rfl (sub_of [0,1] rfl) (dj_gf rfl rfl rfl rfl rfl (sub_of [0,1] rfl) (dj_gf rfl rfl rfl rfl rfl (sub_of [0,1] rfl) (dj_val rfl rfl (sub_of [0,1] rfl) (fun _ _ h=>r_pick_t rfl rfl h) (dM [0,1] (k:=?_))))))
     refine dj_gf rfl rfl rfl rfl rfl (sub_of [0,1] rfl) (dj_gf rfl rfl rfl rfl rfl (sub_of [0,1] rfl) (dE (h:=fun Kd=>j_gf rfl rfl rfl rfl (Kd (sb [0,1]) (dj_val rfl rfl (sub_of [0,1] rfl) (fun _ _ h=>r_pick_t rfl rfl h) (K8 (CJ.t [(1,_),(8,_),(9,_),(10,_),(45,_)] (k:=?_))))))))
     refine cj_if_t rfl (sQ fun K10=>cj_reg (jA (k:=K10 (cj_ret ?_))))
     first|exact ej_ret1 results25 rfl fun w' hH hf=>⟨⟨_,rfl,fun h=>absurd h (by decide)⟩,hf⟩|exact ej_ret1 results25 rfl fun w' hH hf=>⟨⟨_,rfl,fun h=>by
      rw[List.take_of_length_le (by omega)]at hT2 hN2
      simp at h hg86
      exact ⟨by omega,by omega,fun i t u ht hu=>hT1 i t u (by have:=(List.getElem?_eq_some_iff.1 hu).1;omega) ht hu,fun i t u ht hu=>hN1 i t u (by have:=(List.getElem?_eq_some_iff.1 hu).1;omega) ht hu,hT2,hN2⟩⟩,hf⟩
    ·refine dj_gt rfl rfl rfl rfl (sub_of [0,1] rfl) (fun a w ha hS=>r_fl (q:=1) (ft:=27) ru109 rfl so27 rfl ha) (dj_gt rfl rfl rfl rfl (sub_of [0,1] rfl) (fun a w ha hS=>r_ldS 0 rfl rfl ag27 rfl rfl ha hS) (dj_gt rfl rfl rfl rfl (sub_of [0,1] rfl) (fun a w ha hS=>r_len ru27 rfl ha) (dj_gt rfl rfl rfl rfl (sub_of [0,1] rfl) (fun a w ha hS=>r_gtr rfl rfl ha) (dj_val rfl rfl (sub_of [0,1] rfl) (fun _ _ h=>r_pick_f rfl rfl h) (dM [0,1] (k:=?_))))))
     refine dj_split (t:=41) rfl (fun hg41=>?_) (fun hg41=>?_)
     ·refine dj_gf rfl rfl rfl rfl rfl (sub_of [0,1] rfl) (dj_gf rfl rfl rfl rfl rfl (sub_of [0,1] rfl) (dE (h:=fun Kd=>j_gf rfl rfl rfl rfl (Kd (sb [0,1]) (dj_val rfl rfl (sub_of [0,1] rfl) (fun _ _ h=>r_pick_t rfl rfl h) (K8 (CJ.t [(1,_),(8,_),(9,_),(10,_),(45,_)] (k:=?_))))))))
      refine cj_if_t rfl (sQ fun K11=>cj_reg (jA (k:=K11 (cj_ret ?_))))
      first|exact ej_ret1 results25 rfl fun w' hH hf=>⟨⟨_,rfl,fun h=>absurd h (by decide)⟩,hf⟩|exact ej_ret1 results25 rfl fun w' hH hf=>⟨⟨_,rfl,fun h=>by
       rw[List.take_of_length_le (by omega)]at hT2 hN2
       simp at h hg86
       exact ⟨by omega,by omega,fun i t u ht hu=>hT1 i t u (by have:=(List.getElem?_eq_some_iff.1 hu).1;omega) ht hu,fun i t u ht hu=>hN1 i t u (by have:=(List.getElem?_eq_some_iff.1 hu).1;omega) ht hu,hT2,hN2⟩⟩,hf⟩
     ·refine dj_gt rfl rfl rfl rfl (sub_of [0,1] rfl) (fun a w ha hS=>r_fl (q:=1) (ft:=27) ru109 rfl so27 rfl ha) (dj_gt rfl rfl rfl rfl (sub_of [0,1] rfl) (fun a w ha hS=>r_ldS 0 rfl rfl ag27 rfl rfl ha hS) (dE (h:=fun Kd=>j_gt rfl rfl ?_)))
      refine j_callQ (φ:=fun v=>∃b,v=.bool b∧(b=false→⟨#[]⟩∉x.texts[k].list)) call61 rfl rfl (fun w hH hf=>containsStr_c w _ _ _ (hl1.keep (RStr.keep (hf.keepAll (.inr rfl))) (hf.keepAll (.inr rfl)))) ?_
      rintro _ ⟨b44,rfl,hb44⟩
      refine Kd (sb [0,1]) (dj_val rfl rfl (sub_of [0,1] rfl) (fun _ _ h=>r_pick_f rfl rfl h) (K8 ?_))
      refine cj_if rfl (fun h45=>?_) (fun h45=>?_)
      ·refine sQ fun K12=>cj_reg (jA (k:=K12 (cj_ret ?_)))
       first|exact ej_ret1 results25 rfl fun w' hH hf=>⟨⟨_,rfl,fun h=>absurd h (by decide)⟩,hf⟩|exact ej_ret1 results25 rfl fun w' hH hf=>⟨⟨_,rfl,fun h=>by
        rw[List.take_of_length_le (by omega)]at hT2 hN2
        simp at h hg86
        exact ⟨by omega,by omega,fun i t u ht hu=>hT1 i t u (by have:=(List.getElem?_eq_some_iff.1 hu).1;omega) ht hu,fun i t u ht hu=>hN1 i t u (by have:=(List.getElem?_eq_some_iff.1 hu).1;omega) ht hu,hT2,hN2⟩⟩,hf⟩
      ·refine cj_skip (K6 (cj_reg (jI (k:=jM (k:=j_nil (ej_then ?_))))))
       refine fun w hH hf=>hKL (k+1) _ w ⟨hk',asc_step (lt:=fun t u=>ltB t.key u.key) hk' hT1 (fun h0=>?_),all_step hk' hT2 ⟨ne_nil_of hg35,le60_of hg41,hb44 h45⟩⟩ hf hH.2.2.2 (by omega) sR
       first|(simp at hg17;omega)|simpa using hg29
  ·refine dj_gf rfl rfl rfl rfl rfl (sub_of [0,1] rfl) (dj_gf rfl rfl rfl rfl rfl (sub_of [0,1] rfl) (dj_gf rfl rfl rfl rfl rfl (sub_of [0,1] rfl) (dj_gf rfl rfl rfl rfl rfl (sub_of [0,1] rfl) (dj_gf rfl rfl rfl rfl rfl (sub_of [0,1] rfl) (dj_gf rfl rfl rfl rfl rfl (sub_of [0,1] rfl) (dj_gf rfl rfl rfl rfl rfl (sub_of [0,1] rfl) (dj_gf rfl rfl rfl rfl rfl (sub_of [0,1] rfl) (dj_gf rfl rfl rfl rfl rfl (sub_of [0,1] rfl) (dj_gf rfl rfl rfl rfl rfl (sub_of [0,1] rfl) (dj_val rfl rfl (sub_of [0,1] rfl) (fun _ _ h=>r_pick_f rfl rfl h) (dM [0,1] (k:=?_))))))))))))
   refine dj_gt rfl rfl rfl rfl (sub_of [0,1] rfl) (fun a w ha hS=>r_fl (q:=1) (ft:=27) ru109 rfl so27 rfl ha) (dj_gt rfl rfl rfl rfl (sub_of [0,1] rfl) (fun a w ha hS=>r_ldS 0 rfl rfl ag27 rfl rfl ha hS) (dj_gt rfl rfl rfl rfl (sub_of [0,1] rfl) (fun a w ha hS=>r_len ru27 rfl ha) (dj_gt rfl rfl rfl rfl (sub_of [0,1] rfl) (fun a w ha hS=>r_eql rfl rfl ha) (dj_val rfl rfl (sub_of [0,1] rfl) (fun _ _ h=>r_pick_f rfl rfl h) (dM [0,1] (k:=?_))))))
   refine dj_split (t:=35) rfl (fun hg35=>?_) (fun hg35=>?_)
   ·refine dj_gf rfl rfl rfl rfl rfl (sub_of [0,1] rfl) (dj_gf rfl rfl rfl rfl rfl (sub_of [0,1] rfl) (dj_gf rfl rfl rfl rfl rfl (sub_of [0,1] rfl) (dj_gf rfl rfl rfl rfl rfl (sub_of [0,1] rfl) (dj_val rfl rfl (sub_of [0,1] rfl) (fun _ _ h=>r_pick_t rfl rfl h) (dM [0,1] (k:=?_))))))
    refine dj_gf rfl rfl rfl rfl rfl (sub_of [0,1] rfl) (dj_gf rfl rfl rfl rfl rfl (sub_of [0,1] rfl) (dE (h:=fun Kd=>j_gf rfl rfl rfl rfl (Kd (sb [0,1]) (dj_val rfl rfl (sub_of [0,1] rfl) (fun _ _ h=>r_pick_t rfl rfl h) (K8 (CJ.t [(1,_),(8,_),(9,_),(10,_),(45,_)] (k:=?_))))))))
    refine cj_if_t rfl (sQ fun K13=>cj_reg (jA (k:=K13 (cj_ret ?_))))
    first|exact ej_ret1 results25 rfl fun w' hH hf=>⟨⟨_,rfl,fun h=>absurd h (by decide)⟩,hf⟩|exact ej_ret1 results25 rfl fun w' hH hf=>⟨⟨_,rfl,fun h=>by
     rw[List.take_of_length_le (by omega)]at hT2 hN2
     simp at h hg86
     exact ⟨by omega,by omega,fun i t u ht hu=>hT1 i t u (by have:=(List.getElem?_eq_some_iff.1 hu).1;omega) ht hu,fun i t u ht hu=>hN1 i t u (by have:=(List.getElem?_eq_some_iff.1 hu).1;omega) ht hu,hT2,hN2⟩⟩,hf⟩
   ·refine dj_gt rfl rfl rfl rfl (sub_of [0,1] rfl) (fun a w ha hS=>r_fl (q:=1) (ft:=27) ru109 rfl so27 rfl ha) (dj_gt rfl rfl rfl rfl (sub_of [0,1] rfl) (fun a w ha hS=>r_ldS 0 rfl rfl ag27 rfl rfl ha hS) (dj_gt rfl rfl rfl rfl (sub_of [0,1] rfl) (fun a w ha hS=>r_len ru27 rfl ha) (dj_gt rfl rfl rfl rfl (sub_of [0,1] rfl) (fun a w ha hS=>r_gtr rfl rfl ha) (dj_val rfl rfl (sub_of [0,1] rfl) (fun _ _ h=>r_pick_f rfl rfl h) (dM [0,1] (k:=?_))))))
    refine dj_split (t:=41) rfl (fun hg41=>?_) (fun hg41=>?_)
    ·refine dj_gf rfl rfl rfl rfl rfl (sub_of [0,1] rfl) (dj_gf rfl rfl rfl rfl rfl (sub_of [0,1] rfl) (dE (h:=fun Kd=>j_gf rfl rfl rfl rfl (Kd (sb [0,1]) (dj_val rfl rfl (sub_of [0,1] rfl) (fun _ _ h=>r_pick_t rfl rfl h) (K8 (CJ.t [(1,_),(8,_),(9,_),(10,_),(45,_)] (k:=?_))))))))
     refine cj_if_t rfl (sQ fun K14=>cj_reg (jA (k:=K14 (cj_ret ?_))))
     first|exact ej_ret1 results25 rfl fun w' hH hf=>⟨⟨_,rfl,fun h=>absurd h (by decide)⟩,hf⟩|exact ej_ret1 results25 rfl fun w' hH hf=>⟨⟨_,rfl,fun h=>by
      rw[List.take_of_length_le (by omega)]at hT2 hN2
      simp at h hg86
      exact ⟨by omega,by omega,fun i t u ht hu=>hT1 i t u (by have:=(List.getElem?_eq_some_iff.1 hu).1;omega) ht hu,fun i t u ht hu=>hN1 i t u (by have:=(List.getElem?_eq_some_iff.1 hu).1;omega) ht hu,hT2,hN2⟩⟩,hf⟩
    ·refine dj_gt rfl rfl rfl rfl (sub_of [0,1] rfl) (fun a w ha hS=>r_fl (q:=1) (ft:=27) ru109 rfl so27 rfl ha) (dj_gt rfl rfl rfl rfl (sub_of [0,1] rfl) (fun a w ha hS=>r_ldS 0 rfl rfl ag27 rfl rfl ha hS) (dE (h:=fun Kd=>j_gt rfl rfl ?_)))
     refine j_callQ (φ:=fun v=>∃b,v=.bool b∧(b=false→⟨#[]⟩∉x.texts[k].list)) call61 rfl rfl (fun w hH hf=>containsStr_c w _ _ _ (hl1.keep (RStr.keep (hf.keepAll (.inr rfl))) (hf.keepAll (.inr rfl)))) ?_
     rintro _ ⟨b44,rfl,hb44⟩
     refine Kd (sb [0,1]) (dj_val rfl rfl (sub_of [0,1] rfl) (fun _ _ h=>r_pick_f rfl rfl h) (K8 ?_))
     refine cj_if rfl (fun h45=>?_) (fun h45=>?_)
     ·refine sQ fun K15=>cj_reg (jA (k:=K15 (cj_ret ?_)))
      first|exact ej_ret1 results25 rfl fun w' hH hf=>⟨⟨_,rfl,fun h=>absurd h (by decide)⟩,hf⟩|exact ej_ret1 results25 rfl fun w' hH hf=>⟨⟨_,rfl,fun h=>by
       rw[List.take_of_length_le (by omega)]at hT2 hN2
       simp at h hg86
       exact ⟨by omega,by omega,fun i t u ht hu=>hT1 i t u (by have:=(List.getElem?_eq_some_iff.1 hu).1;omega) ht hu,fun i t u ht hu=>hN1 i t u (by have:=(List.getElem?_eq_some_iff.1 hu).1;omega) ht hu,hT2,hN2⟩⟩,hf⟩
     ·refine cj_skip (K6 (cj_reg (jI (k:=jM (k:=j_nil (ej_then ?_))))))
      refine fun w hH hf=>hKL (k+1) _ w ⟨hk',asc_step (lt:=fun t u=>ltB t.key u.key) hk' hT1 (fun h0=>?_),all_step hk' hT2 ⟨ne_nil_of hg35,le60_of hg41,hb44 h45⟩⟩ hf hH.2.2.2 (by omega) sR
      first|(simp at hg17;omega)|simpa using hg29
 ·refine cj_exit (ej_then_exit (ej_then_exit (ej_blk_hit (ej_then (hK2 _ _ _ (CJ.t [(1,_)] (k:=sQ fun K16=>sQ fun K17=>cj_reg (jF 3 ru57 so55 (k:=jH 0 ag55 (k:=jE ru55 (k:=jM (k:=K17 (cj_block ?_)))))))))))))
  refine cj_loop (σ:=Nat) (fun k=>[(1,.pointer (some ⟨b1,0,none⟩)),(48,.slice p4 x.nums.length c4),(49,.int .i64 (x.nums.length:Nat)),(50,.int .i64 (k:Nat))]) (fun _=>[⟨b1,57,[la,lb,.slice p3 x.texts.length c3,.slice p4 x.nums.length c4],true,true,none⟩])
   (fun k _=>k≤x.nums.length∧(∀(i:Nat) (t u:PNums),i+1<k→x.nums[i]? =some t→x.nums[i+1]? =some u→ltB t.key u.key=true)∧∀t∈x.nums.take k,t.list≠[]∧t.list.length≤60)
   (fun k=>x.nums.length - k) 0 sR (fun w hH hf=>⟨hH,Nat.zero_le _,by intro i t u h;omega,by simp⟩) ?_
  rintro m w2 ⟨hm,hN1,hN2⟩ hf2 hH2 KL hKL
  refine C.begin _ _ hf2 hH2 ?_
  refine sQ fun K18=>cj_reg (jS (k:=K18 (sQ fun K19=>?_)))
  refine cj_dec rfl (fun hlt51=>?_) (fun hlt51=>?_)
  ·have hm':m<x.nums.length:=by omega
   obtain ⟨b,o,cs,rfl,hcs,⟨l1,rfl,hl1⟩,hcell⟩:=hx4 m x.nums[m] (List.getElem?_eq_getElem hm')
   obtain ⟨p1,c1,rfl,hs1, -⟩:=hl1.open
   refine cj_skip (K19 (sQ fun K20=>cj_block (sQ fun K21=>cj_reg (jM (k:=jJ ru55 so112 (k:=?_))))))
   refine j_valw rfl (fun a w ha hH hf=>r_loadA ag112 so112 rfl rfl (hcell w (hf.keepAll (.inr rfl))) ha) (j_allocA (zs:=[(.string ⟨#[]⟩),(.slice none 0 0)]) zv112 rfl fun b6=>jA (k:=jB [_,_] [_,_] 0 so112 (k:=K21 (sQ fun K22=>?_))))
   refine cj_drawI 26 (lts [0,1,2,3,4,5,6,7,8,9,10,11,12,13,14,15,16,17,18,19,20,21,22,23,24,25]) [0,1] rfl (by kernel_rfl) (by kernel_rfl) (dM [0,1] (k:=?_))
   refine dj_val rfl rfl (sub_of [0,1] rfl) (fun _ _ h=>r_gtr rfl rfl h) (dM [0,1] (k:=?_))
   refine dj_split (t:=57) rfl (fun hg57=>?_) (fun hg57=>?_)
   ·have h0k:0<m:=by simpa using hg57
    obtain ⟨b',o',cs',hp, -,⟨l',rfl, -⟩,hcell'⟩:=hx4 (m - 1) (x.nums[m - 1]'(by omega)) (List.getElem?_eq_getElem (by omega))
    injection hp with hp;injection hp with hp1 hp2;subst hp1;subst hp2
    refine dj_gt rfl rfl rfl rfl (sub_of [0,1] rfl) (fun a w ha hS=>r_fl (q:=3) (ft:=55) ru57 rfl so55 rfl ha) (dj_gt rfl rfl rfl rfl (sub_of [0,1] rfl) (fun a w ha hS=>r_ldS 1 rfl rfl ag55 rfl rfl ha hS) (dj_gt rfl rfl rfl rfl (sub_of [0,1] rfl) (fun a w ha hS=>r_move rfl ha) (dj_gt rfl rfl rfl rfl (sub_of [0,1] rfl) (fun a w ha hS=>r_dec h0k (by omega) rfl rfl ha) (dj_gt rfl rfl rfl rfl (sub_of [0,1] rfl) (fun a w ha hS=>r_idx ru55 so112 rfl rfl (by omega) ha) (dj_gt rfl rfl rfl rfl (sub_of [0,1] rfl) (fun a w ha hS=>r_fl (q:=0) (ft:=9) ru112 rfl so9 rfl ha) (dj_gt rfl rfl rfl rfl (sub_of [0,1] rfl) (fun a w ha hS=>r_load ag9 rfl (hcell' w (hS.2.keepAll (.inr rfl)) 0 _ rfl) ha) (dj_gt rfl rfl rfl rfl (sub_of [0,1] rfl) (fun a w ha hS=>r_fl (q:=0) (ft:=9) ru112 rfl so9 rfl ha) (dj_gt rfl rfl rfl rfl (sub_of [0,1] rfl) (fun a w ha hS=>r_ldS 0 rfl rfl ag9 rfl rfl ha hS) (dj_gt rfl rfl rfl rfl (sub_of [0,1] rfl) (fun a w ha hS=>r_sgeq rfl rfl ha) (dj_val rfl rfl (sub_of [0,1] rfl) (fun _ _ h=>r_pick_t rfl rfl h) (dM [0,1] (k:=?_))))))))))))
    refine dj_split (t:=69) rfl (fun hg69=>?_) (fun hg69=>?_)
    ·refine dj_gf rfl rfl rfl rfl rfl (sub_of [0,1] rfl) (dj_gf rfl rfl rfl rfl rfl (sub_of [0,1] rfl) (dj_gf rfl rfl rfl rfl rfl (sub_of [0,1] rfl) (dj_gf rfl rfl rfl rfl rfl (sub_of [0,1] rfl) (dj_val rfl rfl (sub_of [0,1] rfl) (fun _ _ h=>r_pick_t rfl rfl h) (dM [0,1] (k:=?_))))))
     refine dj_gf rfl rfl rfl rfl rfl (sub_of [0,1] rfl) (dj_gf rfl rfl rfl rfl rfl (sub_of [0,1] rfl) (dj_gf rfl rfl rfl rfl rfl (sub_of [0,1] rfl) (dj_gf rfl rfl rfl rfl rfl (sub_of [0,1] rfl) (dj_val rfl rfl (sub_of [0,1] rfl) (fun _ _ h=>r_pick_t rfl rfl h) (K22 (CJ.t [(1,_),(48,_),(49,_),(50,_),(80,_)] (k:=?_)))))))
     refine cj_if_t rfl (sQ fun K23=>cj_reg (jA (k:=K23 (cj_ret ?_))))
     first|exact ej_ret1 results25 rfl fun w' hH hf=>⟨⟨_,rfl,fun h=>absurd h (by decide)⟩,hf⟩|exact ej_ret1 results25 rfl fun w' hH hf=>⟨⟨_,rfl,fun h=>by
      rw[List.take_of_length_le (by omega)]at hT2 hN2
      simp at h hg86
      exact ⟨by omega,by omega,fun i t u ht hu=>hT1 i t u (by have:=(List.getElem?_eq_some_iff.1 hu).1;omega) ht hu,fun i t u ht hu=>hN1 i t u (by have:=(List.getElem?_eq_some_iff.1 hu).1;omega) ht hu,hT2,hN2⟩⟩,hf⟩
    ·refine dj_gt rfl rfl rfl rfl (sub_of [0,1] rfl) (fun a w ha hS=>r_fl (q:=1) (ft:=53) ru112 rfl so53 rfl ha) (dj_gt rfl rfl rfl rfl (sub_of [0,1] rfl) (fun a w ha hS=>r_ldS 0 rfl rfl ag53 rfl rfl ha hS) (dj_gt rfl rfl rfl rfl (sub_of [0,1] rfl) (fun a w ha hS=>r_len ru53 rfl ha) (dj_gt rfl rfl rfl rfl (sub_of [0,1] rfl) (fun a w ha hS=>r_eql rfl rfl ha) (dj_val rfl rfl (sub_of [0,1] rfl) (fun _ _ h=>r_pick_f rfl rfl h) (dM [0,1] (k:=?_))))))
     refine dj_split (t:=75) rfl (fun hg75=>?_) (fun hg75=>?_)
     ·refine dj_gf rfl rfl rfl rfl rfl (sub_of [0,1] rfl) (dj_gf rfl rfl rfl rfl rfl (sub_of [0,1] rfl) (dj_gf rfl rfl rfl rfl rfl (sub_of [0,1] rfl) (dj_gf rfl rfl rfl rfl rfl (sub_of [0,1] rfl) (dj_val rfl rfl (sub_of [0,1] rfl) (fun _ _ h=>r_pick_t rfl rfl h) (K22 (CJ.t [(1,_),(48,_),(49,_),(50,_),(80,_)] (k:=?_)))))))
      refine cj_if_t rfl (sQ fun K24=>cj_reg (jA (k:=K24 (cj_ret ?_))))
      first|exact ej_ret1 results25 rfl fun w' hH hf=>⟨⟨_,rfl,fun h=>absurd h (by decide)⟩,hf⟩|exact ej_ret1 results25 rfl fun w' hH hf=>⟨⟨_,rfl,fun h=>by
       rw[List.take_of_length_le (by omega)]at hT2 hN2
       simp at h hg86
       exact ⟨by omega,by omega,fun i t u ht hu=>hT1 i t u (by have:=(List.getElem?_eq_some_iff.1 hu).1;omega) ht hu,fun i t u ht hu=>hN1 i t u (by have:=(List.getElem?_eq_some_iff.1 hu).1;omega) ht hu,hT2,hN2⟩⟩,hf⟩
     ·refine dj_gt rfl rfl rfl rfl (sub_of [0,1] rfl) (fun a w ha hS=>r_fl (q:=1) (ft:=53) ru112 rfl so53 rfl ha) (dj_gt rfl rfl rfl rfl (sub_of [0,1] rfl) (fun a w ha hS=>r_ldS 0 rfl rfl ag53 rfl rfl ha hS) (dj_gt rfl rfl rfl rfl (sub_of [0,1] rfl) (fun a w ha hS=>r_len ru53 rfl ha) (dj_gt rfl rfl rfl rfl (sub_of [0,1] rfl) (fun a w ha hS=>r_gtr rfl rfl ha) (dj_val rfl rfl (sub_of [0,1] rfl) (fun _ _ h=>r_pick_f rfl rfl h) (K22 ?_)))))
      refine cj_if rfl (fun h80=>?_) (fun h80=>?_)
      ·refine sQ fun K25=>cj_reg (jA (k:=K25 (cj_ret ?_)))
       first|exact ej_ret1 results25 rfl fun w' hH hf=>⟨⟨_,rfl,fun h=>absurd h (by decide)⟩,hf⟩|exact ej_ret1 results25 rfl fun w' hH hf=>⟨⟨_,rfl,fun h=>by
        rw[List.take_of_length_le (by omega)]at hT2 hN2
        simp at h hg86
        exact ⟨by omega,by omega,fun i t u ht hu=>hT1 i t u (by have:=(List.getElem?_eq_some_iff.1 hu).1;omega) ht hu,fun i t u ht hu=>hN1 i t u (by have:=(List.getElem?_eq_some_iff.1 hu).1;omega) ht hu,hT2,hN2⟩⟩,hf⟩
      ·refine cj_skip (K20 (cj_reg (jI (k:=jM (k:=j_nil (ej_then ?_))))))
       refine fun w hH hf=>hKL (m+1) _ w ⟨hm',asc_step (lt:=fun t u=>ltB t.key u.key) hm' hN1 (fun h0=>?_),all_step hm' hN2 ⟨ne_nil_of hg75,le60_of h80⟩⟩ hf hH.2.2.2 (by omega) sR
       first|(simp at hg57;omega)|simpa using hg69
   ·refine dj_gf rfl rfl rfl rfl rfl (sub_of [0,1] rfl) (dj_gf rfl rfl rfl rfl rfl (sub_of [0,1] rfl) (dj_gf rfl rfl rfl rfl rfl (sub_of [0,1] rfl) (dj_gf rfl rfl rfl rfl rfl (sub_of [0,1] rfl) (dj_gf rfl rfl rfl rfl rfl (sub_of [0,1] rfl) (dj_gf rfl rfl rfl rfl rfl (sub_of [0,1] rfl) (dj_gf rfl rfl rfl rfl rfl (sub_of [0,1] rfl) (dj_gf rfl rfl rfl rfl rfl (sub_of [0,1] rfl) (dj_gf rfl rfl rfl rfl rfl (sub_of [0,1] rfl) (dj_gf rfl rfl rfl rfl rfl (sub_of [0,1] rfl) (dj_val rfl rfl (sub_of [0,1] rfl) (fun _ _ h=>r_pick_f rfl rfl h) (dM [0,1] (k:=?_))))))))))))
    refine dj_gt rfl rfl rfl rfl (sub_of [0,1] rfl) (fun a w ha hS=>r_fl (q:=1) (ft:=53) ru112 rfl so53 rfl ha) (dj_gt rfl rfl rfl rfl (sub_of [0,1] rfl) (fun a w ha hS=>r_ldS 0 rfl rfl ag53 rfl rfl ha hS) (dj_gt rfl rfl rfl rfl (sub_of [0,1] rfl) (fun a w ha hS=>r_len ru53 rfl ha) (dj_gt rfl rfl rfl rfl (sub_of [0,1] rfl) (fun a w ha hS=>r_eql rfl rfl ha) (dj_val rfl rfl (sub_of [0,1] rfl) (fun _ _ h=>r_pick_f rfl rfl h) (dM [0,1] (k:=?_))))))
    refine dj_split (t:=75) rfl (fun hg75=>?_) (fun hg75=>?_)
    ·refine dj_gf rfl rfl rfl rfl rfl (sub_of [0,1] rfl) (dj_gf rfl rfl rfl rfl rfl (sub_of [0,1] rfl) (dj_gf rfl rfl rfl rfl rfl (sub_of [0,1] rfl) (dj_gf rfl rfl rfl rfl rfl (sub_of [0,1] rfl) (dj_val rfl rfl (sub_of [0,1] rfl) (fun _ _ h=>r_pick_t rfl rfl h) (K22 (CJ.t [(1,_),(48,_),(49,_),(50,_),(80,_)] (k:=?_)))))))
     refine cj_if_t rfl (sQ fun K26=>cj_reg (jA (k:=K26 (cj_ret ?_))))
     first|exact ej_ret1 results25 rfl fun w' hH hf=>⟨⟨_,rfl,fun h=>absurd h (by decide)⟩,hf⟩|exact ej_ret1 results25 rfl fun w' hH hf=>⟨⟨_,rfl,fun h=>by
      rw[List.take_of_length_le (by omega)]at hT2 hN2
      simp at h hg86
      exact ⟨by omega,by omega,fun i t u ht hu=>hT1 i t u (by have:=(List.getElem?_eq_some_iff.1 hu).1;omega) ht hu,fun i t u ht hu=>hN1 i t u (by have:=(List.getElem?_eq_some_iff.1 hu).1;omega) ht hu,hT2,hN2⟩⟩,hf⟩
    ·refine dj_gt rfl rfl rfl rfl (sub_of [0,1] rfl) (fun a w ha hS=>r_fl (q:=1) (ft:=53) ru112 rfl so53 rfl ha) (dj_gt rfl rfl rfl rfl (sub_of [0,1] rfl) (fun a w ha hS=>r_ldS 0 rfl rfl ag53 rfl rfl ha hS) (dj_gt rfl rfl rfl rfl (sub_of [0,1] rfl) (fun a w ha hS=>r_len ru53 rfl ha) (dj_gt rfl rfl rfl rfl (sub_of [0,1] rfl) (fun a w ha hS=>r_gtr rfl rfl ha) (dj_val rfl rfl (sub_of [0,1] rfl) (fun _ _ h=>r_pick_f rfl rfl h) (K22 ?_)))))
     refine cj_if rfl (fun h80=>?_) (fun h80=>?_)
     ·refine sQ fun K27=>cj_reg (jA (k:=K27 (cj_ret ?_)))
      first|exact ej_ret1 results25 rfl fun w' hH hf=>⟨⟨_,rfl,fun h=>absurd h (by decide)⟩,hf⟩|exact ej_ret1 results25 rfl fun w' hH hf=>⟨⟨_,rfl,fun h=>by
       rw[List.take_of_length_le (by omega)]at hT2 hN2
       simp at h hg86
       exact ⟨by omega,by omega,fun i t u ht hu=>hT1 i t u (by have:=(List.getElem?_eq_some_iff.1 hu).1;omega) ht hu,fun i t u ht hu=>hN1 i t u (by have:=(List.getElem?_eq_some_iff.1 hu).1;omega) ht hu,hT2,hN2⟩⟩,hf⟩
     ·refine cj_skip (K20 (cj_reg (jI (k:=jM (k:=j_nil (ej_then ?_))))))
      refine fun w hH hf=>hKL (m+1) _ w ⟨hm',asc_step (lt:=fun t u=>ltB t.key u.key) hm' hN1 (fun h0=>?_),all_step hm' hN2 ⟨ne_nil_of hg75,le60_of h80⟩⟩ hf hH.2.2.2 (by omega) sR
      first|(simp at hg57;omega)|simpa using hg69
  ·refine cj_exit (K16 (sQ fun K28=>cj_reg (jF 2 ru57 so54 (k:=jH 0 ag54 (k:=jE ru54 (k:=?_))))))
   refine j_val rfl (fun _ _ h=>r_leq rfl rfl h) (jM (k:=?_))
   refine j_split (t:=86) rfl (fun hg86=>?_) (fun hg86=>?_)
   ·refine j_gt rfl rfl (jF 3 ru57 so55 (k:=?_))
    refine j_gt rfl rfl (jH 0 ag55 (k:=?_))
    refine j_gt rfl rfl (jE ru55 (k:=?_))
    refine j_gt rfl rfl (j_val rfl (fun _ _ h=>r_leq rfl rfl h) (jT (k:=jA (k:=K28 (CJ.t [(2,_)] (k:=cj_ret ?_))))))
    first|exact ej_ret1 results25 rfl fun w' hH hf=>⟨⟨_,rfl,fun h=>absurd h (by decide)⟩,hf⟩|exact ej_ret1 results25 rfl fun w' hH hf=>⟨⟨_,rfl,fun h=>by
     rw[List.take_of_length_le (by omega)]at hT2 hN2
     simp at h hg86
     exact ⟨by omega,by omega,fun i t u ht hu=>hT1 i t u (by have:=(List.getElem?_eq_some_iff.1 hu).1;omega) ht hu,fun i t u ht hu=>hN1 i t u (by have:=(List.getElem?_eq_some_iff.1 hu).1;omega) ht hu,hT2,hN2⟩⟩,hf⟩
   ·refine j_gf rfl rfl rfl rfl (j_gf rfl rfl rfl rfl (j_gf rfl rfl rfl rfl (j_gf rfl rfl rfl rfl (jK (k:=jA (k:=K28 (cj_ret ?_)))))))
    first|exact ej_ret1 results25 rfl fun w' hH hf=>⟨⟨_,rfl,fun h=>absurd h (by decide)⟩,hf⟩|exact ej_ret1 results25 rfl fun w' hH hf=>⟨⟨_,rfl,fun h=>by
     rw[List.take_of_length_le (by omega)]at hT2 hN2
     simp at h hg86
     exact ⟨by omega,by omega,fun i t u ht hu=>hT1 i t u (by have:=(List.getElem?_eq_some_iff.1 hu).1;omega) ht hu,fun i t u ht hu=>hN1 i t u (by have:=(List.getElem?_eq_some_iff.1 hu).1;omega) ht hu,hT2,hN2⟩⟩,hf⟩
structure TabP (x:PProf):Prop where
 m:0∉x.mappings.map (·.id)∧(x.mappings.map (·.id)).Nodup∧(x.mappings.map (·.id)).length≤60
 f:0∉x.funcs.map (·.id)∧(x.funcs.map (·.id)).Nodup∧(x.funcs.map (·.id)).length≤60
 l:0∉x.locs.map (·.id)∧(x.locs.map (·.id)).Nodup∧(x.locs.map (·.id)).length≤60
 locs:∀l∈x.locs,(-1≤l.mapping∧l.mapping<x.mappings.length)∧l.lines.length≤60∧∀n∈l.lines, -1≤n.fn∧n.fn<x.funcs.length
theorem ids_step {α:Type} {xs:List α} {g:α→Value} (hk:k<xs.length):(xs.take k).map g++[g xs[k]]=(xs.take (k+1)).map g:=by
 rw[← List.take_append_getElem hk,List.map_append];rfl
theorem map_comp {α β γ:Type} (f:β→γ) (g:α→β) (xs:List α):xs.map (fun x=>f (g x))=(xs.map g).map f:=by simp
set_option maxHeartbeats 1000000 in
theorem tables_c (w:World) (cs:List Value) (x:PProf) (h:RProf w cs x) (hbm:x.mappings.length≤2147483647) (hbl:x.locs.length≤2147483647) (hbf:x.funcs.length≤2147483647):
  Calls Tryz.prog 26 #[.agg cs.toArray] w (Ret fun v w'=>(∃b,v=.bool b∧(b=true→TabP x))∧Fr 0 [] w w'):=by
 obtain ⟨la,ls,lm,ll,lf,lcm,rfl, -, -,hlm,hll,hlf, -, -⟩:=h
 have hKm:=hlm;have hKl:=hll;have hKf:=hlf
 obtain ⟨pm,cm,rfl, -,hxm⟩:=hlm.open
 obtain ⟨pf,cf,rfl, -,hxf⟩:=hlf.open
 obtain ⟨pl,cl,rfl, -,hxl⟩:=hll.open
 refine startJ (args:=[_]) [(0,_)] 0 [] [] func26 rfl ntmps26 rfl rfl .nil ?_
 refine sQ fun K1=>cj_reg (j_boxA (vs:=[_,_,_,_,_,_,_,_,_,_,_,_,_,_]) rfl rfl fun b1=>jA (k:=K1 (sQ fun K2=>cj_reg (jA (k:=jA (k:=jA (k:=K2 (sQ fun K3=>sQ fun K4=>cj_reg ?_))))))))
 refine jF 3 ru31 so24 (k:=jH 0 ag24 (k:=jE ru24 (k:=jM (k:=K4 (cj_block ?_)))))
 refine cj_loop (σ:=Nat×Ent×Option Addr×Nat) (fun s=>[(1,.pointer (some ⟨b1,0,none⟩)),(3,.slice s.2.2.1 s.1 s.2.2.2),(4,.slice none 0 0),(5,.slice none 0 0),(15,.slice pm x.mappings.length cm),(16,.int .i64 (x.mappings.length:Nat)),(17,.int .i64 (s.1:Nat))])
  (fun s=>[s.2.1,⟨b1,31,[la,.string x.deflt,ls,.slice pm x.mappings.length cm,.slice pl x.locs.length cl,.slice pf x.funcs.length cf,lcm,.string x.drop,.string x.keep,.int .i64 x.time,.int .i64 x.dur,.int .i64 x.period,.string x.per.ty,.string x.per.unit],true,true,none⟩])
  (fun s _=>s.1≤x.mappings.length∧Own 71 1 s.2.1 s.2.2.1 s.1 s.2.2.2 ((x.mappings.take s.1).map fun m=>.int .u64 m.id))
  (fun s=>x.mappings.length - s.1) (0,nilE 71,none,0) sR (fun w hH hf=>⟨hH.off,Nat.zero_le _,Own.nil⟩) ?_
 rintro ⟨k,yA,pA,cA⟩ w1 ⟨hk,hA⟩ hf1 hH1 KL hKL
 refine C.begin _ _ hf1 hH1 ?_
 try dsimp only
 refine sQ fun K5=>cj_reg (jS (k:=K5 (sQ fun K6=>?_)))
 refine cj_dec rfl (fun h18=>?_) (fun h18=>?_)
 ·have hk':k<x.mappings.length:=by omega
  obtain ⟨b,o,cs,rfl,hcs,hR,hcell⟩:=hxm k x.mappings[k] (List.getElem?_eq_getElem hk')
  obtain ⟨rfl,hwk, -⟩:=hR
  refine cj_skip (K6 (sQ fun K7=>cj_block (sQ fun K8=>cj_reg (jJ ru24 so73 (k:=?_)))))
  refine j_valw rfl (fun a w ha hH hf=>r_loadA ag73 so73 rfl rfl (hcell w (hf.keepAll (.inr rfl))) ha) (j_allocA (zs:=[(.int .u64 0),(.int .u64 0),(.int .u64 0),(.int .u64 0),(.string ⟨#[]⟩),(.string ⟨#[]⟩),(.bool false),(.bool false),(.bool false),(.bool false)]) zv73 rfl fun b7=>jB [_,_,_,_,_,_,_,_,_,_] [_,_,_] 0 so73 (k:=K8 (cj_reg (jM (k:=jF 0 ru73 so71 (k:=jH 0 ag71 (k:=?_)))))))
  refine j_bslice1 ru84 so71 zv71 rfl rfl rfl rfl rfl fun b24=>?_
  refine j_appO 1 rfl hA ru84 el71 rfl rfl rfl rfl rfl (by omega) rfl fun y25 p25 c25 hO25=>?_
  refine jA (k:=K7 (CJ.t [(1,_),(3,_),(4,_),(5,_),(15,_),(16,_),(17,_)] (k:=cj_reg (jI (k:=jM (k:=j_nil (ej_then ?_)))))))
  exact fun w hH hf=>hKL (k+1,y25,p25,c25) _ w ⟨hk',by rw[← ids_step (g:=fun m=>.int .u64 m.id) hk'];exact hO25⟩ hf hH.2.2.2 (by simp only;omega) sR
 ·have hA':Own 71 1 yA pA k cA (x.mappings.map fun m=>.int .u64 m.id):=by rw[List.take_of_length_le (by omega)]at hA;exact hA
  refine cj_exit (K3 (sQ fun K9=>sQ fun K10=>cj_reg (jF 5 ru31 so26 (k:=jH 1 ag26 (k:=jE ru26 (k:=jM (k:=K10 (cj_block ?_))))))))
  refine cj_loop (σ:=Nat×Ent×Option Addr×Nat) (fun s=>[(1,.pointer (some ⟨b1,0,none⟩)),(3,.slice pA k cA),(4,.slice s.2.2.1 s.1 s.2.2.2),(5,.slice none 0 0),(28,.slice pf x.funcs.length cf),(29,.int .i64 (x.funcs.length:Nat)),(30,.int .i64 (s.1:Nat))])
   (fun s=>[s.2.1,yA,⟨b1,31,[la,.string x.deflt,ls,.slice pm x.mappings.length cm,.slice pl x.locs.length cl,.slice pf x.funcs.length cf,lcm,.string x.drop,.string x.keep,.int .i64 x.time,.int .i64 x.dur,.int .i64 x.period,.string x.per.ty,.string x.per.unit],true,true,none⟩])
   (fun s _=>s.1≤x.funcs.length∧Own 71 1 s.2.1 s.2.2.1 s.1 s.2.2.2 ((x.funcs.take s.1).map fun m=>.int .u64 m.id))
   (fun s=>x.funcs.length - s.1) (0,nilE 71,none,0) sR (fun w hH hf=>⟨hH.off,Nat.zero_le _,Own.nil⟩) ?_
  rintro ⟨m,yB,pB,cB⟩ w2 ⟨hm,hB⟩ hf2 hH2 KL hKL
  refine C.begin _ _ hf2 hH2 ?_
  try dsimp only
  refine sQ fun K11=>cj_reg (jS (k:=K11 (sQ fun K12=>?_)))
  refine cj_dec rfl (fun h31=>?_) (fun h31=>?_)
  ·have hm':m<x.funcs.length:=by omega
   obtain ⟨b,o,cs,rfl,hcs,hR,hcell⟩:=hxf m x.funcs[m] (List.getElem?_eq_getElem hm')
   obtain ⟨rfl,hwk, -⟩:=hR
   refine cj_skip (K12 (sQ fun K13=>cj_block (sQ fun K14=>cj_reg (jJ ru26 so80 (k:=?_)))))
   refine j_valw rfl (fun a w ha hH hf=>r_loadA ag80 so80 rfl rfl (hcell w (hf.keepAll (.inr rfl))) ha) (j_allocA (zs:=[(.int .u64 0),(.string ⟨#[]⟩),(.string ⟨#[]⟩),(.string ⟨#[]⟩),(.int .i64 0)]) zv80 rfl fun b9=>jB [_,_,_,_,_] [_,_,_,_] 0 so80 (k:=K14 (cj_reg (jM (k:=jF 0 ru80 so71 (k:=jH 0 ag71 (k:=?_)))))))
   refine j_bslice1 ru84 so71 zv71 rfl rfl rfl rfl rfl fun b37=>?_
   refine j_appO 1 rfl hB ru84 el71 rfl rfl rfl rfl rfl (by omega) rfl fun y38 p38 c38 hO38=>?_
   refine jA (k:=K13 (CJ.t [(1,_),(3,_),(4,_),(5,_),(28,_),(29,_),(30,_)] (k:=cj_reg (jI (k:=jM (k:=j_nil (ej_then ?_)))))))
   exact fun w hH hf=>hKL (m+1,y38,p38,c38) _ w ⟨hm',by rw[← ids_step (g:=fun m=>.int .u64 m.id) hm'];exact hO38⟩ hf hH.2.2.2 (by simp only;omega) sR
  ·have hB':Own 71 1 yB pB m cB (x.funcs.map fun m=>.int .u64 m.id):=by rw[List.take_of_length_le (by omega)]at hB;exact hB
   refine cj_exit (K9 (sQ fun K15=>sQ fun K16=>cj_reg (jF 4 ru31 so25 (k:=jH 2 ag25 (k:=jE ru25 (k:=jM (k:=K16 (cj_block ?_))))))))
   refine cj_loop (σ:=Nat×Ent×Option Addr×Nat) (fun s=>[(1,.pointer (some ⟨b1,0,none⟩)),(3,.slice pA k cA),(4,.slice pB m cB),(5,.slice s.2.2.1 s.1 s.2.2.2),(41,.slice pl x.locs.length cl),(42,.int .i64 (x.locs.length:Nat)),(43,.int .i64 (s.1:Nat))])
    (fun s=>[s.2.1,yB,yA,⟨b1,31,[la,.string x.deflt,ls,.slice pm x.mappings.length cm,.slice pl x.locs.length cl,.slice pf x.funcs.length cf,lcm,.string x.drop,.string x.keep,.int .i64 x.time,.int .i64 x.dur,.int .i64 x.period,.string x.per.ty,.string x.per.unit],true,true,none⟩])
    (fun s _=>s.1≤x.locs.length∧Own 71 1 s.2.1 s.2.2.1 s.1 s.2.2.2 ((x.locs.take s.1).map fun m=>.int .u64 m.id)∧∀l∈x.locs.take s.1,(-1≤l.mapping∧l.mapping<x.mappings.length)∧l.lines.length≤60∧∀n∈l.lines, -1≤n.fn∧n.fn<x.funcs.length)
    (fun s=>x.locs.length - s.1) (0,nilE 71,none,0) sR (fun w hH hf=>⟨hH.off,Nat.zero_le _,Own.nil,by simp⟩) ?_
   rintro ⟨i,yC,pC,cC⟩ w3 ⟨hi,hC,hL⟩ hf3 hH3 KL hKL
   refine C.begin _ _ hf3 hH3 ?_
   try dsimp only
   refine sQ fun K17=>cj_reg (jS (k:=K17 (sQ fun K18=>?_)))
   refine cj_dec rfl (fun h44=>?_) (fun h44=>?_)
   ·have hi':i<x.locs.length:=by omega
    obtain ⟨b,o,cs,rfl,hcs,hR,hcell⟩:=hxl i x.locs[i] (List.getElem?_eq_getElem hi')
    obtain ⟨l1,rfl,hwk, -, -,hl1⟩:=hR
    obtain ⟨p1,c1,rfl,hs1,hx1⟩:=hl1.open
    refine cj_skip (K18 (sQ fun K19=>cj_block (sQ fun K20=>cj_reg (jJ ru25 so77 (k:=?_)))))
    refine j_valw rfl (fun a w ha hH hf=>r_loadA ag77 so77 rfl rfl (hcell w (hf.keepAll (.inr rfl))) ha) (j_allocA (zs:=[(.int .u64 0),(.int .i64 0),(.int .u64 0),(.slice none 0 0)]) zv77 rfl fun b11=>jB [_,_,_,_] [_,_,_,_,_] 0 so77 (k:=K20 (sQ fun K21=>cj_reg (jM (k:=jF 0 ru77 so71 (k:=jH 0 ag71 (k:=?_)))))))
    refine j_bslice1 ru84 so71 zv71 rfl rfl rfl rfl rfl fun b50=>?_
    refine j_appO 1 rfl hC ru84 el71 rfl rfl rfl rfl rfl (by omega) rfl fun y51 p51 c51 hO51=>?_
    refine jA (k:=K21 (CJ.t [(1,_),(3,_),(4,_),(5,_),(11,_),(41,_),(42,_),(43,_)] (k:=sQ fun K22=>sQ fun K23=>cj_reg (jF 1 ru77 so3 (k:=jH 0 ag3 (k:=jS (k:=jM (k:=?_))))))))
    refine j_split (t:=55) rfl (fun hg55=>?_) (fun hg55=>?_)
    ·refine j_gf rfl rfl rfl rfl (j_gf rfl rfl rfl rfl (j_gf rfl rfl rfl rfl (j_gf rfl rfl rfl rfl (j_gf rfl rfl rfl rfl (j_gf rfl rfl rfl rfl (jT (k:=jM (k:=?_))))))))
     refine j_gf rfl rfl rfl rfl (j_gf rfl rfl rfl rfl (j_gf rfl rfl rfl rfl (j_gf rfl rfl rfl rfl (jT (k:=K23 (CJ.t [(1,_),(3,_),(4,_),(5,_),(11,_),(41,_),(42,_),(43,_),(68,_)] (k:=?_)))))))
     refine cj_if_t rfl (sQ fun K24=>cj_reg (jA (k:=K24 (cj_ret ?_))))
     first|exact ej_ret1 results26 rfl fun w' hH hf=>⟨⟨_,rfl,fun h=>absurd h (by decide)⟩,hf⟩|exact ej_ret1 results26 rfl fun w' hH hf=>⟨⟨_,rfl,fun h=>by subst h;exact ⟨hb90 hg91,hb93 hg95,hb97 rfl,by rw[List.take_of_length_le (by omega)]at hL;exact hL⟩⟩,hf⟩
    ·refine j_gt rfl rfl (jF 1 ru77 so3 (k:=?_))
     refine j_gt rfl rfl (jH 0 ag3 (k:=?_))
     refine j_gt rfl rfl (jF 3 ru31 so24 (k:=?_))
     refine j_gt rfl rfl (jH 4 ag24 (k:=?_))
     refine j_gt rfl rfl (jE ru24 (k:=?_))
     refine j_gt rfl rfl (j_val rfl (fun _ _ h=>r_geq rfl rfl h) (jK (k:=jM (k:=?_))))
     refine j_split (t:=63) rfl (fun hg63=>?_) (fun hg63=>?_)
     ·refine j_gf rfl rfl rfl rfl (j_gf rfl rfl rfl rfl (j_gf rfl rfl rfl rfl (j_gf rfl rfl rfl rfl (jT (k:=K23 (CJ.t [(1,_),(3,_),(4,_),(5,_),(11,_),(41,_),(42,_),(43,_),(68,_)] (k:=?_)))))))
      refine cj_if_t rfl (sQ fun K25=>cj_reg (jA (k:=K25 (cj_ret ?_))))
      first|exact ej_ret1 results26 rfl fun w' hH hf=>⟨⟨_,rfl,fun h=>absurd h (by decide)⟩,hf⟩|exact ej_ret1 results26 rfl fun w' hH hf=>⟨⟨_,rfl,fun h=>by subst h;exact ⟨hb90 hg91,hb93 hg95,hb97 rfl,by rw[List.take_of_length_le (by omega)]at hL;exact hL⟩⟩,hf⟩
     ·refine j_gt rfl rfl (jF 3 ru77 so75 (k:=?_))
      refine j_gt rfl rfl (jH 0 ag75 (k:=?_))
      refine j_gt rfl rfl (jE ru75 (k:=?_))
      refine j_gt rfl rfl (jG (k:=jK (k:=K23 ?_)))
      refine cj_if rfl (fun h68=>?_) (fun h68=>?_)
      ·refine sQ fun K26=>cj_reg (jA (k:=K26 (CJ.t [(2,_)] (k:=cj_ret ?_))))
       first|exact ej_ret1 results26 rfl fun w' hH hf=>⟨⟨_,rfl,fun h=>absurd h (by decide)⟩,hf⟩|exact ej_ret1 results26 rfl fun w' hH hf=>⟨⟨_,rfl,fun h=>by subst h;exact ⟨hb90 hg91,hb93 hg95,hb97 rfl,by rw[List.take_of_length_le (by omega)]at hL;exact hL⟩⟩,hf⟩
      ·refine cj_skip (K22 (sQ fun K27=>cj_reg (jF 3 ru77 so75 (k:=jH 0 ag75 (k:=jE ru75 (k:=jM (k:=K27 (cj_block ?_))))))))
       refine cj_loop (σ:=Nat) (fun j=>[(1,.pointer (some ⟨b1,0,none⟩)),(3,.slice pA k cA),(4,.slice pB m cB),(5,.slice p51 (i+1) c51),(41,.slice (some ⟨b,o,none⟩) x.locs.length cl),(42,.int .i64 (x.locs.length:Nat)),(43,.int .i64 (i:Nat)),(70,.slice p1 x.locs[i].lines.length c1),(71,.int .i64 (x.locs[i].lines.length:Nat)),(72,.int .i64 (j:Nat))])
        (fun _=>[y51,yB,yA,⟨b1,31,[la,.string x.deflt,ls,.slice pm x.mappings.length cm,.slice (some ⟨b,o,none⟩) x.locs.length cl,.slice pf x.funcs.length cf,lcm,.string x.drop,.string x.keep,.int .i64 x.time,.int .i64 x.dur,.int .i64 x.period,.string x.per.ty,.string x.per.unit],true,true,none⟩])
        (fun j _=>j≤x.locs[i].lines.length∧∀n∈x.locs[i].lines.take j, -1≤n.fn∧n.fn<x.funcs.length)
        (fun j=>x.locs[i].lines.length - j) 0 sR (fun w hH hf=>⟨hH.2.2.2,Nat.zero_le _,by simp⟩) ?_
       rintro j w4 ⟨hj,hN⟩ hf4 hH4 KL2 hKL2
       refine C.begin _ _ hf4 hH4 ?_
       refine sQ fun K28=>cj_reg (jS (k:=K28 (sQ fun K29=>?_)))
       refine cj_dec rfl (fun h73=>?_) (fun h73=>?_)
       ·have hj':j<x.locs[i].lines.length:=by omega
        obtain ⟨b',o',cs',rfl, -,hR2,hcell2⟩:=hx1 j x.locs[i].lines[j] (List.getElem?_eq_getElem hj')
        obtain ⟨rfl,hwn, -⟩:=hR2
        refine cj_skip (K29 (sQ fun K30=>cj_block (sQ fun K31=>cj_reg (jJ ru75 so114 (k:=?_)))))
        refine j_valw rfl (fun a w ha hH hf=>r_loadA ag114 so114 rfl rfl (hcell2 w (hf.keepAll (.inr rfl))) ha) (j_allocA (zs:=[(.int .i64 0),(.int .i64 0)]) zv114 rfl fun b13=>jB [_,_] [_,_,_,_,_] 0 so114 (k:=K31 (sQ fun K32=>cj_reg (jF 0 ru114 so3 (k:=jH 0 ag3 (k:=jS (k:=jM (k:=?_))))))))
        refine j_split (t:=79) rfl (fun hg79=>?_) (fun hg79=>?_)
        ·refine j_gf rfl rfl rfl rfl (j_gf rfl rfl rfl rfl (j_gf rfl rfl rfl rfl (j_gf rfl rfl rfl rfl (j_gf rfl rfl rfl rfl (j_gf rfl rfl rfl rfl (jT (k:=K32 (CJ.t [(1,_),(3,_),(4,_),(5,_),(41,_),(42,_),(43,_),(70,_),(71,_),(72,_),(86,_)] (k:=?_)))))))))
         refine cj_if_t rfl (sQ fun K33=>cj_reg (jA (k:=K33 (cj_ret ?_))))
         first|exact ej_ret1 results26 rfl fun w' hH hf=>⟨⟨_,rfl,fun h=>absurd h (by decide)⟩,hf⟩|exact ej_ret1 results26 rfl fun w' hH hf=>⟨⟨_,rfl,fun h=>by subst h;exact ⟨hb90 hg91,hb93 hg95,hb97 rfl,by rw[List.take_of_length_le (by omega)]at hL;exact hL⟩⟩,hf⟩
        ·refine j_gt rfl rfl (jF 0 ru114 so3 (k:=?_))
         refine j_gt rfl rfl (jH 0 ag3 (k:=?_))
         refine j_gt rfl rfl (jF 5 ru31 so26 (k:=?_))
         refine j_gt rfl rfl (jH 4 ag26 (k:=?_))
         refine j_gt rfl rfl (jE ru26 (k:=?_))
         refine j_gt rfl rfl (j_val rfl (fun _ _ h=>r_geq rfl rfl h) (jK (k:=K32 (CJ.t [(1,_),(3,_),(4,_),(5,_),(41,_),(42,_),(43,_),(70,_),(71,_),(72,_),(86,_)] (k:=?_)))))
         refine cj_if rfl (fun h86=>?_) (fun h86=>?_)
         ·refine sQ fun K34=>cj_reg (jA (k:=K34 (cj_ret ?_)))
          first|exact ej_ret1 results26 rfl fun w' hH hf=>⟨⟨_,rfl,fun h=>absurd h (by decide)⟩,hf⟩|exact ej_ret1 results26 rfl fun w' hH hf=>⟨⟨_,rfl,fun h=>by subst h;exact ⟨hb90 hg91,hb93 hg95,hb97 rfl,by rw[List.take_of_length_le (by omega)]at hL;exact hL⟩⟩,hf⟩
         ·refine cj_skip (K30 (cj_reg (jI (k:=jM (k:=j_nil (ej_then ?_))))))
          exact fun w hH hf=>hKL2 (j+1) _ w ⟨hj',all_step hj' hN (by simp at hg79 h86;omega)⟩ hf hH.2.2.2 (by omega) sR
       ·refine cj_exit (K19 (cj_reg (jI (k:=jM (k:=j_nil (ej_then ?_))))))
        exact fun w hH hf=>hKL (i+1,y51,p51,c51) _ w ⟨hi',by rw[← ids_step (g:=fun m=>.int .u64 m.id) hi'];exact hO51,all_step hi' hL (by rw[List.take_of_length_le (by omega)]at hN;refine ⟨?_,le60_of h68,hN⟩;simp at hg55 hg63;omega)⟩ hf hH (by simp only;omega) sR
   ·have hC':Own 71 1 yC pC i cC (x.locs.map fun m=>.int .u64 m.id):=by rw[List.take_of_length_le (by omega)]at hC;exact hC
    refine cj_exit (K15 (sQ fun K35=>cj_reg (jM (k:=?_))))
    refine j_callQ (φ:=fun v=>∃b,v=.bool b∧(b=true→_)) call62 rfl rfl (fun w hH hf=>ids_c w _ (x.mappings.map (·.id)) (Own.lay (g:=.int .u64) (by rw[← map_comp];exact hA') hH (i:=2) rfl (by omega) (by
     intro n hn
     obtain ⟨q,hq,rfl⟩:=List.mem_map.1 hn
     exact ⟨rfl,hKm.each (fun c y hy=>hy.2.1) q hq⟩))) ?_
    rintro _ ⟨b90,rfl,hb90⟩
    refine jM (k:=?_)
    refine j_split (t:=91) rfl (fun hg91=>?_) (fun hg91=>?_)
    ·refine j_gt rfl rfl (jM (k:=?_))
     refine j_gt rfl rfl ?_
     refine j_callQ (φ:=fun v=>∃b,v=.bool b∧(b=true→_)) call62 rfl rfl (fun w hH hf=>ids_c w _ (x.funcs.map (·.id)) (Own.lay (g:=.int .u64) (by rw[← map_comp];exact hB') hH (i:=1) rfl (by omega) (by
      intro n hn
      obtain ⟨q,hq,rfl⟩:=List.mem_map.1 hn
      exact ⟨rfl,hKf.each (fun c y hy=>hy.2.1) q hq⟩))) ?_
     rintro _ ⟨b93,rfl,hb93⟩
     refine jT (k:=jM (k:=?_))
     refine j_split (t:=95) rfl (fun hg95=>?_) (fun hg95=>?_)
     ·refine j_gt rfl rfl (jM (k:=?_))
      refine j_gt rfl rfl ?_
      refine j_callQ (φ:=fun v=>∃b,v=.bool b∧(b=true→_)) call62 rfl rfl (fun w hH hf=>ids_c w _ (x.locs.map (·.id)) (Own.lay (g:=.int .u64) (by rw[← map_comp];exact hC') hH (i:=0) rfl (by omega) (by
       intro n hn
       obtain ⟨q,hq,rfl⟩:=List.mem_map.1 hn
       exact ⟨rfl,hKl.each (fun c y hy=>by obtain ⟨_,_,h,_⟩:=hy;exact h) q hq⟩))) ?_
      rintro _ ⟨b97,rfl,hb97⟩
      refine jT (k:=jA (k:=K35 (CJ.t [(2,_)] (k:=cj_ret ?_))))
      first|exact ej_ret1 results26 rfl fun w' hH hf=>⟨⟨_,rfl,fun h=>absurd h (by decide)⟩,hf⟩|exact ej_ret1 results26 rfl fun w' hH hf=>⟨⟨_,rfl,fun h=>by subst h;exact ⟨hb90 hg91,hb93 hg95,hb97 rfl,by rw[List.take_of_length_le (by omega)]at hL;exact hL⟩⟩,hf⟩
     ·refine j_gf rfl rfl rfl rfl (j_gf rfl rfl rfl rfl (jK (k:=jA (k:=K35 (cj_ret ?_)))))
      first|exact ej_ret1 results26 rfl fun w' hH hf=>⟨⟨_,rfl,fun h=>absurd h (by decide)⟩,hf⟩|exact ej_ret1 results26 rfl fun w' hH hf=>⟨⟨_,rfl,fun h=>by subst h;exact ⟨hb90 hg91,hb93 hg95,hb97 rfl,by rw[List.take_of_length_le (by omega)]at hL;exact hL⟩⟩,hf⟩
    ·refine j_gf rfl rfl rfl rfl (j_gf rfl rfl rfl rfl (jK (k:=jM (k:=?_))))
     refine j_gf rfl rfl rfl rfl (j_gf rfl rfl rfl rfl (jK (k:=jA (k:=K35 (CJ.t [(2,_)] (k:=cj_ret ?_))))))
     first|exact ej_ret1 results26 rfl fun w' hH hf=>⟨⟨_,rfl,fun h=>absurd h (by decide)⟩,hf⟩|exact ej_ret1 results26 rfl fun w' hH hf=>⟨⟨_,rfl,fun h=>by subst h;exact ⟨hb90 hg91,hb93 hg95,hb97 rfl,by rw[List.take_of_length_le (by omega)]at hL;exact hL⟩⟩,hf⟩
structure WellP (x:PProf):Prop where
 samples:∀s∈x.samples,s.values.length=x.types.length∧x.types.length≠0∧s.stack.length≤60∧LabP s∧∀k∈s.stack,0≤k∧k<x.locs.length
 nsam:x.samples.length≤60
 ntyp:x.types.length≤60
 ncom:x.comments.length≤60
 tab:TabP x
theorem eqz_of {a:Nat} (h:decide ((a:Int)≠(b:Int))=false):a=b:=by simp at h;omega
theorem nez_of {a:Nat} (h:decide ((a:Int)=0)=false):a≠0:=by simp at h;omega
set_option maxHeartbeats 1000000 in
theorem well_c (w:World) (cs:List Value) (x:PProf) (h:RProf w cs x) (hbm:x.mappings.length≤2147483647) (hbl:x.locs.length≤2147483647) (hbf:x.funcs.length≤2147483647):
  Calls Tryz.prog 8 #[.agg cs.toArray] w (Ret fun v w'=>(∃b,v=.bool b∧(b=true→WellP x))∧Fr 0 [] w w'):=by
 have hP:=h
 obtain ⟨la,ls,lm,ll,lf,lcm,rfl,hla,hls,hlm,hll,hlf,hlc, -⟩:=h
 obtain ⟨pt,ct,rfl,hbt, -⟩:=hla.open
 obtain ⟨ps,cs',rfl,hbs,hxs⟩:=hls.open
 obtain ⟨pl,cl,rfl, -, -⟩:=hll.open
 obtain ⟨pc,cc,rfl,hbc, -⟩:=hlc.open
 refine startJ (args:=[_]) [(0,_)] 0 [] [] func8 rfl ntmps8 rfl rfl .nil ?_
 refine sQ fun K1=>cj_reg (j_boxA (vs:=[_,_,_,_,_,_,_,_,_,_,_,_,_,_]) rfl rfl fun b1=>jA (k:=K1 (sQ fun K2=>sQ fun K3=>cj_reg (jF 2 ru31 so23 (k:=jH 0 ag23 (k:=jE ru23 (k:=jM (k:=K3 (cj_block ?_)))))))))
 refine cj_loop (σ:=Nat) (fun k=>[(1,.pointer (some ⟨b1,0,none⟩)),(8,.slice ps x.samples.length cs'),(9,.int .i64 (x.samples.length:Nat)),(10,.int .i64 (k:Nat))])
  (fun _=>[⟨b1,31,[.slice pt x.types.length ct,.string x.deflt,.slice ps x.samples.length cs',lm,.slice pl x.locs.length cl,lf,.slice pc x.comments.length cc,.string x.drop,.string x.keep,.int .i64 x.time,.int .i64 x.dur,.int .i64 x.period,.string x.per.ty,.string x.per.unit],true,true,none⟩])
  (fun k _=>k≤x.samples.length∧∀s∈x.samples.take k,s.values.length=x.types.length∧x.types.length≠0∧s.stack.length≤60∧LabP s∧∀k∈s.stack,0≤k∧k<x.locs.length)
  (fun k=>x.samples.length - k) 0 sR (fun w hH hf=>⟨hH,Nat.zero_le _,by simp⟩) ?_
 rintro k w1 ⟨hk,hS⟩ hf1 hH1 KL hKL
 refine C.begin _ _ hf1 hH1 ?_
 refine sQ fun K4=>cj_reg (jS (k:=K4 (sQ fun K5=>?_)))
 refine cj_dec rfl (fun h11=>?_) (fun h11=>?_)
 ·have hk':k<x.samples.length:=by omega
  obtain ⟨b,o,cs,rfl,hcs,hR,hcell⟩:=hxs k x.samples[k] (List.getElem?_eq_getElem hk')
  have hR':=hR
  obtain ⟨l1,l2,l3,l4,rfl,hl1,hl2,hl3,hl4⟩:=hR
  obtain ⟨p1,c1,rfl,hs1,hx1⟩:=hl1.open
  obtain ⟨p2,c2,rfl,hs2, -⟩:=hl2.open
  obtain ⟨p3,c3,rfl, -, -⟩:=hl3.open
  obtain ⟨p4,c4,rfl, -, -⟩:=hl4.open
  refine cj_skip (K5 (sQ fun K6=>cj_block (sQ fun K7=>cj_reg (jJ ru23 so57 (k:=?_)))))
  refine j_valw rfl (fun a w ha hH hf=>r_loadA ag57 so57 rfl rfl (hcell w (hf.keepAll (.inr rfl))) ha) (j_allocA (zs:=[(.slice none 0 0),(.slice none 0 0),(.slice none 0 0),(.slice none 0 0)]) zv57 rfl fun b4=>jB [_,_,_,_] [_,_] 0 so57 (k:=K7 (sQ fun K8=>sQ fun K9=>cj_reg (jF 1 ru57 so53 (k:=jH 0 ag53 (k:=jE ru53 (k:=jF 0 ru31 so22 (k:=jH 1 ag22 (k:=jE ru22 (k:=?_))))))))))
  refine j_val rfl (fun _ _ h=>r_neq rfl rfl h) (jM (k:=?_))
  refine j_split (t:=21) rfl (fun hg21=>?_) (fun hg21=>?_)
  ·refine j_gf rfl rfl rfl rfl (j_gf rfl rfl rfl rfl (j_gf rfl rfl rfl rfl (j_gf rfl rfl rfl rfl (jT (k:=jM (k:=?_))))))
   refine j_gf rfl rfl rfl rfl (j_gf rfl rfl rfl rfl (j_gf rfl rfl rfl rfl (j_gf rfl rfl rfl rfl (jT (k:=jM (k:=?_))))))
   refine j_gf rfl rfl rfl rfl (j_gf rfl rfl rfl rfl (j_gf rfl rfl rfl rfl (jT (k:=K9 (CJ.t [(1,_),(4,_),(8,_),(9,_),(10,_),(37,_)] (k:=?_))))))
   refine cj_if_t rfl (sQ fun K10=>cj_reg (jA (k:=K10 (cj_ret ?_))))
   first|exact ej_ret1 results8 rfl fun w' hH hf=>⟨⟨_,rfl,fun h=>absurd h (by decide)⟩,hf⟩|exact ej_ret1 results8 rfl fun w' hH hf=>⟨⟨_,rfl,fun h=>by subst h;simp at hg60 hg66 hg72;exact ⟨by rw[List.take_of_length_le (by omega)]at hS;exact hS,by omega,by omega,by omega,hb74 rfl⟩⟩,hf⟩
  ·refine j_gt rfl rfl (jF 0 ru31 so22 (k:=?_))
   refine j_gt rfl rfl (jH 1 ag22 (k:=?_))
   refine j_gt rfl rfl (jE ru22 (k:=?_))
   refine j_gt rfl rfl (jQ (k:=jK (k:=jM (k:=?_))))
   refine j_split (t:=27) rfl (fun hg27=>?_) (fun hg27=>?_)
   ·refine j_gf rfl rfl rfl rfl (j_gf rfl rfl rfl rfl (j_gf rfl rfl rfl rfl (j_gf rfl rfl rfl rfl (jT (k:=jM (k:=?_))))))
    refine j_gf rfl rfl rfl rfl (j_gf rfl rfl rfl rfl (j_gf rfl rfl rfl rfl (jT (k:=K9 (CJ.t [(1,_),(4,_),(8,_),(9,_),(10,_),(37,_)] (k:=?_))))))
    refine cj_if_t rfl (sQ fun K11=>cj_reg (jA (k:=K11 (cj_ret ?_))))
    first|exact ej_ret1 results8 rfl fun w' hH hf=>⟨⟨_,rfl,fun h=>absurd h (by decide)⟩,hf⟩|exact ej_ret1 results8 rfl fun w' hH hf=>⟨⟨_,rfl,fun h=>by subst h;simp at hg60 hg66 hg72;exact ⟨by rw[List.take_of_length_le (by omega)]at hS;exact hS,by omega,by omega,by omega,hb74 rfl⟩⟩,hf⟩
   ·refine j_gt rfl rfl (jF 0 ru57 so32 (k:=?_))
    refine j_gt rfl rfl (jH 0 ag32 (k:=?_))
    refine j_gt rfl rfl (jE ru32 (k:=?_))
    refine j_gt rfl rfl (jG (k:=jK (k:=jM (k:=?_))))
    refine j_split (t:=33) rfl (fun hg33=>?_) (fun hg33=>?_)
    ·refine j_gf rfl rfl rfl rfl (j_gf rfl rfl rfl rfl (j_gf rfl rfl rfl rfl (jT (k:=K9 (CJ.t [(1,_),(4,_),(8,_),(9,_),(10,_),(37,_)] (k:=?_))))))
     refine cj_if_t rfl (sQ fun K12=>cj_reg (jA (k:=K12 (cj_ret ?_))))
     first|exact ej_ret1 results8 rfl fun w' hH hf=>⟨⟨_,rfl,fun h=>absurd h (by decide)⟩,hf⟩|exact ej_ret1 results8 rfl fun w' hH hf=>⟨⟨_,rfl,fun h=>by subst h;simp at hg60 hg66 hg72;exact ⟨by rw[List.take_of_length_le (by omega)]at hS;exact hS,by omega,by omega,by omega,hb74 rfl⟩⟩,hf⟩
    ·refine j_gt rfl rfl (j_valw rfl (fun a w ha hH hf=>r_ldA (vs:=[_,_,_,_]) 0 rfl rfl ag57 so57 rfl rfl rfl ha hH) (j_gt rfl rfl ?_))
     refine j_callQ (φ:=fun v=>∃b,v=.bool b∧(b=true→LabP x.samples[k])) call25 rfl rfl (fun w hH hf=>labeled_c w _ _ (RSample.keep (hf.keepAll (.inr rfl)) _ _ hR')) ?_
     rintro _ ⟨b35,rfl,hb35⟩
     refine j_gt rfl rfl (jU (k:=jK (k:=K9 ?_)))
     refine cj_if rfl (fun h37=>?_) (fun h37=>?_)
     ·refine sQ fun K13=>cj_reg (jA (k:=K13 (cj_ret ?_)))
      first|exact ej_ret1 results8 rfl fun w' hH hf=>⟨⟨_,rfl,fun h=>absurd h (by decide)⟩,hf⟩|exact ej_ret1 results8 rfl fun w' hH hf=>⟨⟨_,rfl,fun h=>by subst h;simp at hg60 hg66 hg72;exact ⟨by rw[List.take_of_length_le (by omega)]at hS;exact hS,by omega,by omega,by omega,hb74 rfl⟩⟩,hf⟩
     ·refine cj_skip (K8 (sQ fun K14=>cj_reg (jF 0 ru57 so32 (k:=jH 0 ag32 (k:=jE ru32 (k:=jM (k:=K14 (CJ.t [(1,_),(8,_),(9,_),(10,_),(39,_),(40,_),(41,_)] (k:=cj_block ?_)))))))))
      refine cj_loop (σ:=Nat) (fun j=>[(1,.pointer (some ⟨b1,0,none⟩)),(8,.slice (some ⟨b,o,none⟩) x.samples.length cs'),(9,.int .i64 (x.samples.length:Nat)),(10,.int .i64 (k:Nat)),(39,.slice p1 x.samples[k].stack.length c1),(40,.int .i64 (x.samples[k].stack.length:Nat)),(41,.int .i64 (j:Nat))])
       (fun _=>[⟨b1,31,[.slice pt x.types.length ct,.string x.deflt,.slice (some ⟨b,o,none⟩) x.samples.length cs',lm,.slice pl x.locs.length cl,lf,.slice pc x.comments.length cc,.string x.drop,.string x.keep,.int .i64 x.time,.int .i64 x.dur,.int .i64 x.period,.string x.per.ty,.string x.per.unit],true,true,none⟩])
       (fun j _=>j≤x.samples[k].stack.length∧∀n∈x.samples[k].stack.take j,0≤n∧n<x.locs.length)
       (fun j=>x.samples[k].stack.length - j) 0 sR (fun w hH hf=>⟨hH.2.2.2,Nat.zero_le _,by simp⟩) ?_
      rintro j w2 ⟨hj,hN⟩ hf2 hH2 KL2 hKL2
      refine C.begin _ _ hf2 hH2 ?_
      refine sQ fun K15=>cj_reg (jS (k:=K15 (sQ fun K16=>?_)))
      refine cj_dec rfl (fun h42=>?_) (fun h42=>?_)
      ·have hj':j<x.samples[k].stack.length:=by omega
       obtain ⟨b',o',cs2,rfl, -,hR2,hcell2⟩:=hx1 j x.samples[k].stack[j] (List.getElem?_eq_getElem hj')
       obtain ⟨rfl,hwn⟩:=hR2
       refine cj_skip (K16 (sQ fun K17=>cj_block (sQ fun K18=>cj_reg (jJ ru32 so3 (k:=?_)))))
       refine j_valw rfl (fun a w ha hH hf=>r_load ag3 rfl (hcell2 w (hf.keepAll (.inr rfl)) 0 _ rfl) ha) (jA (k:=K18 (sQ fun K19=>cj_reg (jM (k:=jS (k:=jM (k:=?_)))))))
       refine j_split (t:=47) rfl (fun hg47=>?_) (fun hg47=>?_)
       ·refine j_gf rfl rfl rfl rfl (j_gf rfl rfl rfl rfl (j_gf rfl rfl rfl rfl (j_gf rfl rfl rfl rfl (j_gf rfl rfl rfl rfl (jT (k:=K19 (CJ.t [(1,_),(8,_),(9,_),(10,_),(39,_),(40,_),(41,_),(53,_)] (k:=?_))))))))
        refine cj_if_t rfl (sQ fun K20=>cj_reg (jA (k:=K20 (cj_ret ?_))))
        first|exact ej_ret1 results8 rfl fun w' hH hf=>⟨⟨_,rfl,fun h=>absurd h (by decide)⟩,hf⟩|exact ej_ret1 results8 rfl fun w' hH hf=>⟨⟨_,rfl,fun h=>by subst h;simp at hg60 hg66 hg72;exact ⟨by rw[List.take_of_length_le (by omega)]at hS;exact hS,by omega,by omega,by omega,hb74 rfl⟩⟩,hf⟩
       ·refine j_gt rfl rfl (jM (k:=?_))
        refine j_gt rfl rfl (jF 4 ru31 so25 (k:=?_))
        refine j_gt rfl rfl (jH 0 ag25 (k:=?_))
        refine j_gt rfl rfl (jE ru25 (k:=?_))
        refine j_gt rfl rfl (j_val rfl (fun _ _ h=>r_geq rfl rfl h) (jK (k:=K19 (CJ.t [(1,_),(8,_),(9,_),(10,_),(39,_),(40,_),(41,_),(53,_)] (k:=?_)))))
        refine cj_if rfl (fun h53=>?_) (fun h53=>?_)
        ·refine sQ fun K21=>cj_reg (jA (k:=K21 (cj_ret ?_)))
         first|exact ej_ret1 results8 rfl fun w' hH hf=>⟨⟨_,rfl,fun h=>absurd h (by decide)⟩,hf⟩|exact ej_ret1 results8 rfl fun w' hH hf=>⟨⟨_,rfl,fun h=>by subst h;simp at hg60 hg66 hg72;exact ⟨by rw[List.take_of_length_le (by omega)]at hS;exact hS,by omega,by omega,by omega,hb74 rfl⟩⟩,hf⟩
        ·refine cj_skip (K17 (cj_reg (jI (k:=jM (k:=j_nil (ej_then ?_))))))
         exact fun w hH hf=>hKL2 (j+1) _ w ⟨hj',all_step hj' hN (by simp at hg47 h53;omega)⟩ hf hH (by omega) sR
      ·refine cj_exit (K6 (cj_reg (jI (k:=jM (k:=j_nil (ej_then ?_))))))
       exact fun w hH hf=>hKL (k+1) _ w ⟨hk',all_step hk' hS (by rw[List.take_of_length_le (by omega)]at hN;exact ⟨eqz_of hg21,nez_of hg27,le60_of hg33,hb35 (by simpa using h37),hN⟩)⟩ hf hH (by omega) sR
 ·refine cj_exit (K2 (sQ fun K22=>cj_reg (jF 2 ru31 so23 (k:=jH 0 ag23 (k:=jE ru23 (k:=?_))))))
  refine j_val rfl (fun _ _ h=>r_leq rfl rfl h) (jM (k:=?_))
  refine j_split (t:=60) rfl (fun hg60=>?_) (fun hg60=>?_)
  ·refine j_gt rfl rfl (jF 0 ru31 so22 (k:=?_))
   refine j_gt rfl rfl (jH 0 ag22 (k:=?_))
   refine j_gt rfl rfl (jE ru22 (k:=?_))
   refine j_gt rfl rfl (j_val rfl (fun _ _ h=>r_leq rfl rfl h) (jT (k:=jM (k:=?_))))
   refine j_split (t:=66) rfl (fun hg66=>?_) (fun hg66=>?_)
   ·refine j_gt rfl rfl (jF 6 ru31 so27 (k:=?_))
    refine j_gt rfl rfl (jH 0 ag27 (k:=?_))
    refine j_gt rfl rfl (jE ru27 (k:=?_))
    refine j_gt rfl rfl (j_val rfl (fun _ _ h=>r_leq rfl rfl h) (jT (k:=jM (k:=?_))))
    refine j_split (t:=72) rfl (fun hg72=>?_) (fun hg72=>?_)
    ·refine j_gt rfl rfl (j_valw rfl (fun a w ha hH hf=>r_ldA (vs:=[_,_,_,_,_,_,_,_,_,_,_,_,_,_]) 0 rfl rfl ag31 so31 rfl rfl rfl ha hH) (j_gt rfl rfl ?_))
     refine j_callQ (φ:=fun v=>∃b,v=.bool b∧(b=true→TabP x)) call26 rfl rfl (fun w hH hf=>tables_c w _ _ (RProf.keep (hf.keepAll (.inr rfl)) _ _ hP) hbm hbl hbf) ?_
     rintro _ ⟨b74,rfl,hb74⟩
     refine jT (k:=jA (k:=K22 (CJ.t [(2,_)] (k:=cj_ret ?_))))
     first|exact ej_ret1 results8 rfl fun w' hH hf=>⟨⟨_,rfl,fun h=>absurd h (by decide)⟩,hf⟩|exact ej_ret1 results8 rfl fun w' hH hf=>⟨⟨_,rfl,fun h=>by subst h;simp at hg60 hg66 hg72;exact ⟨by rw[List.take_of_length_le (by omega)]at hS;exact hS,by omega,by omega,by omega,hb74 rfl⟩⟩,hf⟩
    ·refine j_gf rfl rfl rfl rfl (j_gf rfl rfl rfl rfl (jK (k:=jA (k:=K22 (cj_ret ?_)))))
     first|exact ej_ret1 results8 rfl fun w' hH hf=>⟨⟨_,rfl,fun h=>absurd h (by decide)⟩,hf⟩|exact ej_ret1 results8 rfl fun w' hH hf=>⟨⟨_,rfl,fun h=>by subst h;simp at hg60 hg66 hg72;exact ⟨by rw[List.take_of_length_le (by omega)]at hS;exact hS,by omega,by omega,by omega,hb74 rfl⟩⟩,hf⟩
   ·refine j_gf rfl rfl rfl rfl (j_gf rfl rfl rfl rfl (j_gf rfl rfl rfl rfl (j_gf rfl rfl rfl rfl (jK (k:=jM (k:=?_))))))
    refine j_gf rfl rfl rfl rfl (j_gf rfl rfl rfl rfl (jK (k:=jA (k:=K22 (CJ.t [(2,_)] (k:=cj_ret ?_))))))
    first|exact ej_ret1 results8 rfl fun w' hH hf=>⟨⟨_,rfl,fun h=>absurd h (by decide)⟩,hf⟩|exact ej_ret1 results8 rfl fun w' hH hf=>⟨⟨_,rfl,fun h=>by subst h;simp at hg60 hg66 hg72;exact ⟨by rw[List.take_of_length_le (by omega)]at hS;exact hS,by omega,by omega,by omega,hb74 rfl⟩⟩,hf⟩
  ·refine j_gf rfl rfl rfl rfl (j_gf rfl rfl rfl rfl (j_gf rfl rfl rfl rfl (j_gf rfl rfl rfl rfl (jK (k:=jM (k:=?_))))))
   refine j_gf rfl rfl rfl rfl (j_gf rfl rfl rfl rfl (j_gf rfl rfl rfl rfl (j_gf rfl rfl rfl rfl (jK (k:=jM (k:=?_))))))
   refine j_gf rfl rfl rfl rfl (j_gf rfl rfl rfl rfl (jK (k:=jA (k:=K22 (CJ.t [(2,_)] (k:=cj_ret ?_))))))
   first|exact ej_ret1 results8 rfl fun w' hH hf=>⟨⟨_,rfl,fun h=>absurd h (by decide)⟩,hf⟩|exact ej_ret1 results8 rfl fun w' hH hf=>⟨⟨_,rfl,fun h=>by subst h;simp at hg60 hg66 hg72;exact ⟨by rw[List.take_of_length_le (by omega)]at hS;exact hS,by omega,by omega,by omega,hb74 rfl⟩⟩,hf⟩
end Go.Proofs.YtifdadlhmlhfiaaGreatDoor
