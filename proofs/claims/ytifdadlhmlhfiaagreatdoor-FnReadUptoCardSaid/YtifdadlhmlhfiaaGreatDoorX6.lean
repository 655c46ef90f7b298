/-
  For every profile whose reading is of bulk at most 1048576: the law FnRead returns true, and the argument and the variables that its row names read as they did; and its card. Conditions: none.
-/
import Derived.Test.YtifdadlhmlhfiaaGreatDoorX5
import Derived.Laws.IdiomStrings
import Derived.Test.YtifdadlhmlhfiaaGreatDoorCards
import Derived.Test.YtifdadlhmlhfiaaGreatDoorTie
import Derived.WalkKit
import Derived.ProofKit
import Derived.OpenShut
import Derived.OpenVars
import Derived.Deep.DeepHandedRow
import Derived.Lib.LaidTab
namespace Go.Proofs.YtifdadlhmlhfiaaGreatDoor
open Go Go.Fw Go.Proofs Go.Proofs.Tryz
theorem hp_new {k k0 l c:Nat} {w2:World} {y:Ent} {p:Option Addr} {xs:List Value} (hO:Own tU8 1 y p l c xs) (hy:y.on=true→Blk w2 y.b tU8 y.cs∧k≤y.b) (hk:k0≤k):Hp ⟨w2,k0,[tU8]⟩ w2 [y]:=
 ⟨⟨fun ho=>by rw[hO.hT];exact (hy ho).1,fun o ho=>by rw[hO.ho]at ho;cases ho⟩,fun he _=>by
  have hon:y.on=true:=by simpa[Ent.ex,hO.ho]using he
  exact .inr ⟨Nat.le_trans hk (hy hon).2,by simp[Ent.tag,hO.ho,hO.hT]⟩,fun _ z hz=>(by cases hz),trivial⟩
section
variable {Q:Exit→Act→World→Prop} {n:Nat} {f:Fm} {e:Env} {H:Heap} {ops:Array Oper} {rest:List Oper} {d ty:Nat} {pos:String} {af:Array Edge}
theorem j_convM {t l c b:Nat} {x:Operand} {cs:List Value} (i:Nat) (hy:H[i]? =some ⟨b,tU8,cs,true,true,none⟩) (hu:Tryz.prog.underlying t=some (.slice tU8)) (he:Tryz.prog.underlying tU8=some (.int .u8)) (hx:ev e x=some (.slice (some ⟨b,0,none⟩) l c)) (hd:Nat.blt d n=true)
  (k:∀w w':World,Hp f w H→f.ok w→KeepX [b] w w'→w'.heap[b]? =some (.cells cs.toArray tU8 (cs.length,cs.length+1))→L Tryz.prog ops Q n ((d,.slice (some ⟨b,0,none⟩) l c)::e) rest w'):
  J Tryz.prog ops Q n f e H (⟨some d,.convert t t x,ty,pos,af,none⟩::rest):=fun w hH hf=>by
 have hb:w.heap[b]? =some (.cells cs.toArray tU8 (0,0)):=hH.get hy rfl
 have hlt:=(Array.getElem?_eq_some_iff.1 hb).1
 have hsh:w.shape? b=some (tU8,cs.length):=by unfold World.shape?;rw[hb];simp
 have hr:(convert t t (.slice (some ⟨b,0,none⟩) l c)).run Tryz.prog w=.ok (.slice (some ⟨b,0,none⟩) l c) (w.freeze ⟨b,cs.length,none⟩ 1):=by
  simp[convert,run_underlying hu,run_underlying he,markStringish,hsh]
 refine L.valw hd (fun a ha=>?_) (k w (w.freeze ⟨b,cs.length,none⟩ 1) hH hf ⟨rfl,rfl,rfl,?_,fun b' o ho hn=>?_⟩ ?_)
 ·simp only[execOp,ha.ev hx]
  simp[hr]
 ·simp[World.freeze]
 ·simp only[List.mem_singleton]at hn
  simp only[World.freeze,if_neg (show¬(1=0) by decide)]
  rw[Array.getElem?_modify,if_neg (fun e=>hn e.symm)];exact ho
 ·simp only[World.freeze,if_neg (show¬(1=0) by decide)]
  rw[Array.getElem?_modify,if_pos rfl,hb];rfl
end
theorem Rd8.mark {w:World} {b c:Nat} {E:List Nat} {z:Nat×Nat} (h:w.heap[b]? =some (.cells (E.map bv).toArray tU8 z)):Rd8 w (.slice (some ⟨b,0,none⟩) E.length c) E:=
 ⟨_,c,rfl,.inr ⟨b,_,h,rfl,fun w' hk=>by
  simp only[Builtin.firstCells]
  have hl:E.length*1=(E.map bv).length:=by simp
  rw[hl]
  refine Go.Fw.run_loadCells (P:=Tryz.prog) (b:=b) w' _ 0 (fun j u hj=>?_)
  simp only[World.cell?,Nat.zero_add]
  rw[hk]
  simpa using hj⟩⟩
set_option maxHeartbeats 2000000 in
theorem strange_c (B:Nat) (w:World) (eb:Nat) (wl:List Int) (wv:Value) (a:Nat) (T:List ByteArray) (hE:Ecd B eb wl wv a T w) (ha:a<600000000000000) (hwl:wl.length≤1000000000):
  Calls Tryz.prog 73 #[ptr eb] w (Ret (RT B eb wl wv a 8 (fun T' D=>T'=T∧D.length≤60∧∃m:Msg,D=mB m∧∀g∈m,GEnc g.1 g.2∧20≤gkey g.1) w)):=by
 have hBw:B≤w.heap.size:=hE.le
 refine startJ (args:=[_]) [(0,_)] w.heap.size [tU8] [] func73 rfl ntmps73 rfl rfl .nil ?_
 refine sQ fun K1=>cj_reg (jA (k:=K1 (sQ fun K2=>cj_reg (jM (k:=?_)))))
 refine j_callW (V:=wN) (m:=90) (Fr.refl _ _ _) hE trivial (by omega) (by omega) (by omega) hwl rfl rfl rfl fun a1 j1 w2 ha1 hj1 hE2 hF2=>?_
 have hk:20+j1<1048576:=by omega
 refine j_val rfl (fun _ _ h=>r_add rfl rfl h) ?_
 refine j_eqv (u:=.int .i64 ((20+j1:Nat):Int)) (congrArg (Value.int .i64) (wrap64_small (z:=20+((j1:Nat):Int)) (by omega) (by omega))) ?_
 refine j_val rfl (fun _ _ h=>r_conv ru3 ru71 rfl h) ?_
 refine j_eqv (u:=.int .u64 ((20+j1:Nat):Int)) (congrArg (Value.int .u64) (conv64 (by omega))) ?_
 refine jA (k:=K2 (sQ fun K3=>sQ fun K4=>cj_reg (jM (k:=?_))))
 refine j_callW (V:=wN) (m:=12) hF2 hE2 trivial (by omega) (by omega) (by omega) hwl rfl rfl rfl fun a2 j2 w3 ha2 hj2 hE3 hF3=>?_
 refine K4 (cj_block (sQ fun K5=>cj_reg (jQ (k:=jA (k:=K5 (CJ.t [(0,_),(3,_),(9,_),(10,_)] (k:=?_)))))))
 refine cj_if rfl (fun h10=>?_) (fun h10=>?_)
 ·refine sQ fun K6=>cj_reg (jM (k:=jM (k:=?_)))
  refine j_val rfl (fun _ _ h=>r_shl (q:=3) rfl rfl h) ?_
  refine j_eqv (u:=.int .u64 ((8*(20+j1):Nat):Int)) (congrArg (Value.int .u64) (shl3 hk)) ?_
  refine j_callR (V:=wN) hF3 hE3 trivial call70 rfl rfl (fun w1 _ _ hE1=>number_c B w1 eb wl wv _ (8*(20+j1)) T hE1 (by omega) (by omega) hwl) fun a5 T5 D5 p5 c5 y5 w5 ha5 hφ5 hE5 hF5 hO5=>?_
  obtain ⟨rfl,hV5⟩:=hφ5
  refine jM (k:=jM (k:=?_))
  refine j_callW (V:=wN) (m:=1000) hF5 hE5 ⟨⟨hO5.hT,hO5.ho⟩,trivial⟩ (by omega) (by omega) (by omega) hwl rfl rfl rfl fun a6 j6 w6 ha6 hj6 hE6 hF6=>?_
  refine j_val rfl (fun _ _ h=>r_conv ru3 ru71 rfl h) ?_
  refine j_eqv (u:=.int .u64 (j6:Nat)) (congrArg (Value.int .u64) (conv64 (by omega))) ?_
  refine j_callR (V:=wN) hF6 hE6 ⟨⟨hO5.hT,hO5.ho⟩,trivial⟩ call70 rfl rfl (fun w1 _ _ hE1=>number_c B w1 eb wl wv _ j6 T5 hE1 (by omega) (by omega) hwl) fun a7 T7 D7 p7 c7 y7 w7 ha7 hφ7 hE7 hF7 hO7=>?_
  obtain ⟨rfl,hV7⟩:=hφ7
  have h5:=hV5.le
  have h7:=hV7.le
  refine j_app8 1 0 rfl rfl hO5 hO7.sl ru36 rfl rfl scal_bytes (by omega) rfl fun y8 p8 c8 hO8=>?_
  refine jA (k:=K6 (CJ.t [(2,_)] (k:=cj_ret ?_)))
  first
  |exact ej_ret1 results73 rfl fun w' hH hf=>⟨a7,T7,D5++D7,by omega,⟨rfl,by simp;omega,[(.fld (.num (20+j1) j6),D5++D7)],by simp[mB],fun g hg=>by simp at hg;subst hg;exact ⟨⟨D5,D7,rfl,hV5,hV7,hk,by omega⟩,by simp[gkey,fkey]⟩⟩,newB_of hF7 hH (i:=1) rfl hO8 (by simp),hE7.later hf,frT hF7 hf⟩
  |exact ej_ret1 results73 rfl fun w' hH hf=>⟨a5,T5,D5++[1,2,3,4,5,6,7,8],by omega,⟨rfl,by simp;omega,[(.fix8 (20+j1) [1,2,3,4,5,6,7,8],D5++[1,2,3,4,5,6,7,8])],by simp[mB],fun g hg=>by simp at hg;subst hg;exact ⟨⟨D5,rfl,hV5,rfl,hk⟩,by simp[gkey]⟩⟩,newB_of hF5 hH (i:=1) rfl hO8 (by simp),hE5.later hf,frT hF5 hf⟩
  |exact ej_ret1 results73 rfl fun w' hH hf=>⟨a5,T5,D5++[9,8,7,6],by omega,⟨rfl,by simp;omega,[(.fix4 (20+j1) [9,8,7,6],D5++[9,8,7,6])],by simp[mB],fun g hg=>by simp at hg;subst hg;exact ⟨⟨D5,rfl,hV5,rfl,hk⟩,by simp[gkey]⟩⟩,newB_of hF5 hH (i:=1) rfl hO8 (by simp),hE5.later hf,frT hF5 hf⟩
  |exact ej_ret1 results73 rfl fun w' hH hf=>⟨a5,T5,D5,by omega,⟨rfl,by obtain ⟨t,l,rfl,h1,h2, -⟩:=hG5;have:=h1.le;have:=h2.le;simp;omega,[(.fld (.bys (20+j1) [115,116,114,97,110,103,101]),D5)],by simp[mB],fun g hg=>by simp at hg;subst hg;exact ⟨hG5,by simp[gkey,fkey]⟩⟩,newB_of hF5 hH (i:=0) rfl hO5 rfl,hE5.later hf,frT hF5 hf⟩
  |exact ej_ret1 results73 rfl fun w' hH hf=>⟨a2,T,[],by omega,⟨rfl,by simp,[],rfl,fun g hg=>by cases hg⟩,⟨none,0,rfl,Rw.nil⟩,hE3.later hf,frT hF3 hf⟩
 ·refine sQ fun K7=>cj_reg (jQ (k:=jA (k:=K7 ?_)))
  refine cj_if rfl (fun h22=>?_) (fun h22=>?_)
  ·refine sQ fun K8=>cj_reg (jM (k:=jM (k:=?_)))
   refine j_val rfl (fun _ _ h=>r_shl (q:=3) rfl rfl h) ?_
   refine j_eqv (u:=.int .u64 ((8*(20+j1):Nat):Int)) (congrArg (Value.int .u64) (shl3 hk)) ?_
   refine j_val rfl (fun _ _ h=>r_or rfl rfl h) ?_
   refine j_eqv (u:=.int .u64 ((8*(20+j1)+1:Nat):Int)) (congrArg (Value.int .u64) (bits_tag (t:=1) hk (by omega))) ?_
   refine j_callR (V:=wN) hF3 hE3 trivial call70 rfl rfl (fun w1 _ _ hE1=>number_c B w1 eb wl wv _ (8*(20+j1)+1) T hE1 (by omega) (by omega) hwl) fun a5 T5 D5 p5 c5 y5 w5 ha5 hφ5 hE5 hF5 hO5=>?_
   obtain ⟨rfl,hV5⟩:=hφ5
   have h5:=hV5.le
   refine j_bsliceN (vals:=[(0,bv 1),(1,bv 2),(2,bv 3),(3,bv 4),(4,bv 5),(5,bv 6),(6,bv 7),(7,bv 8)]) (cells:=(([1,2,3,4,5,6,7,8]:List Nat).map bv).toArray) ru36 so5 zv5 rfl rfl rfl (by kernel_rfl) rfl fun bt=>?_
   refine j_app8 1 0 rfl rfl hO5 (Own.all (T:=tU8) (b:=bt) (cs:=([1,2,3,4,5,6,7,8]:List Nat).map bv)).sl ru36 rfl rfl scal_bytes (by simp;omega) rfl fun y8 p8 c8 hO8=>?_
   refine jA (k:=K8 (CJ.t [(2,_)] (k:=cj_ret ?_)))
   first
   |exact ej_ret1 results73 rfl fun w' hH hf=>⟨a7,T7,D5++D7,by omega,⟨rfl,by simp;omega,[(.fld (.num (20+j1) j6),D5++D7)],by simp[mB],fun g hg=>by simp at hg;subst hg;exact ⟨⟨D5,D7,rfl,hV5,hV7,hk,by omega⟩,by simp[gkey,fkey]⟩⟩,newB_of hF7 hH (i:=1) rfl hO8 (by simp),hE7.later hf,frT hF7 hf⟩
   |exact ej_ret1 results73 rfl fun w' hH hf=>⟨a5,T5,D5++[1,2,3,4,5,6,7,8],by omega,⟨rfl,by simp;omega,[(.fix8 (20+j1) [1,2,3,4,5,6,7,8],D5++[1,2,3,4,5,6,7,8])],by simp[mB],fun g hg=>by simp at hg;subst hg;exact ⟨⟨D5,rfl,hV5,rfl,hk⟩,by simp[gkey]⟩⟩,newB_of hF5 hH (i:=1) rfl hO8 (by simp),hE5.later hf,frT hF5 hf⟩
   |exact ej_ret1 results73 rfl fun w' hH hf=>⟨a5,T5,D5++[9,8,7,6],by omega,⟨rfl,by simp;omega,[(.fix4 (20+j1) [9,8,7,6],D5++[9,8,7,6])],by simp[mB],fun g hg=>by simp at hg;subst hg;exact ⟨⟨D5,rfl,hV5,rfl,hk⟩,by simp[gkey]⟩⟩,newB_of hF5 hH (i:=1) rfl hO8 (by simp),hE5.later hf,frT hF5 hf⟩
   |exact ej_ret1 results73 rfl fun w' hH hf=>⟨a5,T5,D5,by omega,⟨rfl,by obtain ⟨t,l,rfl,h1,h2, -⟩:=hG5;have:=h1.le;have:=h2.le;simp;omega,[(.fld (.bys (20+j1) [115,116,114,97,110,103,101]),D5)],by simp[mB],fun g hg=>by simp at hg;subst hg;exact ⟨hG5,by simp[gkey,fkey]⟩⟩,newB_of hF5 hH (i:=0) rfl hO5 rfl,hE5.later hf,frT hF5 hf⟩
   |exact ej_ret1 results73 rfl fun w' hH hf=>⟨a2,T,[],by omega,⟨rfl,by simp,[],rfl,fun g hg=>by cases hg⟩,⟨none,0,rfl,Rw.nil⟩,hE3.later hf,frT hF3 hf⟩
  ·refine sQ fun K9=>cj_reg (jQ (k:=jA (k:=K9 ?_)))
   refine cj_if rfl (fun h31=>?_) (fun h31=>?_)
   ·refine sQ fun K10=>cj_reg (jM (k:=jM (k:=?_)))
    refine j_val rfl (fun _ _ h=>r_shl (q:=3) rfl rfl h) ?_
    refine j_eqv (u:=.int .u64 ((8*(20+j1):Nat):Int)) (congrArg (Value.int .u64) (shl3 hk)) ?_
    refine j_val rfl (fun _ _ h=>r_or rfl rfl h) ?_
    refine j_eqv (u:=.int .u64 ((8*(20+j1)+5:Nat):Int)) (congrArg (Value.int .u64) (bits_tag (t:=5) hk (by omega))) ?_
    refine j_callR (V:=wN) hF3 hE3 trivial call70 rfl rfl (fun w1 _ _ hE1=>number_c B w1 eb wl wv _ (8*(20+j1)+5) T hE1 (by omega) (by omega) hwl) fun a5 T5 D5 p5 c5 y5 w5 ha5 hφ5 hE5 hF5 hO5=>?_
    obtain ⟨rfl,hV5⟩:=hφ5
    have h5:=hV5.le
    refine j_bsliceN (vals:=[(0,bv 9),(1,bv 8),(2,bv 7),(3,bv 6)]) (cells:=(([9,8,7,6]:List Nat).map bv).toArray) ru36 so5 zv5 rfl rfl rfl (by kernel_rfl) rfl fun bt=>?_
    refine j_app8 1 0 rfl rfl hO5 (Own.all (T:=tU8) (b:=bt) (cs:=([9,8,7,6]:List Nat).map bv)).sl ru36 rfl rfl scal_bytes (by simp;omega) rfl fun y8 p8 c8 hO8=>?_
    refine jA (k:=K10 (CJ.t [(2,_)] (k:=cj_ret ?_)))
    first
    |exact ej_ret1 results73 rfl fun w' hH hf=>⟨a7,T7,D5++D7,by omega,⟨rfl,by simp;omega,[(.fld (.num (20+j1) j6),D5++D7)],by simp[mB],fun g hg=>by simp at hg;subst hg;exact ⟨⟨D5,D7,rfl,hV5,hV7,hk,by omega⟩,by simp[gkey,fkey]⟩⟩,newB_of hF7 hH (i:=1) rfl hO8 (by simp),hE7.later hf,frT hF7 hf⟩
    |exact ej_ret1 results73 rfl fun w' hH hf=>⟨a5,T5,D5++[1,2,3,4,5,6,7,8],by omega,⟨rfl,by simp;omega,[(.fix8 (20+j1) [1,2,3,4,5,6,7,8],D5++[1,2,3,4,5,6,7,8])],by simp[mB],fun g hg=>by simp at hg;subst hg;exact ⟨⟨D5,rfl,hV5,rfl,hk⟩,by simp[gkey]⟩⟩,newB_of hF5 hH (i:=1) rfl hO8 (by simp),hE5.later hf,frT hF5 hf⟩
    |exact ej_ret1 results73 rfl fun w' hH hf=>⟨a5,T5,D5++[9,8,7,6],by omega,⟨rfl,by simp;omega,[(.fix4 (20+j1) [9,8,7,6],D5++[9,8,7,6])],by simp[mB],fun g hg=>by simp at hg;subst hg;exact ⟨⟨D5,rfl,hV5,rfl,hk⟩,by simp[gkey]⟩⟩,newB_of hF5 hH (i:=1) rfl hO8 (by simp),hE5.later hf,frT hF5 hf⟩
    |exact ej_ret1 results73 rfl fun w' hH hf=>⟨a5,T5,D5,by omega,⟨rfl,by obtain ⟨t,l,rfl,h1,h2, -⟩:=hG5;have:=h1.le;have:=h2.le;simp;omega,[(.fld (.bys (20+j1) [115,116,114,97,110,103,101]),D5)],by simp[mB],fun g hg=>by simp at hg;subst hg;exact ⟨hG5,by simp[gkey,fkey]⟩⟩,newB_of hF5 hH (i:=0) rfl hO5 rfl,hE5.later hf,frT hF5 hf⟩
    |exact ej_ret1 results73 rfl fun w' hH hf=>⟨a2,T,[],by omega,⟨rfl,by simp,[],rfl,fun g hg=>by cases hg⟩,⟨none,0,rfl,Rw.nil⟩,hE3.later hf,frT hF3 hf⟩
   ·refine sQ fun K11=>cj_reg (jQ (k:=jA (k:=K11 ?_)))
    refine cj_if rfl (fun h40=>?_) (fun h40=>?_)
    ·refine sQ fun K12=>cj_reg (jM (k:=jM (k:=?_)))
     refine j_val rfl (fun _ _ h=>r_conv ru71 ru3 rfl h) ?_
     refine j_eqv (u:=.int .i64 ((20+j1:Nat):Int)) (congrArg (Value.int .i64) (wrap64_small (by omega) (by omega))) ?_
     refine j_bsliceN (vals:=[(0,bv 115),(1,bv 116),(2,bv 114),(3,bv 97),(4,bv 110),(5,bv 103),(6,bv 101)]) (cells:=(([115,116,114,97,110,103,101]:List Nat).map bv).toArray) ru36 so5 zv5 rfl rfl rfl (by kernel_rfl) rfl fun bt=>?_
     refine j_convM 0 rfl ud36 ud5 rfl rfl fun w7 w8 hH7 hf7 hk8 hb8=>?_
     have hbt:w3.heap.size≤bt∨(w.heap.size≤bt∧tU8∈[tU8]):=hH7.may (List.Mem.head _) rfl rfl
     have hge:w.heap.size≤bt:=hbt.elim (Nat.le_trans hF3.size) (·.1)
     have hf8:Fr w.heap.size [tU8] w3 w8:=frK hf7 hk8 fun q hq=>by
      simp at hq;subst hq
      exact .inr ⟨hge,fun o ho=>by rw[tagOf_blk (hH7.get (i:=0) rfl rfl) ho];exact List.Mem.head _⟩
     have hE8:=hE3.later hf8
     have hF8:=frT hF3 hf8
     refine J.begin ⟨w8,0,[]⟩ [] ok_refl .nil ?_
     refine j_callE (R:=RT B eb wl wv a2 4 (fun T' D=>T'=T∧GEnc (.fld (.bys (20+j1) [115,116,114,97,110,103,101])) D)) call29 rfl rfl (fun w1 _ hf=>bytes_e B w1 eb wl wv _ (20+j1) T _ [115,116,114,97,110,103,101] (hE8.quiet hf) (by omega) hk (Rd8.mark (c:=7) (hf.keep _ _ hb8 (.inr (by simp)))) (by simp) hwl) fun w1 v w5 _ hf1 hR=>?_
     obtain ⟨a5,T5,D5,ha5,⟨rfl,hG5⟩,⟨p5,c5,rfl,y5,hO5,hy5⟩,hE5,hk5⟩:=hR
     have hF5:Fr B wN w w5:=frE (frQ hF8 hf1) hk5
     refine J.begin ⟨w5,w.heap.size,[tU8]⟩ [y5] ok_refl (hp_new hO5 hy5 (Nat.le_trans hF8.size hf1.size)) ?_
     refine jA (k:=K12 (cj_ret ?_))
     first
     |exact ej_ret1 results73 rfl fun w' hH hf=>⟨a7,T7,D5++D7,by omega,⟨rfl,by simp;omega,[(.fld (.num (20+j1) j6),D5++D7)],by simp[mB],fun g hg=>by simp at hg;subst hg;exact ⟨⟨D5,D7,rfl,hV5,hV7,hk,by omega⟩,by simp[gkey,fkey]⟩⟩,newB_of hF7 hH (i:=1) rfl hO8 (by simp),hE7.later hf,frT hF7 hf⟩
     |exact ej_ret1 results73 rfl fun w' hH hf=>⟨a5,T5,D5++[1,2,3,4,5,6,7,8],by omega,⟨rfl,by simp;omega,[(.fix8 (20+j1) [1,2,3,4,5,6,7,8],D5++[1,2,3,4,5,6,7,8])],by simp[mB],fun g hg=>by simp at hg;subst hg;exact ⟨⟨D5,rfl,hV5,rfl,hk⟩,by simp[gkey]⟩⟩,newB_of hF5 hH (i:=1) rfl hO8 (by simp),hE5.later hf,frT hF5 hf⟩
     |exact ej_ret1 results73 rfl fun w' hH hf=>⟨a5,T5,D5++[9,8,7,6],by omega,⟨rfl,by simp;omega,[(.fix4 (20+j1) [9,8,7,6],D5++[9,8,7,6])],by simp[mB],fun g hg=>by simp at hg;subst hg;exact ⟨⟨D5,rfl,hV5,rfl,hk⟩,by simp[gkey]⟩⟩,newB_of hF5 hH (i:=1) rfl hO8 (by simp),hE5.later hf,frT hF5 hf⟩
     |exact ej_ret1 results73 rfl fun w' hH hf=>⟨a5,T5,D5,by omega,⟨rfl,by obtain ⟨t,l,rfl,h1,h2, -⟩:=hG5;have:=h1.le;have:=h2.le;simp;omega,[(.fld (.bys (20+j1) [115,116,114,97,110,103,101]),D5)],by simp[mB],fun g hg=>by simp at hg;subst hg;exact ⟨hG5,by simp[gkey,fkey]⟩⟩,newB_of hF5 hH (i:=0) rfl hO5 rfl,hE5.later hf,frT hF5 hf⟩
     |exact ej_ret1 results73 rfl fun w' hH hf=>⟨a2,T,[],by omega,⟨rfl,by simp,[],rfl,fun g hg=>by cases hg⟩,⟨none,0,rfl,Rw.nil⟩,hE3.later hf,frT hF3 hf⟩
    ·refine cj_skip (K3 (sQ fun K13=>cj_reg (jA (k:=K13 (CJ.t [(2,_)] (k:=cj_ret ?_))))))
     first
     |exact ej_ret1 results73 rfl fun w' hH hf=>⟨a7,T7,D5++D7,by omega,⟨rfl,by simp;omega,[(.fld (.num (20+j1) j6),D5++D7)],by simp[mB],fun g hg=>by simp at hg;subst hg;exact ⟨⟨D5,D7,rfl,hV5,hV7,hk,by omega⟩,by simp[gkey,fkey]⟩⟩,newB_of hF7 hH (i:=1) rfl hO8 (by simp),hE7.later hf,frT hF7 hf⟩
     |exact ej_ret1 results73 rfl fun w' hH hf=>⟨a5,T5,D5++[1,2,3,4,5,6,7,8],by omega,⟨rfl,by simp;omega,[(.fix8 (20+j1) [1,2,3,4,5,6,7,8],D5++[1,2,3,4,5,6,7,8])],by simp[mB],fun g hg=>by simp at hg;subst hg;exact ⟨⟨D5,rfl,hV5,rfl,hk⟩,by simp[gkey]⟩⟩,newB_of hF5 hH (i:=1) rfl hO8 (by simp),hE5.later hf,frT hF5 hf⟩
     |exact ej_ret1 results73 rfl fun w' hH hf=>⟨a5,T5,D5++[9,8,7,6],by omega,⟨rfl,by simp;omega,[(.fix4 (20+j1) [9,8,7,6],D5++[9,8,7,6])],by simp[mB],fun g hg=>by simp at hg;subst hg;exact ⟨⟨D5,rfl,hV5,rfl,hk⟩,by simp[gkey]⟩⟩,newB_of hF5 hH (i:=1) rfl hO8 (by simp),hE5.later hf,frT hF5 hf⟩
     |exact ej_ret1 results73 rfl fun w' hH hf=>⟨a5,T5,D5,by omega,⟨rfl,by obtain ⟨t,l,rfl,h1,h2, -⟩:=hG5;have:=h1.le;have:=h2.le;simp;omega,[(.fld (.bys (20+j1) [115,116,114,97,110,103,101]),D5)],by simp[mB],fun g hg=>by simp at hg;subst hg;exact ⟨hG5,by simp[gkey,fkey]⟩⟩,newB_of hF5 hH (i:=0) rfl hO5 rfl,hE5.later hf,frT hF5 hf⟩
     |exact ej_ret1 results73 rfl fun w' hH hf=>⟨a2,T,[],by omega,⟨rfl,by simp,[],rfl,fun g hg=>by cases hg⟩,⟨none,0,rfl,Rw.nil⟩,hE3.later hf,frT hF3 hf⟩
end Go.Proofs.YtifdadlhmlhfiaaGreatDoor
namespace Go.Fw
open Go
variable {a:Act} {y:Ent} {T c l m sT t:Nat} {x:Operand} {w:World}
section
variable {P:Program} {n:Nat} {e:Env} {d ty:Nat} {pos:String} {af:Array Edge}
theorem r_sl3 {y z u:Operand} {p:Option Addr} {elem sz:Nat} {k1 k2 k3:IntKind} {i j:Nat} (hu:∀w,(underlying t).run P w=.ok (.slice elem) w) (hsz:∀w,(sizeOf elem).run P w=.ok sz w)
  (hx:ev e x=some (.slice p l c)) (hy:ev e y=some (.int k1 i)) (hz:ev e z=some (.int k2 j)) (hm:ev e u=some (.int k3 m)) (hi:i≤j) (hj:j≤m) (hmc:m≤c) (ha:Sat n e a):
  (execOp a.eval ⟨some d,.slice t x (some y) (some z) (some u),ty,pos,af,none⟩).run P w=.ok (.value (.slice (cutP p m i sz) (j - i) (m - i))) w:=by
 simp only[execOp,ha.ev hx,Option.map_some,ha.ev hy,ha.ev hz,ha.ev hm]
 simp[Instr.sliceAt,Instr.slice,Instr.sliceBounds,Instr.sliceBound,asIntOf,hu,hsz,hi,hj,hmc,cutP]
theorem run_eqIn_sl (dd t:Nat) {a:Addr} {te:TypeId} (hu:P.underlying t=some (.slice te)) (w:World):(Op.equalIn (dd+1) t (.slice (some a) l c) (.slice none 0 0)).run P w=.ok false w:=by
 simp[Op.equalIn,run_underlying hu]
theorem r_sleql {t':Nat} {b te:Nat} (hu:P.underlying t=some (.slice te)) (hx:ev e x=some (.slice (some ⟨b,0,none⟩) l c)) (ha:Sat n e a):
  (execOp a.eval ⟨some d,.binOp .eql t x (.const (.slice none 0 0)) t',ty,pos,af,none⟩).run P w=.ok (.value (.bool false)) w:=by
 have h:(binOp .eql t (.slice (some ⟨b,0,none⟩) l c) (.slice none 0 0)).run P w=.ok (.bool false) w:=by
  simp only[binOp]
  simp[Op.equal,Op.maxDepth,run_eqIn_sl 9999 t hu]
 simp only[execOp,ha.ev hx,eval_const]
 simp[eqGuard,h]
end
section
variable {P:Program} {Q:Exit→Act→World→Prop} {n:Nat} {f:Fm} {e:Env} {H:Heap} {ops:Array Oper} {rest:List Oper} {d ty:Nat} {pos:String} {af:Array Edge}
theorem j_appI {by_ c2:Nat} {s:Operand} {xs zs:List Value} {p2:Option Addr} (i:Nat) (hy:H[i]? =some y) (hon:y.on=true) (hO:Own T 1 y (some ⟨y.b,0,none⟩) l c xs) (hu:∀w,(underlying sT).run P w=.ok (.slice T) w) (hT:ElT P T 1 by_)
  (hs:ev e s=some (.slice (some ⟨y.b,0,none⟩) l c)) (hx:ev e x=some (.slice p2 m c2)) (hz:∀w:World,Hp f w H→(Builtin.firstCells 1 m (.slice p2 m c2)).run P w=.ok zs.toArray w) (hzl:zs.length=m) (hsc:zs.all scal=true) (hroom:l+m≤c) (hd:Nat.blt d n=true)
  (k:J P ops Q n f ((d,.slice (some ⟨y.b,0,none⟩) (l+m) c)::e) (setH H i (setL y.cs l zs)) rest):
  J P ops Q n f e H (⟨some d,.call ⟨.builtin .append, #[s,x], #[sT,sT]⟩,ty,pos,af,none⟩::rest):=fun w hH hf=>by
 obtain ⟨ti,hti,hby'⟩:=hT.hinf
 obtain ⟨z,hzv,hzs⟩:=hT.hz
 obtain ⟨hl1,hl2,hS3⟩:=hO.sl
 have hb:=hH.get hy hon
 have hcl:y.cs.length=c:=by
  rcases hS3 with ⟨-, -, -,h⟩|⟨h, -⟩
  ·simpa using h
  ·rw[hon]at h;cases h
 obtain ⟨w',hr,hup⟩:=run_storeCells (P:=P) zs w y.cs l 0 hb (by omega) hsc
 rw[Nat.add_zero]at hup
 have hadd:Addr.add ⟨y.b,0,none⟩ (l*1)=⟨y.b,l,none⟩:=by
  unfold Addr.add
  split
  ·rename_i h;rw[show l=0 by omega]
  ·simp
 have hx0:=hz w hH
 have hlen:∀w,(Builtin.lenOf (.slice p2 m c2)).run P w=.ok m w:=lenOf_slice _ _ _
 have hrun:(Builtin.append_ #[sT,sT] ty #[.slice (some ⟨y.b,0,none⟩) l c,.slice p2 m c2]).run P w=.ok (.slice (some ⟨y.b,0,none⟩) (l+m) c) w':=by
  simp only[Builtin.append_]
  simp only[Nat.mul_one]at hadd
  simp[hu,hT.hsz,hlen,hroom,hadd,hx0,hr]
 refine L.valw hd (fun a ha=>?_) (k w' (hH.upd hy hon hup hO.ho) (hf.upd hb (hH.may (List.mem_of_getElem? hy) hon hO.hw) hup))
 simp only[execOp,resolve]
 simp[invoke,builtin,ha.ev hs,ha.ev hx,hrun]
theorem j_clear1 {rt o:Nat} {z:Value} (i:Nat) (hy:H[i]? =some y) (hon:y.on=true) (hob:y.ob=none) (hwr:y.wr=true) (hu:∀w,(underlying sT).run P w=.ok (.slice T) w) (hz:∀w,(zeroValue T).run P w=.ok z w) (hzc:z.cells= #[z]) (hsc:scal z=true)
  (hx:ev e x=some (.slice (some ⟨y.b,o,none⟩) 1 c)) (ho:o<y.cs.length) (k:J P ops Q n f e (setH H i (setL y.cs o [z])) rest):
  J P ops Q n f e H (⟨none,.call ⟨.builtin .clear, #[x], #[sT]⟩,rt,pos,af,none⟩::rest):=fun w hH hf=>by
 have hb:=hH.get hy hon
 obtain ⟨w',hr,hup⟩:=run_storeCells (P:=P) [z] w y.cs o 0 hb (by simp;omega) (by simpa using hsc)
 rw[Nat.add_zero]at hup
 have hzz:(Builtin.zeroCells #[z] 1).toList=[z]:=by simp[Builtin.zeroCells]
 refine L.valn (v:=.tuple #[]) (fun a ha=>?_) (k w' (hH.upd hy hon hup hob) (hf.upd hb (hH.may (List.mem_of_getElem? hy) hon hwr) hup))
 simp only[execOp,resolve]
 simp[invoke,builtin,ha.ev hx,Builtin.clear_,hu,hz,hzc,hzz,hr]
end
end Go.Fw
namespace Go.Proofs.YtifdadlhmlhfiaaGreatDoor
open Go Go.Fw Go.Proofs Go.Proofs.Tryz
variable {y:Ent} {f:Fm} {H:Heap} {z:Int} {T':List ByteArray} {D:List Nat} {cs xs:List Value} {B T b c i k l n sz:Nat} {x:Operand} {p:Option Addr} {s:PSample} {w w' w1:World}
abbrev tB8:Nat:=36
theorem erase_cells {vals ex:List Value} {z:Value} (hi:i<vals.length):setL (setL (vals++ex) i (vals.drop (i+1))) (vals.length - 1) [z]=vals.eraseIdx i++(z::ex):=by
 have h1:setL (vals++ex) i (vals.drop (i+1))=vals.eraseIdx i++(vals.getLast (by intro h;simp[h]at hi)::ex):=by
  have h2:=setL_append (vals.drop (i+1)) (vals.take i) (vals.drop i++ex) (by simp;omega)
  rw[← List.append_assoc,List.take_append_drop,List.length_take,Nat.min_eq_left (by omega)]at h2
  rw[h2,List.eraseIdx_eq_take_drop_succ,List.append_assoc,List.append_assoc]
  congr 2
  have h3:vals.drop (vals.length - 1)=[vals.getLast (by intro h;simp[h]at hi)]:=by
   rw[List.drop_eq_getElem_cons (by omega),show vals.length - 1+1=vals.length by omega,List.drop_length,List.getLast_eq_getElem]
  rw[List.length_drop,List.drop_append_of_le_length (by simp;omega),List.drop_drop,show i+(vals.length - (i+1))=vals.length - 1 by omega,h3]
  rfl
 rw[h1]
 have hl:(vals.eraseIdx i).length=vals.length - 1:=by rw[List.length_eraseIdx,if_pos hi]
 rw[← hl]
 have h3:=setL_append [z] (vals.eraseIdx i) (vals.getLast (by intro h;simp[h]at hi)::ex) (by simp)
 rw[h3];simp
theorem clone8_c (w:World) (lv:Value) (vals:List Value) (h:OS tB8 1 w lv vals) (h0:0<vals.length) (hl:vals.length≤1000000) (hsc:vals.all scal=true):
  Calls Tryz.prog 75 #[lv] w (Ret fun v w'=>(∃y c,v=.slice (some ⟨y.b,0,none⟩) vals.length c∧y.on=true∧Own tB8 1 y (some ⟨y.b,0,none⟩) vals.length c vals∧Blk w' y.b tB8 y.cs∧w.heap.size≤y.b)∧Fr 0 [] w w'):=by
 have hx:=h
 obtain ⟨y0,p0,l0,c0,rfl,hO0,hy0⟩:=h
 obtain rfl:l0=vals.length:=by have:=hO0.sl.1;simpa using this.symm
 obtain ⟨e1,e2,e3⟩:=id hO0.sl
 have hon0:y0.on=true:=hO0.sl.on h0
 obtain rfl:p0=some ⟨y0.b,0,none⟩:=by
  rcases e3 with ⟨-,h, -⟩|⟨h, -⟩
  ·exact h
  ·rw[hon0]at h;cases h
 refine startJ (args:=[_]) [(0,_)] 0 [] [] Tryz.func75 rfl Tryz.ntmps75 rfl rfl .nil ?_
 refine sQ fun K1=>cj_reg (jA (k:=K1 (sQ fun K2=>sQ fun K3=>cj_reg (jM (k:=?_)))))
 refine j_val rfl (fun _ _ h=>r_sleql ud154 rfl h) (K3 (cj_if_f rfl (cj_skip (K2 (sQ fun K4=>cj_reg (j_bslice0 ru154 so36 rfl fun b5=>jM (k:=?_)))))))
 refine j_appS 0 rfl Own.empty ru154 el36 rfl rfl rfl hx rfl (fun z hz=>by simpa using List.all_eq_true.1 hsc z hz) (by omega) rfl fun y7 p7 c7 hO7=>?_
 refine jA (k:=K4 (cj_ret ?_))
 exact ej_ret1 Tryz.results75 rfl fun w' hH hf=>by
   rw[Nat.zero_add,List.nil_append]at*
   have hon7:y7.on=true:=hO7.sl.on h0
   obtain ⟨-, -,h3⟩:=id hO7.sl
   rcases h3 with ⟨-,e, -⟩|⟨e, -⟩
   ·subst e
    exact ⟨⟨y7,c7,rfl,hon7,hO7,by have:=hH.get (i:=0) rfl hon7;rw[hO7.hT]at this;exact this,hH.fresh (i:=0) rfl hon7 hO7.hw⟩,hf⟩
   ·rw[hon7]at e;cases e
set_option maxHeartbeats 1000000 in
theorem delete8_c (w:World) (y:Ent) (c i:Nat) (vals:List Value) (hon:y.on=true) (hO:Own tB8 1 y (some ⟨y.b,0,none⟩) vals.length c vals) (hb:Blk w y.b tB8 y.cs) (hi:i<vals.length) (hl:vals.length≤1000000) (hsc:vals.all scal=true):
  Calls Tryz.prog 74 #[.slice (some ⟨y.b,0,none⟩) vals.length c,.int .i64 (i:Nat),.int .i64 ((i+1:Nat):Int)] w (Ret fun v w'=>(v=.slice (some ⟨y.b,0,none⟩) (vals.length - 1) c∧∃ex,Blk w' y.b tB8 (vals.eraseIdx i++ex)∧(vals.eraseIdx i++ex).length=c)∧KeepX [y.b] w w'):=by
 obtain ⟨yb,yT,ycs,ywr,yon,yob⟩:=y
 obtain rfl:yT=tB8:=hO.hT
 obtain rfl:ywr=true:=hO.hw
 obtain rfl:yob=none:=hO.ho
 obtain rfl:yon=true:=hon
 obtain ⟨e1,e2,e3⟩:=id hO.sl
 obtain ⟨ex,hcs,hcl⟩:∃ex,ycs=vals++ex∧ycs.length=c:=by
  rcases e3 with ⟨-, -,⟨ex,h⟩,h4⟩|⟨h, -⟩
  ·exact ⟨ex,h,by simpa using h4⟩
  ·cases h
 have hz0:∀w,(zeroValue tB8).run Tryz.prog w=.ok (.slice none 0 0) w:=zv36
 refine startJ (args:=[_,_,_]) [(0,_),(1,_),(2,_)] 0 [tB8] _ Tryz.func74 rfl Tryz.ntmps74 rfl rfl (Hp.one hb (Nat.zero_le _) rfl) ?_
 refine sQ fun K1=>cj_reg (jA (k:=K1 ?_))
 refine cj_seqF fun K2 hK2=>cj_reg (jM (k:=jM (k:=jM (k:=jM (k:=jE ru154 (k:=?_))))))
 refine j_val rfl (fun _ _ h=>r_sl3 ru154 so36 rfl rfl rfl rfl (by omega) (by omega) (by omega) h) (j_nil (ej_then (hK2 _ _ _ (sQ fun K3=>sQ fun K4=>cj_reg (jM (k:=jM (k:=jQ (k:=?_))))))))
 refine j_eqv (u:=.bool false) (congrArg Value.bool (decide_eq_false (by omega))) ?_
 refine K4 (CJ.t [(0,_),(1,_),(2,_),(16,_)] (k:=?_))
 refine cj_if_f rfl (cj_skip (K3 (sQ fun K5=>cj_reg (jM (k:=jE ru154 (k:=jA (k:=K5 (sQ fun K6=>?_))))))))
 refine cj_drawI 8 (lts [0,1,2,3,4,5]++(6,false)::lts [7]) [] rfl (by kernel_rfl) (by kernel_rfl) (dM [] (k:=dM [] (k:=?_)))
 refine dj_val rfl rfl (sub_of [] rfl) (fun _ _ h=>r_slhi ru154 so36 rfl rfl (by omega) h) (dM [] (k:=dM [] (k:=?_)))
 refine dj_val rfl rfl (sub_of [] rfl) (fun _ _ h=>r_slcut ru154 so36 rfl rfl (by omega) h) (dE (h:=fun Kd=>?_))
 refine j_appI (y:=⟨yb,tB8,ycs,true,true,none⟩) (xs:=vals.take i) (zs:=vals.drop (i+1)) 0 rfl rfl ⟨rfl,rfl,rfl,by simp;omega,by omega,.inl ⟨rfl,rfl,⟨vals.drop i++ex,by rw[hcs, ← List.append_assoc,List.take_append_drop]⟩,by simpa using hcl⟩⟩ ru154 el36 rfl rfl (fun w hH=>by
   have hb1:=hH.get (i:=0) rfl rfl
   unfold cut
   split
   ·next h=>
    have h9:vals.length - (i+1)=0:=by omega
    rw[h9,List.drop_eq_nil_of_le (by omega)];rfl
   ·exact fc_blk hb1 (by simp only;rw[hcs];simp[List.drop_append_of_le_length (show i+1≤vals.length by omega),List.take_append_of_le_length]) (by simp)) (by simp) (List.all_eq_true.2 fun v hv=>List.all_eq_true.1 hsc v (List.mem_of_mem_drop hv)) (by omega) rfl ?_
 refine Kd (sb []) (dA [] (k:=K6 (CJ.t [(0,_),(7,_)] (k:=sQ fun K7=>cj_reg (jM (k:=jM (k:=jE ru154 (k:=jM (k:=?_)))))))))
 refine j_val rfl (fun _ _ h=>r_slmid ru154 so36 rfl rfl rfl (by omega) (by omega) h) ?_
 refine j_eqv (u:=.slice (some ⟨yb,vals.length - 1,none⟩) 1 (c - (i+(vals.length - (i+1))))) (by rw[show i+(vals.length - (i+1))=vals.length - 1 by omega,show vals.length - (vals.length - 1)=1 by omega,cut,if_neg (by omega)];simp) ?_
 refine j_clear1 (y:=⟨yb,tB8,setL ycs i (vals.drop (i+1)),true,true,none⟩) 0 rfl rfl rfl rfl ru154 hz0 rfl rfl rfl (by rw[setL_length];omega) ?_
 refine K7 (sQ fun K8=>cj_reg (jM (k:=jA (k:=K8 (cj_ret ?_)))))
 exact ej_ret1 Tryz.results74 rfl fun w' hH hf=>⟨⟨by congr 1;omega,.slice none 0 0::ex,by have h:=hH.get (i:=0) rfl rfl;simp only[hcs]at h;rw[erase_cells hi]at h;exact h,by rw[← hcl,hcs];simp[List.length_eraseIdx,hi];omega⟩,Hp.keepX (f:=⟨w,0,[tB8]⟩) (hH.drop 0) hf⟩
def eE (eb:Nat) (wv:Value) (a:Nat) (p:Option Addr) (l c:Nat):Ent:=⟨eb,tEnc,[wv,.int .i64 (a:Nat),.slice p l c],true,true,none⟩
def N9 (x:Ent):Prop:=(x.T≠tEnc∧x.T≠tStr)∧x.ob=none
def R9:Heap→Prop
 |[]=>True
 |x::r=>N9 x∧R9 r
theorem n9 (hO:Own T sz y p l c xs) (h1:Nat.beq T tEnc=false:=by exact rfl) (h2:Nat.beq T tStr=false:=by exact rfl):N9 y:=⟨⟨by rw[hO.hT];exact Nat.ne_of_beq_eq_false h1,by rw[hO.hT];exact Nat.ne_of_beq_eq_false h2⟩,hO.ho⟩
theorem n9r (hO:Own T sz y p l c xs) (h1:Nat.beq T tEnc=false:=by exact rfl) (h2:Nat.beq T tStr=false:=by exact rfl):N9 (Go.Fw.ro y):=(show N9 y from n9 hO h1 h2)
theorem R9.mem:∀{H:Heap},R9 H→∀x∈H,N9 x
 |_::r,h,x,hx=>by
    rcases List.mem_cons.1 hx with rfl|hx
    ·exact h.1
    ·exact R9.mem h.2 x hx
structure EF (B eb:Nat) (wl:List Int) (wv:Value) (w:World):Prop where
 ge:B≤eb
 size:B≤w.heap.size
 ways:WV B w wv wl
 nw:wl.length≤1000000000
section
variable {Q:Exit→Act→World→Prop} {n:Nat} {e:Env} {H:Heap} {ops:Array Oper} {rest:List Oper} {d ty:Nat} {pos:String} {af:Array Edge} {B eb a c l cT:Nat} {wl:List Int} {wv:Value} {T:List ByteArray} {w w1 w2:World} {pT:Option Addr} {yT:Ent}
theorem yt_of (hF:EF B eb wl wv w) (hT:Own tStr 1 yT pT T.length cT (T.map .string)) (hH:Hp ⟨w,B,wN⟩ w1 (eE eb wv a pT T.length cT::yT::H)):yT.on=true→Blk w1 yT.b tStr yT.cs∧B≤yT.b:=fun ho=>
 ⟨by have:=hH.get (i:=1) rfl ho;rw[hT.hT]at this;exact this,by
  have he:yT.ex=true:=by simp[Ent.ex,ho]
  rcases hH.mayx (List.Mem.tail _ (List.Mem.head _)) he hT.hw with h|⟨h, -⟩
  ·exact Nat.le_trans hF.size h
  ·exact h⟩
theorem ecd_of (hF:EF B eb wl wv w) (hT:Own tStr 1 yT pT T.length cT (T.map .string)) (hH:Hp ⟨w,B,wN⟩ w1 (eE eb wv a pT T.length cT::yT::H)) (hf:Fm.ok ⟨w,B,wN⟩ w1):Ecd B eb wl wv a T w1:=
 ⟨hF.ge,hF.ways.keep hf (.inl (Nat.le_refl _)),pT,cT,hH.get (i:=0) rfl rfl,yT,hT,fun ho=>⟨by have:=hH.get (i:=1) rfl ho;rw[hT.hT]at this;exact this,by
  rcases hH.mayx (List.Mem.tail _ (List.Mem.head _)) (by simp[Ent.ex,ho]) hT.hw with h|⟨h, -⟩
  ·exact Nat.le_trans hF.size h
  ·exact h⟩⟩
theorem row9 {x:Ent} (hH:Hp ⟨w,B,wN⟩ w1 H) (h9:R9 H) (hx:x∈H) (he:x.ex=true) (k:Fr B wN w1 w2):Blk w2 x.b x.T x.cs:=by
 obtain ⟨e1,e2⟩:=h9.mem x hx
 have hon:x.on=true:=by simpa[Ent.ex,e2]using he
 exact k.blk (hH.blk hx hon) (.inr (by simp only[List.mem_cons,List.mem_nil_iff,or_false,not_or];exact e1))
theorem hp_of_ecd {yT':Ent} {p':Option Addr} {a' c':Nat} (hF:EF B eb wl wv w) (hH:Hp ⟨w,B,wN⟩ w1 H) (h9:R9 H) (k:Fr B wN w1 w2) (hb:Blk w2 eb tEnc [wv,.int .i64 (a':Nat),.slice p' T'.length c']) (hO:Own tStr 1 yT' p' T'.length c' (T'.map .string)) (hy:yT'.on=true→Blk w2 yT'.b tStr yT'.cs∧B≤yT'.b):
  Hp ⟨w,B,wN⟩ w2 (eE eb wv a' p' T'.length c'::yT'::H):=by
 have hyx:yT'.ex=true→yT'.on=true:=fun he=>by simpa[Ent.ex,hO.ho]using he
 refine ⟨⟨fun _=>hb,fun o ho=>by cases ho⟩,fun _ _=>.inr ⟨hF.ge,List.Mem.head _⟩,fun _ z hz hze=>?_,⟨fun ho=>by rw[hO.hT];exact (hy ho).1,fun o ho=>by rw[hO.ho]at ho;cases ho⟩,fun he _=>.inr ⟨(hy (hyx he)).2,by simp[Ent.tag,hO.ho,hO.hT]⟩,fun he z hz hze=>?_,hH.mono fun x hx he o ho=>?_⟩
 ·rcases List.mem_cons.1 hz with rfl|hz
  ·exact ((hy (hyx hze)).1.ne hb (by decide))
  ·exact (row9 hH h9 hz hze k).ne hb (h9.mem z hz).1.1
 ·exact (row9 hH h9 hz hze k).ne (hy (hyx he)).1 (h9.mem z hz).1.2
 ·obtain ⟨e1,e2⟩:=h9.mem x hx
  have hon:x.on=true:=by simpa[Ent.ex,e2]using he
  exact k.keep _ o ho (.inr (by rw[tagOf_blk (hH.blk hx hon) ho];simp only[List.mem_cons,List.mem_nil_iff,or_false,not_or];exact e1))
theorem j_callF {g:FuncId} {args:Array Operand} {vs:List Value} {tys:Array TypeId} {φ:List ByteArray→List Nat→Prop} (hF:EF B eb wl wv w) (hT:Own tStr 1 yT pT T.length cT (T.map .string)) (h9:R9 H) (hg:∀(az:Array Value) (w:World),(callFunc g az).run Tryz.prog w=.ok (.enter g az) w)
  (hargs:evL e args.toList=some vs) (hd:Nat.blt d n=true) (hc:∀w1,Hp ⟨w,B,wN⟩ w1 (eE eb wv a pT T.length cT::yT::H)→Fr B wN w w1→Ecd B eb wl wv a T w1→Calls Tryz.prog g vs.toArray w1 (Ret (RT B eb wl wv a c φ w1)))
  (k:∀a' T' D p cc y p' c' y',a'≤a+c→φ T' D→Own tStr 1 y' p' T'.length c' (T'.map .string)→Own tU8 1 y p D.length cc (D.map bv)→J Tryz.prog ops Q n ⟨w,B,wN⟩ ((d,.slice p D.length cc)::e) (eE eb wv a' p' T'.length c'::y'::y::H) rest):
  J Tryz.prog ops Q n ⟨w,B,wN⟩ e (eE eb wv a pT T.length cT::yT::H) (⟨some d,.call ⟨.value (.func g),args,tys⟩,ty,pos,af,none⟩::rest):=
 j_callE (R:=RT B eb wl wv a c φ) hg hargs hd (fun w1 hH hf=>hc w1 hH hf (ecd_of hF hT hH hf)) fun w1 v w2 hH hf hR=>by
  obtain ⟨a',T',D,h1,h2,⟨p,cc,rfl,y,hO,hy⟩,hE2,hk⟩:=hR
  obtain ⟨p',c',hb',y',hO',hy'⟩:=hE2.st
  have hH8:=hH.2.2.2.2.2.2
  have hyx:y.ex=true→y.on=true:=fun he=>by simpa[Ent.ex,hO.ho]using he
  have hs:w.heap.size≤w1.heap.size:=hf.size
  have hz:Hp ⟨w,B,wN⟩ w2 (y::H):=by
   refine ⟨⟨fun ho=>by rw[hO.hT];exact (hy ho).1,fun o ho=>by rw[hO.ho]at ho;cases ho⟩,fun he _=>.inl (Nat.le_trans hs (hy (hyx he)).2),fun he z hz hze=>?_,hH8.mono fun x hx he o ho=>?_⟩
   ·have h3:=hH8.lt hz hze
    have h4:=(hy (hyx he)).2
    omega
   ·obtain ⟨e1,e2⟩:=h9.mem x hx
    have hon:x.on=true:=by simpa[Ent.ex,e2]using he
    exact hk.keep _ o ho (.inr (by rw[tagOf_blk (hH8.blk hx hon) ho];simp only[List.mem_cons,List.mem_nil_iff,or_false,not_or];exact e1))
  exact k a' T' D p cc y p' c' y' h1 h2 hO' hO w2 (hp_of_ecd hF hz ⟨n9 hO,h9⟩ (Fr.refl _ _ _) hb' hO' hy') (frE hf hk)
theorem j_wayF {m:Nat} {y:Operand} {tys:Array TypeId} (hF:EF B eb wl wv w) (hT:Own tStr 1 yT pT T.length cT (T.map .string)) (h9:R9 H) (ha:a<1000000000000000) (h0:0<m) (hm:m<1000000000)
  (hx:ev e x=some (ptr eb)) (hy:ev e y=some (.int .i64 (m:Nat))) (hd:Nat.blt d n=true)
  (k:∀a' j p' c' y',a'≤a+1→j<m→Own tStr 1 y' p' T.length c' (T.map .string)→J Tryz.prog ops Q n ⟨w,B,wN⟩ ((d,.int .i64 (j:Nat))::e) (eE eb wv a' p' T.length c'::y'::H) rest):
  J Tryz.prog ops Q n ⟨w,B,wN⟩ e (eE eb wv a pT T.length cT::yT::H) (⟨some d,.call ⟨.value (.func 72), #[x,y],tys⟩,ty,pos,af,none⟩::rest):=
 j_callE (vs:=[ptr eb,.int .i64 (m:Nat)]) (R:=fun w1 v w2=>(∃k,k<m∧v=.int .i64 (k:Nat))∧∃a',a'≤a+1∧Ecd B eb wl wv a' T w2∧Fr B [tEnc] w1 w2) call72 (by simp[evL,hx,hy]) hd (fun w1 hH hf=>way_c B w1 eb wl wv a m T (ecd_of hF hT hH hf) ha h0 hm hF.nw) fun w1 v w2 hH hf hR=>by
  obtain ⟨⟨j,hj,rfl⟩,a',h1,hE2,hk⟩:=hR
  have hk':Fr B wN w1 w2:=hk.mono (.inr ⟨Nat.le_refl _,fun x hx=>by simp at hx;subst hx;exact List.Mem.head _⟩)
  obtain ⟨p',c',hb',y',hO',hy'⟩:=hE2.st
  exact k a' j p' c' y' h1 hj hO' w2 (hp_of_ecd hF hH.2.2.2.2.2.2 h9 hk' hb' hO' hy') (frE hf hk')
theorem j_textF {s:ByteArray} {y:Operand} {tys:Array TypeId} (hF:EF B eb wl wv w) (hT:Own tStr 1 yT pT T.length cT (T.map .string)) (h9:R9 H) (ha:a<800000000000000) (hl:T.length≤100000000)
  (hx:ev e x=some (ptr eb)) (hy:ev e y=some (.string s)) (hd:Nat.blt d n=true)
  (k:∀a' T' j p' c' y',a'≤a+1→T'[j]? =some s→(T'=T∨T'=T++[s])→Own tStr 1 y' p' T'.length c' (T'.map .string)→J Tryz.prog ops Q n ⟨w,B,wN⟩ ((d,.int .u64 (j:Nat))::e) (eE eb wv a' p' T'.length c'::y'::H) rest):
  J Tryz.prog ops Q n ⟨w,B,wN⟩ e (eE eb wv a pT T.length cT::yT::H) (⟨some d,.call ⟨.value (.func 36), #[x,y],tys⟩,ty,pos,af,none⟩::rest):=
 j_callE (vs:=[ptr eb,.string s]) (R:=RX B eb wl wv a T s) call36 (by simp[evL,hx,hy]) hd (fun w1 hH hf=>text_c B w1 eb wl wv a T s (ecd_of hF hT hH hf) ha hl hF.nw) fun w1 v w2 hH hf hR=>by
  obtain ⟨a',T',j,h1,rfl,h2,h3,hE2,hk⟩:=hR
  obtain ⟨p',c',hb',y',hO',hy'⟩:=hE2.st
  exact k a' T' j p' c' y' h1 h2 h3 hO' w2 (hp_of_ecd hF hH.2.2.2.2.2.2 h9 hk hb' hO' hy') (frE hf hk)
theorem rt_end {c0 a0:Nat} {φ:List ByteArray→List Nat→Prop} {cc:Nat} (hF:EF B eb wl wv w) (hT:Own tStr 1 yT pT T.length cT (T.map .string)) (hH:Hp ⟨w,B,wN⟩ w' (eE eb wv a pT T.length cT::yT::H)) (hf:Fm.ok ⟨w,B,wN⟩ w') (hy:H[i]? =some y) (hO:Own tU8 1 y p l cc xs) (hx:xs=D.map bv) (ha:a≤a0+c0) (hφ:φ T D):
  RT B eb wl wv a0 c0 φ w (.slice p l cc) w':=by
 have hl:l=D.length:=by have:=hO.sl.1;rw[hx]at this;simpa using this.symm
 subst hl;subst hx
 refine ⟨a,T,D,ha,hφ,⟨p,cc,rfl,y,hO,fun ho=>⟨by have:=hH.2.2.2.2.2.2.get hy ho;rw[hO.hT]at this;exact this,?_⟩⟩,ecd_of hF hT hH hf,hf⟩
 have he:y.ex=true:=by simp[Ent.ex,ho]
 rcases hH.2.2.2.2.2.2.mayx (List.mem_of_getElem? hy) he hO.hw with h|⟨-,h⟩
 ·exact h
 ·simp only[Ent.tag,hO.ho,hO.hT]at h
  exact absurd h (by decide)
theorem Rd8.keepF {v:Value} {E:List Nat} (h:Rd8 w v E) (hf:Fr B wN w w1):Rd8 w1 v E:=by
 obtain ⟨p,c,e,h⟩:=h
 exact ⟨p,c,e,h.imp id fun ⟨b,obj,h1,h2,h3⟩=>⟨b,obj,hf.keep _ _ h1 (.inr (by rw[h2];decide)),h2,h3⟩⟩
end
theorem Hp.chg8 {cs':List Value} (h:Hp f w (⟨b,T,cs,true,true,none⟩::H)) (k:KeepX [b] w w') (hb:Blk w' b T cs'):Hp f w' (⟨b,T,cs',true,true,none⟩::H):=
 ⟨⟨fun _=>hb,fun _ ho=>by cases ho⟩,fun _ _=>h.2.1 rfl rfl,fun _=>h.2.2.1 rfl,h.2.2.2.mono fun z hz he o hob=>k.keep _ _ hob (by
  have:=h.2.2.1 rfl z hz he
  simpa using this)⟩
def fl (k:Nat) (m:Msg):List Fld:=(flds m).filter fun f=>fkey f=k
theorem fl_app (k:Nat) (a b:Msg):fl k (a++b)=fl k a++fl k b:=by unfold fl;rw[flds_app,List.filter_append]
def Dk (a b:Msg):Prop:=∀k<20,fl k a=[]∨fl k b=[]
abbrev VM:=Value×Msg
def tl (l:List VM):Nat:=(l.map fun q=>(mB q.2).length).sum
def fls (k:Nat) (l:List VM):List Fld:=l.flatMap fun q=>fl k q.2
theorem tl_erase:∀{l:List VM} {j:Nat} {q:VM},l[j]? =some q→tl l=(mB q.2).length+tl (l.eraseIdx j)
 |[],_,_,h=>by simp at h
 |a::r,0,q,h=>by simp at h;subst h;simp[tl]
 |a::r,j+1,q,h=>by
    have:=tl_erase (l:=r) (j:=j) (by simpa using h)
    simp only[tl,List.map_cons,List.sum_cons,List.eraseIdx_cons_succ]at this⊢
    omega
theorem fls_erase (hk:k<20):∀{l:List VM} {j:Nat} {q:VM},l.Pairwise (fun a b=>Dk a.2 b.2)→l[j]? =some q→fls k l=fl k q.2++fls k (l.eraseIdx j)
 |[],_,_,_,h=>by simp at h
 |a::r,0,q,_,h=>by simp at h;subst h;simp[fls]
 |a::r,j+1,q,hp,h=>by
    have h0:r[j]? =some q:=by simpa using h
    obtain ⟨h1,h2⟩:=List.pairwise_cons.1 hp
    have h3:=fls_erase hk h2 h0
    have h4:=h1 q (List.mem_of_getElem? h0) k hk
    simp only[fls,List.flatMap_cons,List.eraseIdx_cons_succ]at h3⊢
    rw[h3]
    rcases h4 with h4|h4
    ·rw[h4];simp
    ·rw[h4];simp
structure Mx (ms:List Msg) (m:Msg):Prop where
 enc:MEnc2 m
 fl:∀k<20,Go.Proofs.YtifdadlhmlhfiaaGreatDoor.fl k m=ms.flatMap (Go.Proofs.YtifdadlhmlhfiaaGreatDoor.fl k)
 mem:∀g∈m,(∃q∈ms,g∈q)∨20≤gkey g.1
theorem fl_strange (hk:k<20) {m:Msg} (h:∀g∈m,GEnc g.1 g.2∧20≤gkey g.1):fl k m=[]:=by
 unfold fl flds
 rw[List.filter_eq_nil_iff]
 intro f hf
 obtain ⟨g,hg,he⟩:=List.mem_filterMap.1 hf
 have h1:=(h g hg).2
 simp only[decide_eq_true_eq]
 intro e
 obtain ⟨g1,g2⟩:=g
 cases g1 with
 |fld f'=>simp at he;subst he;simp[gkey]at h1;omega
 |fix8 k' b=>simp at he
 |fix4 k' b=>simp at he
theorem er_map {α β:Type} (f:α→β):∀(l:List α) (i:Nat),(l.map f).eraseIdx i=(l.eraseIdx i).map f
 |[],_=>rfl
 |_::_,0=>rfl
 |a::r,i+1=>by simp[er_map f r i]
theorem hp_ro4 {a b c d:Ent} (h:Hp f w [a,b,c,d]):Hp f w [a,b,c,Go.Fw.ro d]:=by
 obtain ⟨a1,a2,a3,b1,b2,b3,c1,c2,c3,d1,d2,d3, -⟩:=h
 refine ⟨a1,a2,fun he z hz hze=>?_,b1,b2,fun he z hz hze=>?_,c1,c2,fun he z hz hze=>?_,⟨d1.row,d1.obj⟩,fun _ hw=>by simp[Go.Fw.ro]at hw,fun _ z hz=>(by cases hz),trivial⟩
 ·simp only[List.mem_cons,List.mem_nil_iff,or_false]at hz
  rcases hz with rfl|rfl|rfl
  ·exact a3 he _ (by simp) hze
  ·exact a3 he _ (by simp) hze
  ·exact a3 he d (by simp) hze
 ·simp only[List.mem_cons,List.mem_nil_iff,or_false]at hz
  rcases hz with rfl|rfl
  ·exact b3 he _ (by simp) hze
  ·exact b3 he d (by simp) hze
 ·simp only[List.mem_cons,List.mem_nil_iff,or_false]at hz
  subst hz
  exact c3 he d (by simp) hze
set_option maxHeartbeats 2000000 in
theorem mixed_c (B:Nat) (w:World) (eb:Nat) (wl:List Int) (wv:Value) (a:Nat) (T:List ByteArray) (lv:Value) (qs:List VM) (hE:Ecd B eb wl wv a T w) (ha:a<500000000000000) (hwl:wl.length≤1000000000)
  (hlv:OS tB8 1 w lv (qs.map (·.1))) (hR:∀q∈qs,Rd8 w q.1 (mB q.2)∧scal q.1=true∧MEnc2 q.2) (hn:qs.length≤1000) (htl:tl qs≤20000000000) (hD:qs.Pairwise fun a b=>Dk a.2 b.2):
  Calls Tryz.prog 34 #[ptr eb,lv] w (Ret (RT B eb wl wv a (9*qs.length) (fun T' D=>T'=T∧D.length≤60*qs.length+tl qs∧∃m,D=mB m∧Mx (qs.map (·.2)) m) w)):=by
 obtain ⟨pT,cT,hb,yT,hOT,hyT⟩:=hE.st
 have hF:EF B eb wl wv w:=⟨hE.ge,Nat.le_trans hE.ge (Nat.le_of_lt hb.lt),hE.ways,hwl⟩
 obtain ⟨y0,p0,l0,c0,rfl,hO0,hy0⟩:=hlv
 obtain rfl:l0=qs.length:=by have:=hO0.sl.1;simpa using this.symm
 have hsc:∀q∈qs,scal q.1=true:=fun q hq=>(hR q hq).2.1
 have hH0:Hp ⟨w,B,wN⟩ w [Go.Fw.ro y0]:=hp_arg hO0 hy0 .nil (by simp)
 refine startJ (args:=[_,_]) [(0,_),(1,_)] B wN [eE eb wv a pT T.length cT,yT,Go.Fw.ro y0] func34 rfl ntmps34 rfl rfl (hp_of_ecd hF hH0 ⟨n9r hO0,trivial⟩ (Fr.refl _ _ _) hb hOT hyT) ?_
 refine sQ fun K1=>cj_reg (jA (k:=K1 ?_))
 refine cj_seqF fun K2 hK2=>cj_reg (jA (k:=j_nil (ej_then (hK2 _ _ _ (sQ fun K3=>cj_block ?_)))))
 refine cj_loop (σ:=List VM×Msg×List Nat×(Ent×Option Addr×Nat)×(Nat×Option Addr×Nat×Ent)×(Ent×Option Addr×Nat)) (fun s=>[(0,ptr eb),(1,.slice s.2.2.2.2.2.2.1 s.1.length s.2.2.2.2.2.2.2),(5,.slice s.2.2.2.1.2.1 s.2.2.1.length s.2.2.2.1.2.2)])
  (fun s=>[eE eb wv s.2.2.2.2.1.1 s.2.2.2.2.1.2.1 T.length s.2.2.2.2.1.2.2.1,s.2.2.2.2.1.2.2.2,s.2.2.2.1.1,Go.Fw.ro s.2.2.2.2.2.1])
  (fun s _=>(∀q∈s.1,q∈qs)∧s.1.length≤qs.length∧s.1.Pairwise (fun a b=>Dk a.2 b.2)∧s.2.2.1=mB s.2.1∧MEnc2 s.2.1∧(∀g∈s.2.1,(∃q∈qs.map (·.2),g∈q)∨20≤gkey g.1)∧(∀k<20,fl k s.2.1++fls k s.1=fls k qs)∧s.2.2.1.length+tl s.1+60*s.1.length≤60*qs.length+tl qs∧
   s.2.2.2.2.1.1+9*s.1.length≤a+9*qs.length∧Own tU8 1 s.2.2.2.1.1 s.2.2.2.1.2.1 s.2.2.1.length s.2.2.2.1.2.2 (s.2.2.1.map bv)∧Own tStr 1 s.2.2.2.2.1.2.2.2 s.2.2.2.2.1.2.1 T.length s.2.2.2.2.1.2.2.1 (T.map .string)∧Own tB8 1 s.2.2.2.2.2.1 s.2.2.2.2.2.2.1 s.1.length s.2.2.2.2.2.2.2 (s.1.map (·.1)))
  (fun s=>s.1.length) (qs,[],[],(nilE tU8,none,0),(a,pT,cT,yT),(y0,p0,c0)) sR (fun w' hH hf=>⟨by
    have h2:=hH.2.2.2.2.2.2
    exact hp_of_ecd hF (Hp.off h2) ⟨n9 (Own.nil (T:=tU8) (sz:=1)),n9r hO0,trivial⟩ (Fr.refl _ _ _) (hH.get (i:=0) rfl rfl) hOT (yt_of hF hOT hH),fun _ h=>h,Nat.le_refl _,hD,rfl,fun _ h=>(by cases h),fun _ h=>(by cases h),fun k _=>(by simp[fl,flds]),(by simp;omega),(by simp),Own.nil,hOT,hO0⟩) ?_
 rintro ⟨rem,m,D,⟨y,p,c⟩,⟨a1,p1,c1,y1⟩,⟨yl,pl,cl⟩⟩ w1 ⟨hsub,hrl,hpw,hDm,hen,hmm,hfl,hlen,ha1,hO,hT1,hOl⟩ hf1 hH1 KL hKL
 try dsimp only at hsub hrl hpw hDm hen hmm hfl hlen ha1 hO hT1 hOl
 have h9:R9 [y,Go.Fw.ro yl]:=⟨n9 hO,n9r hOl,trivial⟩
 refine C.begin _ _ hf1 hH1 ?_
 try dsimp only
 refine sQ fun K4=>sQ fun K5=>cj_reg (jM (k:=jE ru154 (k:=jG (k:=K5 ?_))))
 refine cj_dec rfl (fun h9'=>?_) (fun h9'=>?_)
 ·have h0:0<rem.length:=by omega
  have honl:yl.on=true:=hOl.sl.on h0
  obtain rfl:pl=some ⟨yl.b,0,none⟩:=by
   obtain ⟨-, -,h3⟩:=id hOl.sl
   rcases h3 with ⟨-,h, -⟩|⟨h, -⟩
   ·exact h
   ·rw[honl]at h;cases h
  refine cj_skip (K4 (cj_block (sQ fun K6=>cj_reg (jM (k:=jM (k:=jE ru154 (k:=?_)))))))
  refine j_wayF (m:=rem.length) hF hT1 h9 (by omega) h0 (by omega) rfl rfl rfl fun a2 j p2 c2 y2 ha2 hj hT2=>?_
  obtain ⟨q,hq⟩:∃q,rem[j]? =some q:=⟨_,List.getElem?_eq_getElem hj⟩
  have hqs:=hsub q (List.mem_of_getElem? hq)
  obtain ⟨hRq,hsq,heq⟩:=hR q hqs
  have htl2:=tl_erase hq
  rw[htl2]at hlen
  have hcell:yl.cs[0+j*1]? =some q.1:=by
   obtain ⟨-, -,h3⟩:=id hOl.sl
   rcases h3 with ⟨-, -,⟨ex,h⟩, -⟩|⟨h, -⟩
   ·rw[h,Nat.zero_add,Nat.mul_one,List.getElem?_append_left (by simpa using hj),List.getElem?_map,hq];rfl
   ·rw[honl]at h;cases h
  refine jA (k:=K6 (sQ fun K7=>?_))
  refine cj_drawI 10 (lts [0,1,4,5,6,7]++(2,false)::(3,false)::(8,false)::lts [9]) [3] rfl (by kernel_rfl) (by kernel_rfl) (dM [3] (k:=dM [3] (k:=dM [3] (k:=dM [3] (k:=?_)))))
  refine dj_val rfl rfl (sub_of [3] rfl) (fun _ _ h=>r_idx ru154 so36 rfl rfl hj h) (dj_ld rfl rfl (sub_of [3] rfl) (fun a w ha hS=>r_ldS (y:=Go.Fw.ro yl) 0 rfl honl ag36 rfl hcell ha hS) ?_)
  have hv:∃pq cq,q.1=.slice pq (mB q.2).length cq:=by obtain ⟨pq,cq,h, -⟩:=hRq;exact ⟨pq,cq,h⟩
  obtain ⟨pq,cq,hqv⟩:=hv
  rw[hqv]
  refine dE (h:=fun Kd=>?_)
  refine j_callF hF hT2 h9 call73 rfl rfl (fun w1 _ _ hE1=>strange_c B w1 eb wl wv _ T hE1 (by omega) hwl) fun a3 T3 Ds ps cs ys p3 c3 y3 ha3 hφ3 hT3 hOs=>?_
  obtain ⟨rfl,hDs,ms,rfl,hms⟩:=hφ3
  refine Kd (sb [4]) (dE (h:=fun Kd=>?_))
  refine j_app8 3 2 rfl rfl hO hOs.sl ru36 rfl rfl scal_bytes (by omega) rfl fun y4 p4 c4 hO4=>?_
  refine Kd (sb [4]) (dE (h:=fun Kd=>?_))
  refine j_appR8 (E:=mB q.2) 3 rfl hO4 ru36 rfl rfl (fun w1 hf=>by rw[← hqv];exact hRq.keepF hf) rfl (by omega) rfl fun y5 p5 c5 hO5=>?_
  refine Kd (sb [4]) (dA [4] (k:=K7 (CJ.t [(0,_),(1,_),(5,_),(6,_)] (k:=cj_reg (jM (k:=?_))))))
  refine j_callE (R:=fun w1 v w'=>(∃y c,v=.slice (some ⟨y.b,0,none⟩) rem.length c∧y.on=true∧Own tB8 1 y (some ⟨y.b,0,none⟩) rem.length c (rem.map (·.1))∧Blk w' y.b tB8 y.cs∧w1.heap.size≤y.b)∧Fr 0 [] w1 w') call75 rfl rfl (fun w5 hH hf=>by
    have h:=clone8_c w5 (.slice (some ⟨yl.b,0,none⟩) rem.length cl) (rem.map (·.1)) ⟨yl,_,_,_,rfl,hOl,fun ho=>by have:=hH.get (i:=4) rfl ho;rw[← hOl.hT];exact this⟩ (by simpa using h0) (by simp;omega) (List.all_eq_true.2 fun v hv=>by obtain ⟨q,hq,rfl⟩:=List.mem_map.1 hv;exact hsc q (hsub q hq))
    rw[List.length_map]at h;exact h) fun w5 v w6 hH5 hf5 hR5=>?_
  obtain ⟨⟨y6,c6,rfl,hon6,hO6,hb6,hfr6⟩,hk6⟩:=hR5
  have hge6:w.heap.size≤y6.b:=Nat.le_trans hf5.size hfr6
  refine J.begin ⟨w,B,wN⟩ (⟨y6.b,tB8,y6.cs,true,true,none⟩::_) (hf5.fr hk6) ((hH5.fr hk6).add hb6 (fun _=>.inl hge6) (fun z hz he=>by have:=hH5.lt hz he;omega)) ?_
  refine jM (k:=jM (k:=?_))
  refine j_val rfl (fun _ _ h=>r_add rfl rfl h) ?_
  refine j_eqv (u:=.int .i64 ((j+1:Nat):Int)) (congrArg (Value.int .i64) (wrap64_small (z:=((j:Nat):Int)+1) (by omega) (by omega))) ?_
  refine j_callE (R:=fun w1 v w'=>(v=.slice (some ⟨y6.b,0,none⟩) (rem.length - 1) c6∧∃ex,Blk w' y6.b tB8 ((rem.map (·.1)).eraseIdx j++ex)∧((rem.map (·.1)).eraseIdx j++ex).length=c6)∧KeepX [y6.b] w1 w') call74 rfl rfl (fun w7 hH hf=>by
    have h:=delete8_c w7 y6 c6 j (rem.map (·.1)) hon6 (by rw[List.length_map];exact hO6) (hH.get (i:=0) rfl rfl) (by rw[List.length_map];exact hj) (by rw[List.length_map];omega) (List.all_eq_true.2 fun v hv=>by obtain ⟨q,hq,rfl⟩:=List.mem_map.1 hv;exact hsc q (hsub q hq))
    rw[List.length_map]at h;exact h) fun w7 v w8 hH7 hf7 hR7=>?_
  obtain ⟨⟨rfl,ex,hb8,hl8⟩,hk8⟩:=hR7
  have hf8:Fm.ok ⟨w,B,wN⟩ w8:=frK hf7 hk8 fun b hb=>by simp at hb;subst hb;exact .inl hge6
  have hH8:=Hp.chg8 hH7 hk8 hb8
  refine J.begin ⟨w,B,wN⟩ _ hf8 hH8 ?_
  refine jA (k:=j_nil (ej_blk (ej_then ?_)))
  exact fun w' hH hf=>hKL (rem.eraseIdx j,m++(ms++q.2),D++(mB ms++mB q.2),(y5,p5,c5),(a3,p3,c3,y3),(⟨y6.b,tB8,_,true,true,none⟩,some ⟨y6.b,0,none⟩,c6)) _ w' ⟨fun z hz=>hsub z (List.mem_of_mem_eraseIdx hz),by simp only[List.length_eraseIdx,if_pos hj];omega,hpw.sublist (List.eraseIdx_sublist _ _),by rw[mB_app,mB_app, ← hDm],fun g hg=>by
    rcases List.mem_append.1 hg with hg|hg
    ·exact hen g hg
    ·rcases List.mem_append.1 hg with hg|hg
     ·exact (hms g hg).1
     ·exact heq g hg,fun g hg=>by
    rcases List.mem_append.1 hg with hg|hg
    ·exact hmm g hg
    ·rcases List.mem_append.1 hg with hg|hg
     ·exact .inr (hms g hg).2
     ·exact .inl ⟨q.2,List.mem_map_of_mem hqs,hg⟩,fun k hk=>by rw[fl_app,fl_app,fl_strange hk hms,List.nil_append,List.append_assoc, ← fls_erase hk hpw hq];exact hfl k hk,by simp only[List.length_append,List.length_eraseIdx,if_pos hj];omega,by simp only[List.length_eraseIdx,if_pos hj];omega,by simpa[Nat.add_assoc]using hO5,hT3,⟨rfl,rfl,rfl,by simp[List.length_eraseIdx,hj],by have h:=hl8;rw[List.length_append,er_map,List.length_map]at h;show (rem.eraseIdx j).length≤c6;omega,.inl ⟨rfl,rfl,⟨ex,by rw[er_map]⟩,by simpa using hl8⟩⟩⟩ hf (hp_ro4 ((Hp.rot4 (hH.drop 3)).drop 4)) (by simp only[List.length_eraseIdx,if_pos hj];omega) (by rw[List.length_eraseIdx,if_pos hj,List.length_append,List.length_append, ← Nat.add_assoc];exact ⟨rfl,rfl,rfl,trivial⟩)
 ·have hr0:rem=[]:=List.eq_nil_of_length_eq_zero (by omega)
  subst hr0
  clear hKL
  refine cj_exit (K3 (sQ fun K8=>cj_reg (jM (k:=jA (k:=K8 (cj_ret ?_))))))
  exact ej_ret1 results34 rfl fun w' hH hf=>rt_end hF hT1 hH hf (i:=0) rfl hO rfl (by simp at ha1;omega) ⟨rfl,by simp[tl]at hlen⊢;omega,m,hDm,hen,fun k hk=>by have:=hfl k hk;simp[fls]at this;rw[this,List.flatMap_map],hmm⟩
def KS (ks:List Nat) (m:Msg):Prop:=∀k<20,k∉ks→fl k m=[]
def KA:List (List Nat)→List VM→Prop
 |[],[]=>True
 |a::ks,q::qs=>KS a q.2∧KA ks qs
 |_,_=>False
theorem KA.mem:∀{ks:List (List Nat)} {qs:List VM},KA ks qs→∀q∈qs,∃a∈ks,KS a q.2
 |a::ks,b::qs,h,q,hq=>by
    rcases List.mem_cons.1 hq with rfl|hq
    ·exact ⟨a,List.Mem.head _,h.1⟩
    ·obtain ⟨c,h1,h2⟩:=KA.mem h.2 q hq
     exact ⟨c,List.Mem.tail _ h1,h2⟩
 |[],[],_,_,hq=>by cases hq
 |[],_::_,h,_,_=>h.elim
 |_::_,[],h,_,_=>h.elim
theorem pw_of:∀{ks:List (List Nat)} {qs:List VM},KA ks qs→ks.Pairwise (fun a b=>∀x∈a,x∉b)→qs.Pairwise fun a b=>Dk a.2 b.2
 |[],[],_,_=>.nil
 |[],_::_,h,_=>h.elim
 |_::_,[],h,_=>h.elim
 |a::ks,q::qs,h,hp=>by
    obtain ⟨h1,h2⟩:=List.pairwise_cons.1 hp
    refine List.pairwise_cons.2 ⟨fun b hb k hk=>?_,pw_of h.2 h2⟩
    obtain ⟨c,hc,hs⟩:=KA.mem h.2 b hb
    by_cases hka:k∈a
    ·exact .inr (hs k hk (h1 c hc k hka))
    ·exact .inl (h.1 k hk hka)
theorem oneF_fl (k s:Nat) (m:Msg):oneF k s (fl k m)=oneF k s (flds m):=by
 unfold fl oneF
 generalize flds m=fs
 induction fs generalizing s with
 |nil=>rfl
 |cons f r ih=>
  by_cases h:fkey f=k
  ·rw[List.filter_cons_of_pos (by simpa using h)]
   simp only[List.foldl_cons,if_pos h];exact ih _
  ·rw[List.filter_cons_of_neg (by simpa using h)]
   simp only[List.foldl_cons,if_neg h];exact ih _
theorem TgM.ks {m:Msg} (h:TgM k n m):KS [k] m:=fun k' _ hn=>by
 rcases h with ⟨rfl, -⟩|⟨bs,rfl, -⟩
 ·rfl
 ·have h1:k≠k':=fun e=>hn (by simp[e])
  simp[fl,flds,fkey,h1]
theorem TgM.one {m:Msg} (h:TgM k n m):oneF k 0 (fl k m)=n:=by
 rcases h with ⟨rfl,rfl⟩|⟨bs,rfl, -⟩
 ·rfl
 ·simp[fl,flds,fkey,oneF,fnum]
theorem TgM.enc {m:Msg} (h:TgM k n m):MEnc2 m:=by
 rcases h with ⟨rfl, -⟩|⟨bs,rfl,h1⟩
 ·exact fun g hg=>by cases hg
 ·exact fun g hg=>by simp at hg;subst hg;exact h1
theorem TgM.len {m:Msg} (h:TgM k n m):(mB m).length≤20:=by
 rcases h with ⟨rfl, -⟩|⟨bs,rfl,t,v,rfl,h1,h2, -⟩
 ·simp[mB]
 ·have:=h1.le;have:=h2.le;simp[mB];omega
theorem TgM.wire {m:Msg} {tb:Nat→Nat} (h:TgM k n m) (ht:tb k≠2):∀g∈m,WireOK tb g.1:=by
 rcases h with ⟨rfl, -⟩|⟨bs,rfl, -⟩
 ·exact fun g hg=>by cases hg
 ·exact fun g hg=>by simp at hg;subst hg;exact ht
theorem Mx.one {ms:List Msg} {m q:Msg} (h:Mx ms m) (hk:k<20) (hq:ms.flatMap (Go.Proofs.YtifdadlhmlhfiaaGreatDoor.fl k)=Go.Proofs.YtifdadlhmlhfiaaGreatDoor.fl k q) (hT:TgM k n q):oneN k (flds m)=n:=by
 rw[oneN, ← oneF_fl,h.fl k hk,hq];exact hT.one
theorem Mx.ok {ms:List Msg} {m:Msg} {tb:Nat→Nat} (h:Mx ms m) (hs:∀q∈ms,∀g∈q,WireOK tb g.1) (ht:∀k,20≤k→tb k=0) (hl:(mB m).length≤2000000000):MOK tb m:=by
 refine ⟨h.enc,fun g hg=>?_,hl⟩
 rcases h.mem g hg with ⟨q,hq,hgq⟩|hge
 ·exact hs q hq g hgq
 ·obtain ⟨g1,g2⟩:=g
  cases g1 with
  |fld f=>
   cases f with
   |num k n=>have:=ht k hge;simp[WireOK,this]
   |bys k b=>have:=ht k hge;simp[WireOK,this]
  |fix8 k b=>exact ht k hge
  |fix4 k b=>exact ht k hge
theorem tx_get {T:List ByteArray} (h:T<+:T') {s:ByteArray} (hs:T[i]? =some s):T'[i]? =some s:=by
 obtain ⟨r,rfl⟩:=h
 rw[List.getElem?_append_left (List.getElem?_eq_some_iff.1 hs).1];exact hs
theorem tx_of {T:List ByteArray} {s:ByteArray} (h:T'=T∨T'=T++[s]):T<+:T'∧sumS T'≤sumS T+(s.size+1):=by
 rcases h with rfl|rfl
 ·exact ⟨List.prefix_refl _,by omega⟩
 ·exact ⟨List.prefix_append _ _,by simp[sumS]⟩
theorem len_sumT (T:List ByteArray):T.length≤sumS T:=by
 induction T with
 |nil=>simp
 |cons a r ih=>simp[sumS]at ih⊢;omega
section
variable {P:Program} {Q:Exit→Act→World→Prop} {n:Nat} {f:Fm} {e:Env} {H:Heap} {ops:Array Oper} {rest:List Oper}
theorem Hp.rot3' {a b c:Ent} {R:Heap} (h:Hp f w (a::b::c::R)):Hp f w (b::c::a::R):=by
 obtain ⟨h1,h2,h3,h4⟩:=Hp.swap h
 exact ⟨h1,h2,fun he z hz hze=>h3 he z (by simp at hz⊢;rcases hz with h|h|h<;>simp[h]) hze,Hp.swap h4⟩
theorem j_rot {a b c:Ent} {R:Heap} (k:J P ops Q n f e (b::c::a::R) rest):J P ops Q n f e (a::b::c::R) rest:=fun w hH hf=>k w (Hp.rot3' hH) hf
end
theorem nL {wr:Bool} (h1:Nat.beq T tEnc=false:=by exact rfl) (h2:Nat.beq T tStr=false:=by exact rfl):N9 ⟨b,T,cs,wr,true,none⟩:=⟨⟨Nat.ne_of_beq_eq_false h1,Nat.ne_of_beq_eq_false h2⟩,rfl⟩
theorem rd_of (hO:Own tU8 1 y p l c (D.map bv)) (hH:Hp f w H) (hy:H[i]? =some y):Rd8 w (.slice p l c) D:=Rd8.of_os (hO.os hH hy)
set_option maxHeartbeats 2000000 in
theorem typed_e (B:Nat) (w:World) (eb:Nat) (wl:List Int) (wv:Value) (a:Nat) (T:List ByteArray) (t:PType) (hE:Ecd B eb wl wv a T w) (ha:a<400000000000000) (hwl:wl.length≤1000000000) (hT:sumS T+(t.ty.size+1)+(t.unit.size+1)≤90000000):
  Calls Tryz.prog 30 #[ptr eb,.agg #[.string t.ty,.string t.unit]] w (Ret (RT B eb wl wv a 100 (fun T' D=>T<+:T'∧sumS T'≤sumS T+(t.ty.size+1)+(t.unit.size+1)∧D.length≤200∧∃m,D=mB m∧∀T'',T'<+:T''→TyM T'' t m) w)):=by
 obtain ⟨pT,cT,hb,yT,hOT,hyT⟩:=hE.st
 have hF:EF B eb wl wv w:=⟨hE.ge,Nat.le_trans hE.ge (Nat.le_of_lt hb.lt),hE.ways,hwl⟩
 have hl0:=len_sumT T
 refine startJ (args:=[_,_]) [(0,_),(1,.agg (List.toArray [_,_]))] B wN [eE eb wv a pT T.length cT,yT] func30 rfl ntmps30 rfl rfl (hp_of_ecd hF .nil trivial (Fr.refl _ _ _) hb hOT hyT) ?_
 refine sQ fun K1=>cj_reg (j_boxA (vs:=[_,_]) rfl rfl fun b3=>?_)
 refine j_rot ?_
 refine jA (k:=K1 ?_)
 refine cj_seqF fun K2 hK2=>cj_drawI 16 (lts [0,1,2,3,4,7,8,9,10]++(5,false)::(6,false)::(11,false)::(12,false)::(13,false)::(14,false)::lts [15]) [2] rfl (by kernel_rfl) (by kernel_rfl) (dM [2] (k:=dM [2] (k:=dM [2] (k:=dF [2] 0 ru29 so9 (k:=dH [2] 0 ag9 (k:=dM [2] (k:=dM [2] (k:=dF [2] 1 ru29 so9 (k:=dH [2] 0 ag9 (k:=dE (h:=fun Kd=>?_)))))))))))
 refine j_textF (s:=t.ty) hF hOT ⟨nL,trivial⟩ (by omega) (by omega) rfl rfl rfl fun a1 T1 i1 p1 c1 y1 ha1 hi1 hT1 hO1=>?_
 obtain ⟨hx1,hs1⟩:=tx_of hT1
 have hl1:=len_sumT T1
 have hi1l:=(List.getElem?_eq_some_iff.1 hi1).1
 refine Kd (sb [2]) (dE (h:=fun Kd=>?_))
 refine j_callF hF hO1 ⟨nL,trivial⟩ call35 rfl rfl (fun w1 _ _ hE1=>tagged_c B w1 eb wl wv _ 1 i1 T1 hE1 (by omega) (by omega) (by omega) hwl) fun a2 T2 D2 p2 c2 y2 p2' c2' y2' ha2 hφ2 hO2' hO2=>?_
 obtain ⟨rfl,m2,rfl,hm2⟩:=hφ2
 refine Kd (sb [3]) (dE (h:=fun Kd=>?_))
 refine j_textF (s:=t.unit) hF hO2' ⟨n9 hO2,nL,trivial⟩ (by omega) (by omega) rfl rfl rfl fun a3 T3 i3 p3 c3 y3 ha3 hi3 hT3 hO3=>?_
 obtain ⟨hx3,hs3⟩:=tx_of hT3
 have hl3:=len_sumT T3
 have hi3l:=(List.getElem?_eq_some_iff.1 hi3).1
 refine Kd (sb [3]) (dE (h:=fun Kd=>?_))
 refine j_callF hF hO3 ⟨n9 hO2,nL,trivial⟩ call35 rfl rfl (fun w1 _ _ hE1=>tagged_c B w1 eb wl wv _ 2 i3 T3 hE1 (by omega) (by omega) (by omega) hwl) fun a4 T4 D4 p4 c4 y4 p4' c4' y4' ha4 hφ4 hO4' hO4=>?_
 obtain ⟨rfl,m4,rfl,hm4⟩:=hφ4
 have hl2:=hm2.len
 have hl4:=hm4.len
 refine Kd (sb [4]) (dE (h:=fun Kd=>?_))
 refine j_bsliceN (vals:=[(0,.slice p2 (mB m2).length c2),(1,.slice p4 (mB m4).length c4)]) (cells:= #[.slice p2 (mB m2).length c2,.slice p4 (mB m4).length c4]) ru154 so36 zv36 rfl rfl rfl (by kernel_rfl) rfl fun bt=>?_
 refine j_rot ?_
 refine Kd (sb [5]) (dE (h:=fun Kd=>?_))
 refine j_callF hF hO4' ⟨nL,n9 hO4,n9 hO2,nL,trivial⟩ call34 rfl rfl (fun w1 hH _ hE1=>mixed_c B w1 eb wl wv _ T4 _ [(.slice p2 (mB m2).length c2,m2),(.slice p4 (mB m4).length c4,m4)] hE1 (by omega) hwl ((Own.all (T:=tB8) (b:=bt) (cs:=[.slice p2 (mB m2).length c2,.slice p4 (mB m4).length c4])).os hH (i:=2) rfl) (fun q hq=>by
   simp only[List.mem_cons,List.mem_nil_iff,or_false]at hq
   rcases hq with rfl|rfl
   ·exact ⟨rd_of hO2 hH (i:=4) rfl,rfl,hm2.enc⟩
   ·exact ⟨rd_of hO4 hH (i:=3) rfl,rfl,hm4.enc⟩) (by simp) (by simp[tl];omega) (pw_of (ks:=[[1],[2]]) ⟨hm2.ks,hm4.ks,trivial⟩ (by decide))) fun a5 T5 D5 p5 c5 y5 p5' c5' y5' ha5 hφ5 hO5' hO5=>?_
 obtain ⟨rfl,hl5,m5,rfl,hM5⟩:=hφ5
 have hl5':(mB m5).length≤200:=by simp[tl]at hl5;omega
 refine Kd (sb [6]) (dA [6] (k:=dj_end (ej_then (hK2 _ _ _ (CJ.t [(4,_)] (k:=cj_ret ?_))))))
 exact ej_ret1 results30 rfl fun w' hH hf=>rt_end hF hO5' hH hf (i:=0) rfl hO5 rfl (by simp at ha5;omega) ⟨hx1.trans hx3,by omega,hl5',m5,rfl,fun T'' hx=>⟨hM5.ok (fun q hq=>by
   simp only[List.map_cons,List.map_nil,List.mem_cons,List.mem_nil_iff,or_false]at hq
   rcases hq with rfl|rfl
   ·exact hm2.wire (by decide)
   ·exact hm4.wire (by decide)) (fun k hk=>by unfold tb2;rw[if_neg (by omega)]) (by omega),by
     rw[hM5.one (q:=m2) (by omega) (by simp[hm4.ks 1 (by omega) (by decide)]) hm2];exact tx_get (hx3.trans hx) hi1,by
     rw[hM5.one (q:=m4) (by omega) (by simp[hm2.ks 2 (by omega) (by decide)]) hm4];exact tx_get hx hi3⟩⟩
theorem ka_no (hk:k<20):∀{ks:List (List Nat)} {qs:List VM},KA ks qs→(∀a∈ks,k∉a)→(qs.map (·.2)).flatMap (fl k)=[]
 |[],[],_,_=>rfl
 |[],_::_,h,_=>h.elim
 |_::_,[],h,_=>h.elim
 |a::ks,q::qs,h,hn=>by
    rw[List.map_cons,List.flatMap_cons,h.1 k hk (hn a (List.Mem.head _)),ka_no hk h.2 fun b hb=>hn b (List.Mem.tail _ hb)];rfl
theorem ka_one:∀{ks:List (List Nat)} {qs:List VM},KA ks qs→ks.Pairwise (fun a b=>∀x∈a,x∉b)→∀{i:Nat} {q:VM} {a:List Nat},qs[i]? =some q→ks[i]? =some a→k<20→k∈a→(qs.map (·.2)).flatMap (fl k)=fl k q.2
 |[],_,_,_,i,q,a,_,h2,_,_=>by simp at h2
 |_::_,[],h,_,_,_,_,_,_,_,_=>h.elim
 |b::ks,q0::qs,h,hp,0,q,a,h1,h2,hk,ha=>by
    simp at h1 h2;subst h1;subst h2
    obtain ⟨h3, -⟩:=List.pairwise_cons.1 hp
    rw[List.map_cons,List.flatMap_cons,ka_no hk h.2 fun c hc=>h3 c hc k ha,List.append_nil]
 |b::ks,q0::qs,h,hp,i+1,q,a,h1,h2,hk,ha=>by
    obtain ⟨h3,h4⟩:=List.pairwise_cons.1 hp
    have h2':ks[i]? =some a:=by simpa using h2
    rw[List.map_cons,List.flatMap_cons,h.1 k hk (fun hb=>h3 a (List.mem_of_getElem? h2') k hb ha),List.nil_append]
    exact ka_one h.2 h4 (by simpa using h1) h2' hk ha
theorem truth_c (w:World) (b:Bool):Calls Tryz.prog 71 #[.bool b] w (Ret fun v w'=>v=.int .u64 ((if b then 1 else 0:Nat):Int)∧Fr 0 [] w w'):=by
 refine startJ (args:=[_]) [(0,_)] 0 [] [] func71 rfl ntmps71 rfl rfl .nil ?_
 refine sQ fun K1=>cj_reg (jA (k:=K1 (sQ fun K2=>sQ fun K3=>cj_reg (jM (k:=K3 ?_)))))
 refine cj_if rfl (fun h3=>?_) (fun h3=>?_)
 ·refine sQ fun K4=>cj_reg (jA (k:=K4 (cj_ret ?_)))
  exact ej_ret1 results71 rfl fun w' hH hf=>⟨by rw[h3];rfl,hf⟩
 ·refine cj_skip (K2 (sQ fun K5=>cj_reg (jA (k:=K5 (cj_ret ?_)))))
  exact ej_ret1 results71 rfl fun w' hH hf=>⟨by rw[h3];rfl,hf⟩
set_option maxHeartbeats 4000000 in
theorem mapping_e (B:Nat) (w:World) (eb:Nat) (wl:List Int) (wv:Value) (a:Nat) (T:List ByteArray) (t:PMapping) (i1 i2 i3 i4:Nat) (e1:t.id=i1) (e2:t.start=i2) (e3:t.limit=i3) (e4:t.offset=i4) (l1:i1<18446744073709551616) (l2:i2<18446744073709551616) (l3:i3<18446744073709551616) (l4:i4<18446744073709551616)
  (hE:Ecd B eb wl wv a T w) (ha:a<300000000000000) (hwl:wl.length≤1000000000) (hT:sumS T+(t.file.size+1)+(t.build.size+1)≤90000000):
  Calls Tryz.prog 32 #[ptr eb,.agg #[.int .u64 (i1:Nat),.int .u64 (i2:Nat),.int .u64 (i3:Nat),.int .u64 (i4:Nat),.string t.file,.string t.build,.bool t.fu,.bool t.fi,.bool t.li,.bool t.inl]] w (Ret (RT B eb wl wv a 200 (fun T' D=>T<+:T'∧sumS T'≤sumS T+(t.file.size+1)+(t.build.size+1)∧D.length≤1000∧∃m,D=mB m∧∀T'',T'<+:T''→MpM T'' t m) w)):=by
 obtain ⟨pT,cT,hb,yT,hOT,hyT⟩:=hE.st
 have hF:EF B eb wl wv w:=⟨hE.ge,Nat.le_trans hE.ge (Nat.le_of_lt hb.lt),hE.ways,hwl⟩
 have hl0:=len_sumT T
 refine startJ (args:=[_,_]) [(0,_),(1,.agg (List.toArray [_,_,_,_,_,_,_,_,_,_]))] B wN [eE eb wv a pT T.length cT,yT] func32 rfl ntmps32 rfl rfl (hp_of_ecd hF .nil trivial (Fr.refl _ _ _) hb hOT hyT) ?_
 refine sQ fun K1=>cj_reg (j_boxA (vs:=[_,_,_,_,_,_,_,_,_,_]) rfl rfl fun b3=>?_)
 refine j_rot ?_
 refine jA (k:=K1 ?_)
 refine cj_seqF fun K2 hK2=>cj_drawI 52 (lts [0,1,2,3,5,6,7,9,10,11,13,14,15,17,18,19,20,23,24,25,26,29,30,31,34,35,36,39,40,41,44,45,46]++(4,false)::(8,false)::(12,false)::(16,false)::(21,false)::(22,false)::(27,false)::(28,false)::(32,false)::(33,false)::(37,false)::(38,false)::(42,false)::(43,false)::(47,false)::(48,false)::(49,false)::(50,false)::lts [51]) [2] rfl (by kernel_rfl) (by kernel_rfl) (dM [2] (k:=dM [2] (k:=dF [2] 0 ru73 so71 (k:=dH [2] 0 ag71 (k:=dM [2] (k:=dF [2] 1 ru73 so71 (k:=dH [2] 0 ag71 (k:=dM [2] (k:=dF [2] 2 ru73 so71 (k:=dH [2] 0 ag71 (k:=dM [2] (k:=dF [2] 3 ru73 so71 (k:=?_)))))))))))))
 refine dH [2] 0 ag71 (k:=dM [2] (k:=dM [2] (k:=dF [2] 4 ru73 so9 (k:=dH [2] 0 ag9 (k:=dM [2] (k:=dM [2] (k:=dF [2] 5 ru73 so9 (k:=dH [2] 0 ag9 (k:=dM [2] (k:=dF [2] 6 ru73 so4 (k:=dH [2] 0 ag4 (k:=dM [2] (k:=dF [2] 7 ru73 so4 (k:=?_))))))))))))))
 refine dH [2] 0 ag4 (k:=dM [2] (k:=dF [2] 8 ru73 so4 (k:=dH [2] 0 ag4 (k:=dM [2] (k:=dF [2] 9 ru73 so4 (k:=dH [2] 0 ag4 (k:=dE (h:=fun Kd=>?_))))))))
 refine j_callF hF hOT ⟨nL,trivial⟩ call35 rfl rfl (fun w1 _ _ hE1=>tagged_c B w1 eb wl wv _ 1 i1 T hE1 (by omega) (by omega) l1 hwl) fun a11 T11 D11 p11 c11 y11 p11' c11' y11' ha11 hφ11 hO11' hO11=>?_
 obtain ⟨rfl,m11,rfl,hm11⟩:=hφ11
 have hl11:=hm11.len
 refine Kd (sb [3]) (dE (h:=fun Kd=>?_))
 refine j_callF hF hO11' ⟨n9 hO11,nL,trivial⟩ call35 rfl rfl (fun w1 _ _ hE1=>tagged_c B w1 eb wl wv _ 2 i2 T11 hE1 (by omega) (by omega) l2 hwl) fun a12 T12 D12 p12 c12 y12 p12' c12' y12' ha12 hφ12 hO12' hO12=>?_
 obtain ⟨rfl,m12,rfl,hm12⟩:=hφ12
 have hl12:=hm12.len
 refine Kd (sb [4]) (dE (h:=fun Kd=>?_))
 refine j_callF hF hO12' ⟨n9 hO12,n9 hO11,nL,trivial⟩ call35 rfl rfl (fun w1 _ _ hE1=>tagged_c B w1 eb wl wv _ 3 i3 T12 hE1 (by omega) (by omega) l3 hwl) fun a13 T13 D13 p13 c13 y13 p13' c13' y13' ha13 hφ13 hO13' hO13=>?_
 obtain ⟨rfl,m13,rfl,hm13⟩:=hφ13
 have hl13:=hm13.len
 refine Kd (sb [5]) (dE (h:=fun Kd=>?_))
 refine j_callF hF hO13' ⟨n9 hO13,n9 hO12,n9 hO11,nL,trivial⟩ call35 rfl rfl (fun w1 _ _ hE1=>tagged_c B w1 eb wl wv _ 4 i4 T13 hE1 (by omega) (by omega) l4 hwl) fun a14 T14 D14 p14 c14 y14 p14' c14' y14' ha14 hφ14 hO14' hO14=>?_
 obtain ⟨rfl,m14,rfl,hm14⟩:=hφ14
 have hl14:=hm14.len
 refine Kd (sb [6]) (dE (h:=fun Kd=>?_))
 refine j_textF (s:=t.file) hF hO14' ⟨n9 hO14,n9 hO13,n9 hO12,n9 hO11,nL,trivial⟩ (by omega) (by omega) rfl rfl rfl fun a15 T15 i15 p15 c15 y15 ha15 hi15 hT15 hO15=>?_
 obtain ⟨hx15,hs15⟩:=tx_of hT15
 have hl15:=len_sumT T15
 have hil15:=(List.getElem?_eq_some_iff.1 hi15).1
 refine Kd (sb [6]) (dE (h:=fun Kd=>?_))
 refine j_callF hF hO15 ⟨n9 hO14,n9 hO13,n9 hO12,n9 hO11,nL,trivial⟩ call35 rfl rfl (fun w1 _ _ hE1=>tagged_c B w1 eb wl wv _ 5 i15 T15 hE1 (by omega) (by omega) (by omega) hwl) fun a16 T16 D16 p16 c16 y16 p16' c16' y16' ha16 hφ16 hO16' hO16=>?_
 obtain ⟨rfl,m16,rfl,hm16⟩:=hφ16
 have hl16:=hm16.len
 refine Kd (sb [7]) (dE (h:=fun Kd=>?_))
 refine j_textF (s:=t.build) hF hO16' ⟨n9 hO16,n9 hO14,n9 hO13,n9 hO12,n9 hO11,nL,trivial⟩ (by omega) (by omega) rfl rfl rfl fun a17 T17 i17 p17 c17 y17 ha17 hi17 hT17 hO17=>?_
 obtain ⟨hx17,hs17⟩:=tx_of hT17
 have hl17:=len_sumT T17
 have hil17:=(List.getElem?_eq_some_iff.1 hi17).1
 refine Kd (sb [7]) (dE (h:=fun Kd=>?_))
 refine j_callF hF hO17 ⟨n9 hO16,n9 hO14,n9 hO13,n9 hO12,n9 hO11,nL,trivial⟩ call35 rfl rfl (fun w1 _ _ hE1=>tagged_c B w1 eb wl wv _ 6 i17 T17 hE1 (by omega) (by omega) (by omega) hwl) fun a18 T18 D18 p18 c18 y18 p18' c18' y18' ha18 hφ18 hO18' hO18=>?_
 obtain ⟨rfl,m18,rfl,hm18⟩:=hφ18
 have hl18:=hm18.len
 refine Kd (sb [8]) (dE (h:=fun Kd=>?_))
 refine j_callQ (φ:=fun v=>v=.int .u64 ((if t.fu then 1 else 0:Nat):Int)) call71 rfl rfl (fun w1 _ _=>truth_c w1 _) fun v hv=>?_
 subst hv
 refine Kd (sb [8]) (dE (h:=fun Kd=>?_))
 refine j_callF hF hO18' ⟨n9 hO18,n9 hO16,n9 hO14,n9 hO13,n9 hO12,n9 hO11,nL,trivial⟩ call35 rfl rfl (fun w1 _ _ hE1=>tagged_c B w1 eb wl wv _ 7 (if t.fu then 1 else 0) T18 hE1 (by omega) (by omega) (by split<;>omega) hwl) fun a19 T19 D19 p19 c19 y19 p19' c19' y19' ha19 hφ19 hO19' hO19=>?_
 obtain ⟨rfl,m19,rfl,hm19⟩:=hφ19
 have hl19:=hm19.len
 refine Kd (sb [9]) (dE (h:=fun Kd=>?_))
 refine j_callQ (φ:=fun v=>v=.int .u64 ((if t.fi then 1 else 0:Nat):Int)) call71 rfl rfl (fun w1 _ _=>truth_c w1 _) fun v hv=>?_
 subst hv
 refine Kd (sb [9]) (dE (h:=fun Kd=>?_))
 refine j_callF hF hO19' ⟨n9 hO19,n9 hO18,n9 hO16,n9 hO14,n9 hO13,n9 hO12,n9 hO11,nL,trivial⟩ call35 rfl rfl (fun w1 _ _ hE1=>tagged_c B w1 eb wl wv _ 8 (if t.fi then 1 else 0) T19 hE1 (by omega) (by omega) (by split<;>omega) hwl) fun a20 T20 D20 p20 c20 y20 p20' c20' y20' ha20 hφ20 hO20' hO20=>?_
 obtain ⟨rfl,m20,rfl,hm20⟩:=hφ20
 have hl20:=hm20.len
 refine Kd (sb [10]) (dE (h:=fun Kd=>?_))
 refine j_callQ (φ:=fun v=>v=.int .u64 ((if t.li then 1 else 0:Nat):Int)) call71 rfl rfl (fun w1 _ _=>truth_c w1 _) fun v hv=>?_
 subst hv
 refine Kd (sb [10]) (dE (h:=fun Kd=>?_))
 refine j_callF hF hO20' ⟨n9 hO20,n9 hO19,n9 hO18,n9 hO16,n9 hO14,n9 hO13,n9 hO12,n9 hO11,nL,trivial⟩ call35 rfl rfl (fun w1 _ _ hE1=>tagged_c B w1 eb wl wv _ 9 (if t.li then 1 else 0) T20 hE1 (by omega) (by omega) (by split<;>omega) hwl) fun a21 T21 D21 p21 c21 y21 p21' c21' y21' ha21 hφ21 hO21' hO21=>?_
 obtain ⟨rfl,m21,rfl,hm21⟩:=hφ21
 have hl21:=hm21.len
 refine Kd (sb [11]) (dE (h:=fun Kd=>?_))
 refine j_callQ (φ:=fun v=>v=.int .u64 ((if t.inl then 1 else 0:Nat):Int)) call71 rfl rfl (fun w1 _ _=>truth_c w1 _) fun v hv=>?_
 subst hv
 refine Kd (sb [11]) (dE (h:=fun Kd=>?_))
 refine j_callF hF hO21' ⟨n9 hO21,n9 hO20,n9 hO19,n9 hO18,n9 hO16,n9 hO14,n9 hO13,n9 hO12,n9 hO11,nL,trivial⟩ call35 rfl rfl (fun w1 _ _ hE1=>tagged_c B w1 eb wl wv _ 10 (if t.inl then 1 else 0) T21 hE1 (by omega) (by omega) (by split<;>omega) hwl) fun a22 T22 D22 p22 c22 y22 p22' c22' y22' ha22 hφ22 hO22' hO22=>?_
 obtain ⟨rfl,m22,rfl,hm22⟩:=hφ22
 have hl22:=hm22.len
 refine Kd (sb [12]) (dE (h:=fun Kd=>?_))
 refine j_bsliceN (vals:=[(0,.slice p11 (mB m11).length c11),(1,.slice p12 (mB m12).length c12),(2,.slice p13 (mB m13).length c13),(3,.slice p14 (mB m14).length c14),(4,.slice p16 (mB m16).length c16),(5,.slice p18 (mB m18).length c18),(6,.slice p19 (mB m19).length c19),(7,.slice p20 (mB m20).length c20),(8,.slice p21 (mB m21).length c21),(9,.slice p22 (mB m22).length c22)]) (cells:= #[.slice p11 (mB m11).length c11,.slice p12 (mB m12).length c12,.slice p13 (mB m13).length c13,.slice p14 (mB m14).length c14,.slice p16 (mB m16).length c16,.slice p18 (mB m18).length c18,.slice p19 (mB m19).length c19,.slice p20 (mB m20).length c20,.slice p21 (mB m21).length c21,.slice p22 (mB m22).length c22]) ru154 so36 zv36 rfl rfl rfl (by kernel_rfl) rfl fun bt=>?_
 refine j_rot ?_
 obtain ⟨qs,hqs⟩:∃qs:List VM,qs=[(.slice p11 (mB m11).length c11,m11),(.slice p12 (mB m12).length c12,m12),(.slice p13 (mB m13).length c13,m13),(.slice p14 (mB m14).length c14,m14),(.slice p16 (mB m16).length c16,m16),(.slice p18 (mB m18).length c18,m18),(.slice p19 (mB m19).length c19,m19),(.slice p20 (mB m20).length c20,m20),(.slice p21 (mB m21).length c21,m21),(.slice p22 (mB m22).length c22,m22)]:=⟨_,rfl⟩
 have hKA:KA [[1],[2],[3],[4],[5],[6],[7],[8],[9],[10]] qs:=by subst hqs;exact ⟨hm11.ks,hm12.ks,hm13.ks,hm14.ks,hm16.ks,hm18.ks,hm19.ks,hm20.ks,hm21.ks,hm22.ks,trivial⟩
 have hKP:([[1],[2],[3],[4],[5],[6],[7],[8],[9],[10]]:List (List Nat)).Pairwise (fun a b=>∀x∈a,x∉b):=by decide
 refine Kd (sb [13]) (dE (h:=fun Kd=>?_))
 refine j_callF hF hO22' ⟨nL,n9 hO22,n9 hO21,n9 hO20,n9 hO19,n9 hO18,n9 hO16,n9 hO14,n9 hO13,n9 hO12,n9 hO11,nL,trivial⟩ call34 rfl rfl (fun w1 hH _ hE1=>mixed_c B w1 eb wl wv _ T22 _ qs hE1 (by omega) hwl (by rw[hqs];exact (Own.all (T:=tB8) (b:=bt) (cs:=[.slice p11 (mB m11).length c11,.slice p12 (mB m12).length c12,.slice p13 (mB m13).length c13,.slice p14 (mB m14).length c14,.slice p16 (mB m16).length c16,.slice p18 (mB m18).length c18,.slice p19 (mB m19).length c19,.slice p20 (mB m20).length c20,.slice p21 (mB m21).length c21,.slice p22 (mB m22).length c22])).os hH (i:=2) rfl) (fun q hq=>by
   rw[hqs]at hq
   simp only[List.mem_cons,List.mem_nil_iff,or_false]at hq
   rcases hq with rfl|rfl|rfl|rfl|rfl|rfl|rfl|rfl|rfl|rfl
   ·exact ⟨rd_of hO11 hH (i:=12) rfl,rfl,hm11.enc⟩
   ·exact ⟨rd_of hO12 hH (i:=11) rfl,rfl,hm12.enc⟩
   ·exact ⟨rd_of hO13 hH (i:=10) rfl,rfl,hm13.enc⟩
   ·exact ⟨rd_of hO14 hH (i:=9) rfl,rfl,hm14.enc⟩
   ·exact ⟨rd_of hO16 hH (i:=8) rfl,rfl,hm16.enc⟩
   ·exact ⟨rd_of hO18 hH (i:=7) rfl,rfl,hm18.enc⟩
   ·exact ⟨rd_of hO19 hH (i:=6) rfl,rfl,hm19.enc⟩
   ·exact ⟨rd_of hO20 hH (i:=5) rfl,rfl,hm20.enc⟩
   ·exact ⟨rd_of hO21 hH (i:=4) rfl,rfl,hm21.enc⟩
   ·exact ⟨rd_of hO22 hH (i:=3) rfl,rfl,hm22.enc⟩) (by rw[hqs];simp) (by rw[hqs];simp[tl];omega) (pw_of hKA hKP)) fun a23 T23 D23 p23 c23 y23 p23' c23' y23' ha23 hφ23 hO23' hO23=>?_
 obtain ⟨rfl,hlm,mX,rfl,hMX⟩:=hφ23
 rw[hqs]at ha23
 simp only[List.length_cons,List.length_nil]at ha23
 have hlX:(mB mX).length≤900:=by rw[hqs]at hlm;simp[tl]at hlm;omega
 refine Kd (sb [14]) (dA [14] (k:=dj_end (ej_then (hK2 _ _ _ (CJ.t [(4,_)] (k:=cj_ret ?_))))))
 exact ej_ret1 results32 rfl fun w' hH hf=>rt_end hF hO23' hH hf (i:=0) rfl hO23 rfl (by omega) ⟨hx15.trans hx17,by omega,by omega,mX,rfl,fun T'' hx=>⟨hMX.ok (fun q hq=>by
   rw[hqs]at hq
   simp only[List.map_cons,List.map_nil,List.mem_cons,List.mem_nil_iff,or_false]at hq
   rcases hq with rfl|rfl|rfl|rfl|rfl|rfl|rfl|rfl|rfl|rfl
   ·exact hm11.wire (by decide)
   ·exact hm12.wire (by decide)
   ·exact hm13.wire (by decide)
   ·exact hm14.wire (by decide)
   ·exact hm16.wire (by decide)
   ·exact hm18.wire (by decide)
   ·exact hm19.wire (by decide)
   ·exact hm20.wire (by decide)
   ·exact hm21.wire (by decide)
   ·exact hm22.wire (by decide)) (fun k hk=>by unfold tb10;rw[if_neg (by omega)]) (by omega),by
     rw[hMX.one (by omega) (ka_one hKA hKP (i:=0) (by rw[hqs];rfl) rfl (by omega) (by decide)) hm11,e1],by
     rw[hMX.one (by omega) (ka_one hKA hKP (i:=1) (by rw[hqs];rfl) rfl (by omega) (by decide)) hm12,e2],by
     rw[hMX.one (by omega) (ka_one hKA hKP (i:=2) (by rw[hqs];rfl) rfl (by omega) (by decide)) hm13,e3],by
     rw[hMX.one (by omega) (ka_one hKA hKP (i:=3) (by rw[hqs];rfl) rfl (by omega) (by decide)) hm14,e4],by
     rw[hMX.one (by omega) (ka_one hKA hKP (i:=4) (by rw[hqs];rfl) rfl (by omega) (by decide)) hm16];exact tx_get (hx17.trans hx) hi15,by
     rw[hMX.one (by omega) (ka_one hKA hKP (i:=5) (by rw[hqs];rfl) rfl (by omega) (by decide)) hm18];exact tx_get hx hi17,by
     rw[hMX.one (by omega) (ka_one hKA hKP (i:=6) (by rw[hqs];rfl) rfl (by omega) (by decide)) hm19];cases t.fu<;>rfl,by
     rw[hMX.one (by omega) (ka_one hKA hKP (i:=7) (by rw[hqs];rfl) rfl (by omega) (by decide)) hm20];cases t.fi<;>rfl,by
     rw[hMX.one (by omega) (ka_one hKA hKP (i:=8) (by rw[hqs];rfl) rfl (by omega) (by decide)) hm21];cases t.li<;>rfl,by
     rw[hMX.one (by omega) (ka_one hKA hKP (i:=9) (by rw[hqs];rfl) rfl (by omega) (by decide)) hm22];cases t.inl<;>rfl⟩⟩
theorem keep0 {w0:World} {W:List Nat} (hK:Keep w0 w) (hB:w0.heap.size≤B) (h:Fr B W w w1):Keep w0 w1:=fun b o ho=>
 h.keep b o (hK b o ho) (.inl (by have:=(Array.getElem?_eq_some_iff.1 ho).1;omega))
theorem nat_of_u (h:IntKind.u64.wrap z=z):∃i:Nat,z=i∧i<18446744073709551616:=by
 obtain ⟨h1,h2⟩:=u64_range h
 exact ⟨z.toNat,by omega,by omega⟩
theorem uN_lt (z:Int):uN z<18446744073709551616:=by
 have h:IntKind.u64.wrap (IntKind.u64.wrap z)=IntKind.u64.wrap z:=by simp[IntKind.wrap,IntKind.signed,IntKind.bits]
 obtain ⟨h1,h2⟩:=u64_range h
 unfold uN;omega
theorem wrap_uN (h:IntKind.i64.wrap z=z):IntKind.i64.wrap ((uN z:Nat):Int)=z:=by
 rw[← uN_eq]
 simp only[IntKind.wrap,IntKind.signed,IntKind.bits]at h⊢
 simp at h⊢
 omega
theorem tbLc_hi (k:Nat) (hk:20≤k):tbLc k=0:=by unfold tbLc;rw[if_neg (by omega)];exact if_neg (by omega)
theorem tbSm_hi (k:Nat) (hk:20≤k):tbSm k=0:=by unfold tbSm;rw[if_neg (by omega)];exact if_neg (by omega)
theorem tbPf_hi (k:Nat) (hk:20≤k):tbPf k=0:=by unfold tbPf;rw[if_neg (by omega),if_neg (by omega)];exact if_neg (by omega)
def subM (k:Nat) (L:List (Msg×List Nat)):Msg:=L.map fun q=>(.fld (.bys k (mB q.1)),q.2)
theorem subM_app (k:Nat) (L:List (Msg×List Nat)) (q:Msg×List Nat):subM k (L++[q])=subM k L++[(.fld (.bys k (mB q.1)),q.2)]:=by simp[subM]
theorem subM_fl (k:Nat) (L:List (Msg×List Nat)):fl k (subM k L)=L.map fun q=>.bys k (mB q.1):=by
 induction L with
 |nil=>rfl
 |cons q r ih=>
  simp only[fl,flds,subM,List.map_cons,List.filterMap_cons,List.map_map]at ih⊢
  rw[List.filter_cons_of_pos (by simp[fkey]),ih]
theorem subM_ks (k:Nat) (L:List (Msg×List Nat)):KS [k] (subM k L):=fun k' _ hn=>by
 have h1:k≠k':=fun e=>hn (by simp[e])
 unfold fl flds subM
 rw[List.filter_eq_nil_iff]
 intro f hf
 obtain ⟨g,hg,he⟩:=List.mem_filterMap.1 hf
 obtain ⟨q, -,rfl⟩:=List.mem_map.1 hg
 simp at he
 subst he
 exact fun h=>h1 (of_decide_eq_true h)
theorem subM_enc {L:List (Msg×List Nat)} (h:∀q∈L,GEnc (.fld (.bys k (mB q.1))) q.2):MEnc2 (subM k L):=fun g hg=>by
 obtain ⟨q,hq,rfl⟩:=List.mem_map.1 hg
 exact h q hq
theorem subM_wire {L:List (Msg×List Nat)} {tb:Nat→Nat} (h:tb k≠1):∀g∈subM k L,WireOK tb g.1:=fun g hg=>by
 obtain ⟨q,hq,rfl⟩:=List.mem_map.1 hg
 exact h
theorem subM_sub {m:Msg} {L:List (Msg×List Nat)} {φ:Nat→Msg→Prop} (h:fl k m=fl k (subM k L)) (hφ:∀(i:Nat) q,L[i]? =some q→φ i q.1):GSub k (flds m) (L.map (·.1)) φ:=by
 refine ⟨?_,fun i m' hm=>?_⟩
 ·show (fl k m).map fbytes=_
  rw[h,subM_fl,List.map_map,List.map_map]
  exact List.map_congr_left fun q _=>rfl
 ·rw[List.getElem?_map]at hm
  obtain ⟨q,h1,rfl⟩:=Option.map_eq_some_iff.1 hm
  exact hφ i q h1
theorem gbys_len {E:List Nat} (h:GEnc (.fld (.bys k E)) D):D.length≤20+E.length:=by
 obtain ⟨t,l,rfl,h1,h2, -⟩:=h
 have:=h1.le;have:=h2.le
 simp;omega
theorem mB_one (g:GFld) (D:List Nat):mB [(g,D)]=D:=by simp[mB]
set_option maxHeartbeats 4000000 in
theorem location_e (B:Nat) (w0 w:World) (eb:Nat) (wl:List Int) (wv:Value) (a:Nat) (T:List ByteArray) (x:PProf) (l:PLoc) (pc lc:List Value) (hx:RProf w0 pc x) (hl:RLoc w0 lc l) (hK:Keep w0 w) (hB:w0.heap.size≤B) (hln:l.lines.length≤60) (hfn:∀n∈l.lines,n.fn<x.funcs.length) (hmp:l.mapping<x.mappings.length)
  (hE:Ecd B eb wl wv a T w) (ha:a<200000000000000) (hwl:wl.length≤1000000000):
  Calls Tryz.prog 33 #[ptr eb,.agg pc.toArray,.agg lc.toArray] w (Ret (RT B eb wl wv a 2500 (fun T' D=>T'=T∧D.length≤25000∧∃m,D=mB m∧LcM x l m) w)):=by
 obtain ⟨pT,cT,hb,yT,hOT,hyT⟩:=hE.st
 have hF:EF B eb wl wv w:=⟨hE.ge,Nat.le_trans hE.ge (Nat.le_of_lt hb.lt),hE.ways,hwl⟩
 obtain ⟨av,sv,mv,lv,fv,cmv,rfl, -, -,hxm, -,hxf, -⟩:=hx
 obtain ⟨pm,cm,rfl,hml,hmx⟩:=hxm.open
 obtain ⟨pf,cf,rfl,hfl,hfx⟩:=hxf.open
 obtain ⟨nv,rfl,hi1,hi2,hi3,hlL⟩:=hl
 obtain ⟨pl,cl,rfl,hll,hlx⟩:=hlL.open
 obtain ⟨i1,e1,l1⟩:=nat_of_u hi1
 obtain ⟨i3,e3,l3⟩:=nat_of_u hi3
 rw[e1,e3]
 refine startJ (args:=[_,_,_]) [(0,_),(1,.agg (List.toArray [_,_,_,_,_,_,_,_,_,_,_,_,_,_])),(2,.agg (List.toArray [_,_,_,_]))] B wN [eE eb wv a pT T.length cT,yT] func33 rfl ntmps33 rfl rfl (hp_of_ecd hF .nil trivial (Fr.refl _ _ _) hb hOT hyT) ?_
 refine sQ fun K1=>cj_reg (j_boxA (vs:=[_,_,_,_,_,_,_,_,_,_,_,_,_,_]) rfl rfl fun b4=>?_)
 refine j_rot ?_
 refine j_boxA (vs:=[_,_,_,_]) rfl rfl fun b5=>?_
 refine j_rot ?_
 refine jA (k:=K1 ?_)
 refine cj_seqF fun K2 hK2=>cj_reg (jA (k:=j_nil (ej_then (hK2 _ _ _ (sQ fun K3=>sQ fun K4=>cj_reg (jF 3 ru77 so75 (k:=jH 2 ag75 (k:=jE ru75 (k:=jM (k:=K4 (cj_block ?_)))))))))))
 refine cj_loop (σ:=Nat×(Nat×Option Addr×Nat×Ent)×(Ent×Option Addr×Nat)×List (Msg×List Nat)) (fun s=>[(0,ptr eb),(4,ptr b4),(5,ptr b5),(7,.slice s.2.2.1.2.1 (mB (subM 4 s.2.2.2)).length s.2.2.1.2.2),(13,.slice pl l.lines.length cl),(14,.int .i64 (l.lines.length:Nat)),(15,.int .i64 (s.1:Nat))])
  (fun s=>[eE eb wv s.2.1.1 s.2.1.2.1 T.length s.2.1.2.2.1,s.2.1.2.2.2,s.2.2.1.1,⟨b5,77,[.int .u64 (i1:Nat),.int .i64 l.mapping,.int .u64 (i3:Nat),.slice pl l.lines.length cl],true,true,none⟩,⟨b4,31,[av,.string x.deflt,sv,.slice pm x.mappings.length cm,lv,.slice pf x.funcs.length cf,cmv,.string x.drop,.string x.keep,.int .i64 x.time,.int .i64 x.dur,.int .i64 x.period,.string x.per.ty,.string x.per.unit],true,true,none⟩])
  (fun s _=>s.1≤l.lines.length∧s.2.2.2.length=s.1∧(∀(i:Nat) q n,s.2.2.2[i]? =some q→l.lines[i]? =some n→LnM x n q.1)∧(∀q∈s.2.2.2,GEnc (.fld (.bys 4 (mB q.1))) q.2)∧(mB (subM 4 s.2.2.2)).length≤400*s.1∧s.2.1.1≤a+40*s.1∧
   Own tU8 1 s.2.2.1.1 s.2.2.1.2.1 (mB (subM 4 s.2.2.2)).length s.2.2.1.2.2 ((mB (subM 4 s.2.2.2)).map bv)∧Own tStr 1 s.2.1.2.2.2 s.2.1.2.1 T.length s.2.1.2.2.1 (T.map .string))
  (fun s=>l.lines.length - s.1) (0,(a,pT,cT,yT),(nilE tU8,none,0),[]) sR (fun w' hH hf=>⟨by
    have h2:=hH.2.2.2.2.2.2
    exact hp_of_ecd hF (Hp.off h2) ⟨n9 (Own.nil (T:=tU8) (sz:=1)),nL,nL,trivial⟩ (Fr.refl _ _ _) (hH.get (i:=0) rfl rfl) hOT (yt_of hF hOT hH),Nat.zero_le _,rfl,fun i q n h=>(by simp at h),fun q h=>(by simp at h),Nat.zero_le _,Nat.le_refl _,Own.nil,hOT⟩) ?_
 rintro ⟨k,⟨a1,p1,c1,y1⟩,⟨y,p,c⟩,L⟩ w1 ⟨hk,hLk,hLn,hL,hlen,ha1,hO,hT1⟩ hf1 hH1 KL hKL
 try dsimp only at hk hLk hLn hL hlen ha1 hO hT1
 refine C.begin _ _ hf1 hH1 ?_
 try dsimp only
 refine sQ fun K5=>cj_reg (jS (k:=K5 (sQ fun K6=>?_)))
 refine cj_dec rfl (fun hlt=>?_) (fun hlt=>?_)
 ·have hlt':k<l.lines.length:=by omega
  have hfnk:=hfn _ (List.getElem_mem hlt')
  obtain ⟨b,o,cs,rfl,hcs,hR,hcell⟩:=hlx k l.lines[k] (List.getElem?_eq_getElem hlt')
  obtain ⟨rfl, -,hwl2⟩:=hR
  refine cj_skip (K6 (sQ fun K7=>cj_block (sQ fun K8=>cj_reg (jJ ru75 so114 (k:=?_)))))
  refine j_valw rfl (fun a w ha hH hf=>r_loadA (vs:=[.int .i64 l.lines[k].fn,.int .i64 l.lines[k].line]) ag114 so114 rfl rfl (hcell w (keep0 hK hB hf)) ha) (j_allocA (zs:=[(.int .i64 0),(.int .i64 0)]) zv114 rfl fun b9=>?_)
  refine j_storeW 0 rfl rfl rfl rfl so114 rfl rfl rfl rfl rfl ?_
  refine j_rot ?_
  refine K8 (sQ fun K9=>cj_reg (jA (k:=?_)))
  refine j_eqv (u:=.int .u64 ((0:Nat):Int)) rfl ?_
  refine K9 (sQ fun K10=>sQ fun K11=>cj_reg (jF 0 ru114 so3 (k:=jH 2 ag3 (k:=?_))))
  refine j_val rfl (fun _ _ h=>r_geq rfl rfl h) (K11 (CJ.t [(0,_),(4,_),(5,_),(7,_),(9,_),(10,_),(13,_),(14,_),(15,_),(21,_)] (k:=?_)))
  refine cj_dec rfl (fun h21=>?_) (fun h21=>?_)
  ·have h0:0≤l.lines[k].fn:=by omega
   have hq:l.lines[k].fn.toNat<x.funcs.length:=by omega
   obtain ⟨bf,of,cs',rfl, -,⟨hcs',hwf, -⟩,hcellf⟩:=hfx l.lines[k].fn.toNat _ (List.getElem?_eq_getElem hq)
   obtain ⟨fi,efi,lfi⟩:=nat_of_u hwf
   rw[efi]at hcs'
   subst hcs'
   have hfid:((fi:Nat):Int)=fnid x l.lines[k].fn:=by
    unfold fnid idAt
    rw[if_pos h0,List.getD_eq_getElem?_getD,List.getElem?_map,List.getElem?_eq_getElem hq]
    exact efi.symm
   refine cj_reg (jF 5 ru31 so26 (k:=jH 5 ag26 (k:=jF 0 ru114 so3 (k:=jH 2 ag3 (k:=?_)))))
   refine j_eqv (u:=.int .i64 (l.lines[k].fn.toNat:Nat)) (congrArg (Value.int .i64) (Int.toNat_of_nonneg h0).symm) ?_
   refine jJ ru26 so80 (k:=jF 0 ru80 so71 (k:=?_))
   refine j_valw rfl (fun a w ha hH hf=>r_load ag71 rfl (hcellf w (keep0 hK hB hf) 0 _ rfl) ha) (jA (k:=K10 ?_))
   refine cj_drawI 16 (lts [0,1,2,3,4,6,7,8,9]++(5,false)::(10,false)::(11,false)::(12,false)::(13,false)::(14,false)::lts [15]) [2] rfl (by kernel_rfl) (by kernel_rfl) (dM [2] (k:=dM [2] (k:=dM [2] (k:=dM [2] (k:=dM [2] (k:=dM [2] (k:=dF [2] 1 ru114 so2 (k:=dH [2] 0 ag2 (k:=?_)))))))))
   refine dj_val rfl rfl (sub_of [2] rfl) (fun _ _ h=>r_conv ru2 ru71 rfl h) ?_
   refine dj_eqv (u:=.int .u64 ((uN l.lines[k].line:Nat):Int)) (congrArg (Value.int .u64) (uN_eq _)) ?_
   refine dE (h:=fun Kd=>?_)
   refine j_callF hF hT1 ⟨nL,n9 hO,nL,nL,trivial⟩ call35 rfl rfl (fun w1 _ _ hE1=>tagged_c B w1 eb wl wv _ 1 _ T hE1 (by omega) (by omega) (by first|exact lfi|decide) hwl) fun a11 T11 D11 p11 c11 y11 p11' c11' y11' ha11 hφ11 hO11' hO11=>?_
   obtain ⟨rfl,m11,rfl,hm11⟩:=hφ11
   have hl11:=hm11.len
   refine Kd (sb [3]) (dE (h:=fun Kd=>?_))
   refine j_callF hF hO11' ⟨n9 hO11,nL,n9 hO,nL,nL,trivial⟩ call35 rfl rfl (fun w1 _ _ hE1=>tagged_c B w1 eb wl wv _ 2 (uN l.lines[k].line) T11 hE1 (by omega) (by omega) (uN_lt _) hwl) fun a12 T12 D12 p12 c12 y12 p12' c12' y12' ha12 hφ12 hO12' hO12=>?_
   obtain ⟨rfl,m12,rfl,hm12⟩:=hφ12
   have hl12:=hm12.len
   refine Kd (sb [4]) (dE (h:=fun Kd=>?_))
   refine j_bsliceN (vals:=[(0,.slice p11 (mB m11).length c11),(1,.slice p12 (mB m12).length c12)]) (cells:= #[.slice p11 (mB m11).length c11,.slice p12 (mB m12).length c12]) ru154 so36 zv36 rfl rfl rfl (by kernel_rfl) rfl fun bt=>?_
   refine j_rot ?_
   obtain ⟨qs,hqs⟩:∃qs:List VM,qs=[(.slice p11 (mB m11).length c11,m11),(.slice p12 (mB m12).length c12,m12)]:=⟨_,rfl⟩
   have hKA:KA [[1],[2]] qs:=by subst hqs;exact ⟨hm11.ks,hm12.ks,trivial⟩
   have hKP:([[1],[2]]:List (List Nat)).Pairwise (fun a b=>∀x∈a,x∉b):=by decide
   refine Kd (sb [5]) (dE (h:=fun Kd=>?_))
   refine j_callF hF hO12' ⟨nL,n9 hO12,n9 hO11,nL,n9 hO,nL,nL,trivial⟩ call34 rfl rfl (fun w1 hH _ hE1=>mixed_c B w1 eb wl wv _ T12 _ qs hE1 (by omega) hwl (by rw[hqs];exact (Own.all (T:=tB8) (b:=bt) (cs:=[.slice p11 (mB m11).length c11,.slice p12 (mB m12).length c12])).os hH (i:=2) rfl) (fun q hq=>by
     rw[hqs]at hq
     simp only[List.mem_cons,List.mem_nil_iff,or_false]at hq
     rcases hq with rfl|rfl
     ·exact ⟨rd_of hO11 hH (i:=4) rfl,rfl,hm11.enc⟩
     ·exact ⟨rd_of hO12 hH (i:=3) rfl,rfl,hm12.enc⟩) (by rw[hqs];simp) (by rw[hqs];simp[tl];omega) (pw_of hKA hKP)) fun a13 T13 D13 p13 c13 y13 p13' c13' y13' ha13 hφ13 hO13' hO13=>?_
   obtain ⟨rfl,hlm,mX,rfl,hMX⟩:=hφ13
   rw[hqs]at ha13
   simp only[List.length_cons,List.length_nil]at ha13
   have hlX:(mB mX).length≤260:=by rw[hqs]at hlm;simp[tl]at hlm;omega
   refine Kd (sb [6]) (dE (h:=fun Kd=>?_))
   refine j_callF hF hO13' ⟨n9 hO13,nL,n9 hO12,n9 hO11,nL,n9 hO,nL,nL,trivial⟩ call29 rfl rfl (fun w1 hH _ hE1=>bytes_e B w1 eb wl wv _ 4 _ _ (mB mX) hE1 (by omega) (by omega) (rd_of hO13 hH (i:=2) rfl) (by omega) hwl) fun a20 T20 D20 p20 c20 y20 p20' c20' y20' ha20 hφ20 hO20' hO20=>?_
   obtain ⟨rfl,hG⟩:=hφ20
   have hGl:=gbys_len hG
   refine Kd (sb [7]) (dE (h:=fun Kd=>?_))
   refine j_app8 8 2 rfl rfl hO hO20.sl ru36 rfl rfl scal_bytes (by omega) rfl fun y4 p4 c4 hO4=>?_
   refine Kd (sb [7]) (dA [7] (k:=K7 (CJ.t [(0,_),(4,_),(5,_),(7,_),(13,_),(14,_),(15,_)] (k:=cj_reg (jI (k:=jM (k:=j_nil (ej_then ?_))))))))
   have hLM:LnM x l.lines[k] mX:=⟨hMX.ok (fun q hq=>by
     rw[hqs]at hq
     simp only[List.map_cons,List.map_nil,List.mem_cons,List.mem_nil_iff,or_false]at hq
     rcases hq with rfl|rfl
     ·exact hm11.wire (by decide)
     ·exact hm12.wire (by decide)) (fun k hk=>by unfold tb2;rw[if_neg (by omega)]) (by omega),by
       rw[hMX.one (by omega) (ka_one hKA hKP (i:=0) (by rw[hqs];rfl) rfl (by omega) (by decide)) hm11];exact hfid,by
       rw[hMX.one (by omega) (ka_one hKA hKP (i:=1) (by rw[hqs];rfl) rfl (by omega) (by decide)) hm12];exact wrap_uN hwl2⟩
   have hmb:mB (subM 4 (L++[(mX,D20)]))=mB (subM 4 L)++D20:=by rw[subM_app,mB_app,mB_one]
   exact fun w' hH hf=>hKL (k+1,(a20,p20',c20',y20'),(y4,p4,c4),L++[(mX,D20)]) _ w' ⟨hlt',by simp[hLk],fun i q n hqi hni=>by
     by_cases hi:i<L.length
     ·rw[List.getElem?_append_left hi]at hqi;exact hLn i q n hqi hni
     ·rw[List.getElem?_append_right (by omega)]at hqi
      have hi0:i=k:=by have:=(List.getElem?_eq_some_iff.1 hqi).1;simp at this;omega
      subst hi0
      rw[hLk,Nat.sub_self]at hqi
      simp at hqi
      rw[List.getElem?_eq_getElem hlt']at hni
      simp at hni
      subst hqi;subst hni
      exact hLM,fun q hq=>by
     rcases List.mem_append.1 hq with hq|hq
     ·exact hL q hq
     ·simp at hq;subst hq;exact hG,by show (mB (subM 4 (L++[(mX,D20)]))).length≤400*(k+1);rw[hmb,List.length_append];omega,by show a20≤a+40*(k+1);omega,by
     show Own tU8 1 y4 p4 (mB (subM 4 (L++[(mX,D20)]))).length c4 ((mB (subM 4 (L++[(mX,D20)]))).map bv)
     rw[hmb,List.length_append,List.map_append];exact hO4,hO20'⟩ hf ((((((hH.drop 2).drop 2).drop 2).drop 2).drop 2).drop 2) (by show l.lines.length - (k+1)<l.lines.length - k;omega) (by
     dsimp only
     rw[hmb,List.length_append]
     exact ⟨rfl,rfl,rfl,rfl,rfl,rfl,rfl,trivial⟩)
  ·have hfid:(((0:Nat):Nat):Int)=fnid x l.lines[k].fn:=by
    unfold fnid idAt
    rw[if_neg (by omega)];rfl
   refine cj_skip (K10 (cj_drawI 16 (lts [0,1,2,3,4,6,7,8,9]++(5,false)::(10,false)::(11,false)::(12,false)::(13,false)::(14,false)::lts [15]) [2] rfl (by kernel_rfl) (by kernel_rfl) (dM [2] (k:=dM [2] (k:=dM [2] (k:=dM [2] (k:=dM [2] (k:=dM [2] (k:=dF [2] 1 ru114 so2 (k:=dH [2] 0 ag2 (k:=?_)))))))))))
   refine dj_val rfl rfl (sub_of [2] rfl) (fun _ _ h=>r_conv ru2 ru71 rfl h) ?_
   refine dj_eqv (u:=.int .u64 ((uN l.lines[k].line:Nat):Int)) (congrArg (Value.int .u64) (uN_eq _)) ?_
   refine dE (h:=fun Kd=>?_)
   refine j_callF hF hT1 ⟨nL,n9 hO,nL,nL,trivial⟩ call35 rfl rfl (fun w1 _ _ hE1=>tagged_c B w1 eb wl wv _ 1 _ T hE1 (by omega) (by omega) (by first|exact lfi|decide) hwl) fun a11 T11 D11 p11 c11 y11 p11' c11' y11' ha11 hφ11 hO11' hO11=>?_
   obtain ⟨rfl,m11,rfl,hm11⟩:=hφ11
   have hl11:=hm11.len
   refine Kd (sb [3]) (dE (h:=fun Kd=>?_))
   refine j_callF hF hO11' ⟨n9 hO11,nL,n9 hO,nL,nL,trivial⟩ call35 rfl rfl (fun w1 _ _ hE1=>tagged_c B w1 eb wl wv _ 2 (uN l.lines[k].line) T11 hE1 (by omega) (by omega) (uN_lt _) hwl) fun a12 T12 D12 p12 c12 y12 p12' c12' y12' ha12 hφ12 hO12' hO12=>?_
   obtain ⟨rfl,m12,rfl,hm12⟩:=hφ12
   have hl12:=hm12.len
   refine Kd (sb [4]) (dE (h:=fun Kd=>?_))
   refine j_bsliceN (vals:=[(0,.slice p11 (mB m11).length c11),(1,.slice p12 (mB m12).length c12)]) (cells:= #[.slice p11 (mB m11).length c11,.slice p12 (mB m12).length c12]) ru154 so36 zv36 rfl rfl rfl (by kernel_rfl) rfl fun bt=>?_
   refine j_rot ?_
   obtain ⟨qs,hqs⟩:∃qs:List VM,qs=[(.slice p11 (mB m11).length c11,m11),(.slice p12 (mB m12).length c12,m12)]:=⟨_,rfl⟩
   have hKA:KA [[1],[2]] qs:=by subst hqs;exact ⟨hm11.ks,hm12.ks,trivial⟩
   have hKP:([[1],[2]]:List (List Nat)).Pairwise (fun a b=>∀x∈a,x∉b):=by decide
   refine Kd (sb [5]) (dE (h:=fun Kd=>?_))
   refine j_callF hF hO12' ⟨nL,n9 hO12,n9 hO11,nL,n9 hO,nL,nL,trivial⟩ call34 rfl rfl (fun w1 hH _ hE1=>mixed_c B w1 eb wl wv _ T12 _ qs hE1 (by omega) hwl (by rw[hqs];exact (Own.all (T:=tB8) (b:=bt) (cs:=[.slice p11 (mB m11).length c11,.slice p12 (mB m12).length c12])).os hH (i:=2) rfl) (fun q hq=>by
     rw[hqs]at hq
     simp only[List.mem_cons,List.mem_nil_iff,or_false]at hq
     rcases hq with rfl|rfl
     ·exact ⟨rd_of hO11 hH (i:=4) rfl,rfl,hm11.enc⟩
     ·exact ⟨rd_of hO12 hH (i:=3) rfl,rfl,hm12.enc⟩) (by rw[hqs];simp) (by rw[hqs];simp[tl];omega) (pw_of hKA hKP)) fun a13 T13 D13 p13 c13 y13 p13' c13' y13' ha13 hφ13 hO13' hO13=>?_
   obtain ⟨rfl,hlm,mX,rfl,hMX⟩:=hφ13
   rw[hqs]at ha13
   simp only[List.length_cons,List.length_nil]at ha13
   have hlX:(mB mX).length≤260:=by rw[hqs]at hlm;simp[tl]at hlm;omega
   refine Kd (sb [6]) (dE (h:=fun Kd=>?_))
   refine j_callF hF hO13' ⟨n9 hO13,nL,n9 hO12,n9 hO11,nL,n9 hO,nL,nL,trivial⟩ call29 rfl rfl (fun w1 hH _ hE1=>bytes_e B w1 eb wl wv _ 4 _ _ (mB mX) hE1 (by omega) (by omega) (rd_of hO13 hH (i:=2) rfl) (by omega) hwl) fun a20 T20 D20 p20 c20 y20 p20' c20' y20' ha20 hφ20 hO20' hO20=>?_
   obtain ⟨rfl,hG⟩:=hφ20
   have hGl:=gbys_len hG
   refine Kd (sb [7]) (dE (h:=fun Kd=>?_))
   refine j_app8 8 2 rfl rfl hO hO20.sl ru36 rfl rfl scal_bytes (by omega) rfl fun y4 p4 c4 hO4=>?_
   refine Kd (sb [7]) (dA [7] (k:=K7 (CJ.t [(0,_),(4,_),(5,_),(7,_),(13,_),(14,_),(15,_)] (k:=cj_reg (jI (k:=jM (k:=j_nil (ej_then ?_))))))))
   have hLM:LnM x l.lines[k] mX:=⟨hMX.ok (fun q hq=>by
     rw[hqs]at hq
     simp only[List.map_cons,List.map_nil,List.mem_cons,List.mem_nil_iff,or_false]at hq
     rcases hq with rfl|rfl
     ·exact hm11.wire (by decide)
     ·exact hm12.wire (by decide)) (fun k hk=>by unfold tb2;rw[if_neg (by omega)]) (by omega),by
       rw[hMX.one (by omega) (ka_one hKA hKP (i:=0) (by rw[hqs];rfl) rfl (by omega) (by decide)) hm11];exact hfid,by
       rw[hMX.one (by omega) (ka_one hKA hKP (i:=1) (by rw[hqs];rfl) rfl (by omega) (by decide)) hm12];exact wrap_uN hwl2⟩
   have hmb:mB (subM 4 (L++[(mX,D20)]))=mB (subM 4 L)++D20:=by rw[subM_app,mB_app,mB_one]
   exact fun w' hH hf=>hKL (k+1,(a20,p20',c20',y20'),(y4,p4,c4),L++[(mX,D20)]) _ w' ⟨hlt',by simp[hLk],fun i q n hqi hni=>by
     by_cases hi:i<L.length
     ·rw[List.getElem?_append_left hi]at hqi;exact hLn i q n hqi hni
     ·rw[List.getElem?_append_right (by omega)]at hqi
      have hi0:i=k:=by have:=(List.getElem?_eq_some_iff.1 hqi).1;simp at this;omega
      subst hi0
      rw[hLk,Nat.sub_self]at hqi
      simp at hqi
      rw[List.getElem?_eq_getElem hlt']at hni
      simp at hni
      subst hqi;subst hni
      exact hLM,fun q hq=>by
     rcases List.mem_append.1 hq with hq|hq
     ·exact hL q hq
     ·simp at hq;subst hq;exact hG,by show (mB (subM 4 (L++[(mX,D20)]))).length≤400*(k+1);rw[hmb,List.length_append];omega,by show a20≤a+40*(k+1);omega,by
     show Own tU8 1 y4 p4 (mB (subM 4 (L++[(mX,D20)]))).length c4 ((mB (subM 4 (L++[(mX,D20)]))).map bv)
     rw[hmb,List.length_append,List.map_append];exact hO4,hO20'⟩ hf ((((((hH.drop 2).drop 2).drop 2).drop 2).drop 2).drop 2) (by show l.lines.length - (k+1)<l.lines.length - k;omega) (by
     dsimp only
     rw[hmb,List.length_append]
     exact ⟨rfl,rfl,rfl,rfl,rfl,rfl,rfl,trivial⟩)
 ·clear hKL
  have hkk:k=l.lines.length:=by omega
  refine cj_exit (K3 (sQ fun K12=>cj_reg (jA (k:=?_))))
  refine j_eqv (u:=.int .u64 ((0:Nat):Int)) rfl ?_
  refine K12 (sQ fun K13=>sQ fun K14=>cj_reg (jF 1 ru77 so3 (k:=jH 3 ag3 (k:=?_))))
  refine j_val rfl (fun _ _ h=>r_geq rfl rfl h) (K14 ?_)
  refine cj_dec rfl (fun h47=>?_) (fun h47=>?_)
  ·have h0:0≤l.mapping:=by omega
   have hq:l.mapping.toNat<x.mappings.length:=by omega
   obtain ⟨bm,om,cs',rfl, -,⟨hcs',hwm, -⟩,hcellm⟩:=hmx l.mapping.toNat _ (List.getElem?_eq_getElem hq)
   obtain ⟨mi,emi,lmi⟩:=nat_of_u hwm
   rw[emi]at hcs'
   subst hcs'
   have hmid:((mi:Nat):Int)=mid x l.mapping:=by
    unfold mid idAt
    rw[if_pos h0,List.getD_eq_getElem?_getD,List.getElem?_map,List.getElem?_eq_getElem hq]
    exact emi.symm
   refine cj_reg (jF 3 ru31 so24 (k:=jH 4 ag24 (k:=jF 1 ru77 so3 (k:=jH 3 ag3 (k:=?_)))))
   refine j_eqv (u:=.int .i64 (l.mapping.toNat:Nat)) (congrArg (Value.int .i64) (Int.toNat_of_nonneg h0).symm) ?_
   refine jJ ru24 so73 (k:=jF 0 ru73 so71 (k:=?_))
   refine j_valw rfl (fun a w ha hH hf=>r_load ag71 rfl (hcellm w (keep0 hK hB hf) 0 _ rfl) ha) (jA (k:=K13 (CJ.t [(0,_),(5,_),(7,_),(11,_)] (k:=sQ fun K15=>?_))))
   refine cj_drawI 16 (lts [0,1,2,3,5,6,8,9,10,12]++(4,false)::(7,false)::(11,false)::(13,false)::(14,false)::lts [15]) [3] rfl (by kernel_rfl) (by kernel_rfl) (dM [3] (k:=dM [3] (k:=dF [3] 0 ru77 so71 (k:=dH [3] 0 ag71 (k:=dM [3] (k:=dM [3] (k:=dM [3] (k:=dF [3] 2 ru77 so71 (k:=dH [3] 0 ag71 (k:=dM [3] (k:=dE (h:=fun Kd=>?_))))))))))))
   refine j_callF hF hT1 ⟨n9 hO,nL,nL,trivial⟩ call35 rfl rfl (fun w1 _ _ hE1=>tagged_c B w1 eb wl wv _ 1 i1 T hE1 (by omega) (by omega) l1 hwl) fun a31 T31 D31 p31 c31 y31 p31' c31' y31' ha31 hφ31 hO31' hO31=>?_
   obtain ⟨rfl,m31,rfl,hm31⟩:=hφ31
   have hl31:=hm31.len
   refine Kd (sb [4]) (dE (h:=fun Kd=>?_))
   refine j_callF hF hO31' ⟨n9 hO31,n9 hO,nL,nL,trivial⟩ call35 rfl rfl (fun w1 _ _ hE1=>tagged_c B w1 eb wl wv _ 2 _ T31 hE1 (by omega) (by omega) (by first|exact lmi|decide) hwl) fun a32 T32 D32 p32 c32 y32 p32' c32' y32' ha32 hφ32 hO32' hO32=>?_
   obtain ⟨rfl,m32,rfl,hm32⟩:=hφ32
   have hl32:=hm32.len
   refine Kd (sb [5]) (dE (h:=fun Kd=>?_))
   refine j_callF hF hO32' ⟨n9 hO32,n9 hO31,n9 hO,nL,nL,trivial⟩ call35 rfl rfl (fun w1 _ _ hE1=>tagged_c B w1 eb wl wv _ 3 i3 T32 hE1 (by omega) (by omega) l3 hwl) fun a33 T33 D33 p33 c33 y33 p33' c33' y33' ha33 hφ33 hO33' hO33=>?_
   obtain ⟨rfl,m33,rfl,hm33⟩:=hφ33
   have hl33:=hm33.len
   refine Kd (sb [6]) (dE (h:=fun Kd=>?_))
   refine j_bsliceN (vals:=[(0,.slice p31 (mB m31).length c31),(1,.slice p32 (mB m32).length c32),(2,.slice p33 (mB m33).length c33),(3,.slice p (mB (subM 4 L)).length c)]) (cells:= #[.slice p31 (mB m31).length c31,.slice p32 (mB m32).length c32,.slice p33 (mB m33).length c33,.slice p (mB (subM 4 L)).length c]) ru154 so36 zv36 rfl rfl rfl (by kernel_rfl) rfl fun bt=>?_
   refine j_rot ?_
   obtain ⟨qs,hqs⟩:∃qs:List VM,qs=[(.slice p31 (mB m31).length c31,m31),(.slice p32 (mB m32).length c32,m32),(.slice p33 (mB m33).length c33,m33),(.slice p (mB (subM 4 L)).length c,(subM 4 L))]:=⟨_,rfl⟩
   have hKA:KA [[1],[2],[3],[4]] qs:=by subst hqs;exact ⟨hm31.ks,hm32.ks,hm33.ks,subM_ks 4 L,trivial⟩
   have hKP:([[1],[2],[3],[4]]:List (List Nat)).Pairwise (fun a b=>∀x∈a,x∉b):=by decide
   refine Kd (sb [7]) (dE (h:=fun Kd=>?_))
   refine j_callF hF hO33' ⟨nL,n9 hO33,n9 hO32,n9 hO31,n9 hO,nL,nL,trivial⟩ call34 rfl rfl (fun w1 hH _ hE1=>mixed_c B w1 eb wl wv _ T33 _ qs hE1 (by omega) hwl (by rw[hqs];exact (Own.all (T:=tB8) (b:=bt) (cs:=[.slice p31 (mB m31).length c31,.slice p32 (mB m32).length c32,.slice p33 (mB m33).length c33,.slice p (mB (subM 4 L)).length c])).os hH (i:=2) rfl) (fun q hq=>by
     rw[hqs]at hq
     simp only[List.mem_cons,List.mem_nil_iff,or_false]at hq
     rcases hq with rfl|rfl|rfl|rfl
     ·exact ⟨rd_of hO31 hH (i:=5) rfl,rfl,hm31.enc⟩
     ·exact ⟨rd_of hO32 hH (i:=4) rfl,rfl,hm32.enc⟩
     ·exact ⟨rd_of hO33 hH (i:=3) rfl,rfl,hm33.enc⟩
     ·exact ⟨rd_of hO hH (i:=6) rfl,rfl,subM_enc hL⟩) (by rw[hqs];simp) (by rw[hqs];simp[tl];omega) (pw_of hKA hKP)) fun a34 T34 D34 p34 c34 y34 p34' c34' y34' ha34 hφ34 hO34' hO34=>?_
   obtain ⟨rfl,hlm,mX,rfl,hMX⟩:=hφ34
   rw[hqs]at ha34
   simp only[List.length_cons,List.length_nil]at ha34
   have hlX:(mB mX).length≤25000:=by rw[hqs]at hlm;simp[tl]at hlm;omega
   refine Kd (sb [8]) (dA [8] (k:=K15 (CJ.t [(6,_)] (k:=cj_ret ?_))))
   exact ej_ret1 results33 rfl fun w' hH hf=>rt_end hF hO34' hH hf (i:=0) rfl hO34 rfl (by omega) ⟨rfl,hlX,mX,rfl,hMX.ok (fun q hq=>by
     rw[hqs]at hq
     simp only[List.map_cons,List.map_nil,List.mem_cons,List.mem_nil_iff,or_false]at hq
     rcases hq with rfl|rfl|rfl|rfl
     ·exact hm31.wire (by decide)
     ·exact hm32.wire (by decide)
     ·exact hm33.wire (by decide)
     ·exact subM_wire (by decide)) tbLc_hi (by omega),by
       rw[hMX.one (by omega) (ka_one hKA hKP (i:=0) (by rw[hqs];rfl) rfl (by omega) (by decide)) hm31,e1],by
       rw[hMX.one (by omega) (ka_one hKA hKP (i:=1) (by rw[hqs];rfl) rfl (by omega) (by decide)) hm32];exact hmid,by
       rw[hMX.one (by omega) (ka_one hKA hKP (i:=2) (by rw[hqs];rfl) rfl (by omega) (by decide)) hm33,e3],L.map (·.1),by rw[List.length_map,hLk,hkk],subM_sub (by rw[hMX.fl 4 (by omega)];exact ka_one (k:=4) hKA hKP (i:=3) (by rw[hqs];rfl) rfl (by omega) (by decide)) fun i q hq n hn=>hLn i q n hq hn⟩
  ·have hmid:(((0:Nat):Nat):Int)=mid x l.mapping:=by
    unfold mid idAt
    rw[if_neg (by omega)];rfl
   refine cj_skip (K13 (sQ fun K16=>cj_drawI 16 (lts [0,1,2,3,5,6,8,9,10,12]++(4,false)::(7,false)::(11,false)::(13,false)::(14,false)::lts [15]) [3] rfl (by kernel_rfl) (by kernel_rfl) (dM [3] (k:=dM [3] (k:=dF [3] 0 ru77 so71 (k:=dH [3] 0 ag71 (k:=dM [3] (k:=dM [3] (k:=dM [3] (k:=dF [3] 2 ru77 so71 (k:=dH [3] 0 ag71 (k:=dM [3] (k:=dE (h:=fun Kd=>?_))))))))))))))
   refine j_callF hF hT1 ⟨n9 hO,nL,nL,trivial⟩ call35 rfl rfl (fun w1 _ _ hE1=>tagged_c B w1 eb wl wv _ 1 i1 T hE1 (by omega) (by omega) l1 hwl) fun a31 T31 D31 p31 c31 y31 p31' c31' y31' ha31 hφ31 hO31' hO31=>?_
   obtain ⟨rfl,m31,rfl,hm31⟩:=hφ31
   have hl31:=hm31.len
   refine Kd (sb [4]) (dE (h:=fun Kd=>?_))
   refine j_callF hF hO31' ⟨n9 hO31,n9 hO,nL,nL,trivial⟩ call35 rfl rfl (fun w1 _ _ hE1=>tagged_c B w1 eb wl wv _ 2 _ T31 hE1 (by omega) (by omega) (by first|exact lmi|decide) hwl) fun a32 T32 D32 p32 c32 y32 p32' c32' y32' ha32 hφ32 hO32' hO32=>?_
   obtain ⟨rfl,m32,rfl,hm32⟩:=hφ32
   have hl32:=hm32.len
   refine Kd (sb [5]) (dE (h:=fun Kd=>?_))
   refine j_callF hF hO32' ⟨n9 hO32,n9 hO31,n9 hO,nL,nL,trivial⟩ call35 rfl rfl (fun w1 _ _ hE1=>tagged_c B w1 eb wl wv _ 3 i3 T32 hE1 (by omega) (by omega) l3 hwl) fun a33 T33 D33 p33 c33 y33 p33' c33' y33' ha33 hφ33 hO33' hO33=>?_
   obtain ⟨rfl,m33,rfl,hm33⟩:=hφ33
   have hl33:=hm33.len
   refine Kd (sb [6]) (dE (h:=fun Kd=>?_))
   refine j_bsliceN (vals:=[(0,.slice p31 (mB m31).length c31),(1,.slice p32 (mB m32).length c32),(2,.slice p33 (mB m33).length c33),(3,.slice p (mB (subM 4 L)).length c)]) (cells:= #[.slice p31 (mB m31).length c31,.slice p32 (mB m32).length c32,.slice p33 (mB m33).length c33,.slice p (mB (subM 4 L)).length c]) ru154 so36 zv36 rfl rfl rfl (by kernel_rfl) rfl fun bt=>?_
   refine j_rot ?_
   obtain ⟨qs,hqs⟩:∃qs:List VM,qs=[(.slice p31 (mB m31).length c31,m31),(.slice p32 (mB m32).length c32,m32),(.slice p33 (mB m33).length c33,m33),(.slice p (mB (subM 4 L)).length c,(subM 4 L))]:=⟨_,rfl⟩
   have hKA:KA [[1],[2],[3],[4]] qs:=by subst hqs;exact ⟨hm31.ks,hm32.ks,hm33.ks,subM_ks 4 L,trivial⟩
   have hKP:([[1],[2],[3],[4]]:List (List Nat)).Pairwise (fun a b=>∀x∈a,x∉b):=by decide
   refine Kd (sb [7]) (dE (h:=fun Kd=>?_))
   refine j_callF hF hO33' ⟨nL,n9 hO33,n9 hO32,n9 hO31,n9 hO,nL,nL,trivial⟩ call34 rfl rfl (fun w1 hH _ hE1=>mixed_c B w1 eb wl wv _ T33 _ qs hE1 (by omega) hwl (by rw[hqs];exact (Own.all (T:=tB8) (b:=bt) (cs:=[.slice p31 (mB m31).length c31,.slice p32 (mB m32).length c32,.slice p33 (mB m33).length c33,.slice p (mB (subM 4 L)).length c])).os hH (i:=2) rfl) (fun q hq=>by
     rw[hqs]at hq
     simp only[List.mem_cons,List.mem_nil_iff,or_false]at hq
     rcases hq with rfl|rfl|rfl|rfl
     ·exact ⟨rd_of hO31 hH (i:=5) rfl,rfl,hm31.enc⟩
     ·exact ⟨rd_of hO32 hH (i:=4) rfl,rfl,hm32.enc⟩
     ·exact ⟨rd_of hO33 hH (i:=3) rfl,rfl,hm33.enc⟩
     ·exact ⟨rd_of hO hH (i:=6) rfl,rfl,subM_enc hL⟩) (by rw[hqs];simp) (by rw[hqs];simp[tl];omega) (pw_of hKA hKP)) fun a34 T34 D34 p34 c34 y34 p34' c34' y34' ha34 hφ34 hO34' hO34=>?_
   obtain ⟨rfl,hlm,mX,rfl,hMX⟩:=hφ34
   rw[hqs]at ha34
   simp only[List.length_cons,List.length_nil]at ha34
   have hlX:(mB mX).length≤25000:=by rw[hqs]at hlm;simp[tl]at hlm;omega
   refine Kd (sb [8]) (dA [8] (k:=K16 (CJ.t [(6,_)] (k:=cj_ret ?_))))
   exact ej_ret1 results33 rfl fun w' hH hf=>rt_end hF hO34' hH hf (i:=0) rfl hO34 rfl (by omega) ⟨rfl,hlX,mX,rfl,hMX.ok (fun q hq=>by
     rw[hqs]at hq
     simp only[List.map_cons,List.map_nil,List.mem_cons,List.mem_nil_iff,or_false]at hq
     rcases hq with rfl|rfl|rfl|rfl
     ·exact hm31.wire (by decide)
     ·exact hm32.wire (by decide)
     ·exact hm33.wire (by decide)
     ·exact subM_wire (by decide)) tbLc_hi (by omega),by
       rw[hMX.one (by omega) (ka_one hKA hKP (i:=0) (by rw[hqs];rfl) rfl (by omega) (by decide)) hm31,e1],by
       rw[hMX.one (by omega) (ka_one hKA hKP (i:=1) (by rw[hqs];rfl) rfl (by omega) (by decide)) hm32];exact hmid,by
       rw[hMX.one (by omega) (ka_one hKA hKP (i:=2) (by rw[hqs];rfl) rfl (by omega) (by decide)) hm33,e3],L.map (·.1),by rw[List.length_map,hLk,hkk],subM_sub (by rw[hMX.fl 4 (by omega)];exact ka_one (k:=4) hKA hKP (i:=3) (by rw[hqs];rfl) rfl (by omega) (by decide)) fun i q hq n hn=>hLn i q n hq hn⟩
def GL (k:Nat):List Fld→List (List Nat)→Prop
 |[],[]=>True
 |f::fs,n::ns=>(if fkey f=k then GV f n else n=[])∧GL k fs ns
 |_,_=>False
theorem gl_of:∀{fs:List Fld} {nss:List (List Nat)},GMny k fs nss→GL k fs nss
 |[],[],_=>trivial
 |[],_::_,h=>by have:=h.len;simp at this
 |_::_,[],h=>by have:=h.len;simp at this
 |f::fs,n::ns,h=>⟨h.at_ 0 f n rfl rfl,gl_of ⟨by have:=h.len;simpa using this,fun i f' n' h1 h2=>h.at_ (i+1) f' n' (by simpa using h1) (by simpa using h2)⟩⟩
theorem gm_of:∀{fs:List Fld} {nss:List (List Nat)},GL k fs nss→GMny k fs nss
 |[],[],_=>⟨rfl,fun i f n h=>by simp at h⟩
 |[],_::_,h=>h.elim
 |_::_,[],h=>h.elim
 |f::fs,n::ns,h=>⟨by have:=(gm_of h.2).len;simpa using this,fun i f' n' h1 h2=>by
    cases i with
    |zero=>simp at h1 h2;subst h1;subst h2;exact h.1
    |succ i=>exact (gm_of h.2).at_ i f' n' (by simpa using h1) (by simpa using h2)⟩
theorem gl_filter:∀{fs:List Fld} {nss:List (List Nat)},GL k fs nss→∃ms,GL k (fs.filter fun f=>fkey f=k) ms∧ms.flatten=nss.flatten
 |[],[],_=>⟨[],trivial,rfl⟩
 |[],_::_,h=>h.elim
 |_::_,[],h=>h.elim
 |f::fs,n::ns,h=>by
    obtain ⟨ms,h1,h2⟩:=gl_filter h.2
    by_cases hk:fkey f=k
    ·rw[List.filter_cons_of_pos (by simpa using hk)]
     exact ⟨n::ms,⟨h.1,h1⟩,by simp[h2]⟩
    ·rw[List.filter_cons_of_neg (by simpa using hk)]
     have h0:=h.1
     rw[if_neg hk]at h0
     exact ⟨ms,h1,by simp[h2,h0]⟩
theorem gl_unfilter:∀(fs:List Fld) {ms:List (List Nat)},GL k (fs.filter fun f=>fkey f=k) ms→∃nss,GL k fs nss∧nss.flatten=ms.flatten
 |[],[],_=>⟨[],trivial,rfl⟩
 |[],_::_,h=>h.elim
 |f::fs,ms,h=>by
    by_cases hk:fkey f=k
    ·rw[List.filter_cons_of_pos (by simpa using hk)]at h
     cases ms with
     |nil=>exact h.elim
     |cons n ms=>
      obtain ⟨nss,h1,h2⟩:=gl_unfilter fs h.2
      exact ⟨n::nss,⟨h.1,h1⟩,by simp[h2]⟩
    ·rw[List.filter_cons_of_neg (by simpa using hk)]at h
     obtain ⟨nss,h1,h2⟩:=gl_unfilter fs h
     exact ⟨[]::nss,⟨by rw[if_neg hk],h1⟩,by simp[h2]⟩
theorem LsM.in_ {ns:List Nat} {m q:Msg} (h:LsM k ns q) (he:fl k m=fl k q):∃nss,GMny k (flds m) nss∧nss.flatten=ns:=by
 obtain ⟨nss,h1,h2⟩:=h.gm
 obtain ⟨ms,h3,h4⟩:=gl_filter (gl_of h1)
 have h5:GL k ((flds m).filter fun f=>fkey f=k) ms:=by
  show GL k (fl k m) ms
  rw[he];exact h3
 obtain ⟨nss',h6,h7⟩:=gl_unfilter _ h5
 exact ⟨nss',gm_of h6,by rw[h7,h4,h2]⟩
theorem LsM.ks {ns:List Nat} {m:Msg} (h:LsM k ns m):KS [k] m:=fun k' _ hn=>by
 have h1:k≠k':=fun e=>hn (by simp[e])
 unfold fl flds
 rw[List.filter_eq_nil_iff]
 intro f hf
 obtain ⟨g,hg,he⟩:=List.mem_filterMap.1 hf
 obtain ⟨f',e1,e2⟩:=h.key g hg
 rw[e1]at he
 simp at he
 subst he
 exact fun h=>h1 (e2.symm.trans (of_decide_eq_true h))
theorem LsM.wire {ns:List Nat} {m:Msg} {tb:Nat→Nat} (h:LsM k ns m) (ht:tb k=3):∀g∈m,WireOK tb g.1:=fun g hg=>by
 obtain ⟨f,e1,e2⟩:=h.key g hg
 rw[e1]
 cases f with
 |num k' n=>simp[fkey]at e2;subst e2;simp[WireOK,ht]
 |bys k' b=>simp[fkey]at e2;subst e2;simp[WireOK,ht]
structure Sb {α:Type} (k:Nat) (φ:List ByteArray→α→Msg→Prop) (us:α→Nat) (cA cD:Nat) (T:List ByteArray) (a:Nat) (T1:List ByteArray) (a1:Nat) (L:List (Msg×List Nat)) (es:List α):Prop where
 pre:T<+:T1
 sum:sumS T1≤sumS T+(es.map us).sum
 len:L.length=es.length
 each:∀(i:Nat) q e,L[i]? =some q→es[i]? =some e→∀T'',T1<+:T''→φ T'' e q.1
 enc:∀q∈L,GEnc (.fld (.bys k (mB q.1))) q.2
 dl:(mB (subM k L)).length≤cD*es.length
 al:a1≤a+cA*es.length
section
variable {α:Type} {k:Nat} {φ:List ByteArray→α→Msg→Prop} {us:α→Nat} {cA cD:Nat} {T:List ByteArray} {a:Nat}
theorem Sb.nil:Sb k φ us cA cD T a T a [] []:=⟨List.prefix_refl _,by simp,rfl,fun i q e h=>by simp at h,fun q h=>(by cases h),Nat.zero_le _,Nat.le_refl _⟩
theorem Sb.snoc {T1 T2:List ByteArray} {a1 a2:Nat} {L:List (Msg×List Nat)} {es:List α} {e:α} {m:Msg} (h:Sb k φ us cA cD T a T1 a1 L es) (hx:T1<+:T2) (hs:sumS T2≤sumS T1+us e) (hφ:∀T'',T2<+:T''→φ T'' e m) (hG:GEnc (.fld (.bys k (mB m))) D) (hD:D.length≤cD) (ha:a2≤a1+cA):
  Sb k φ us cA cD T a T2 a2 (L++[(m,D)]) (es++[e]):=by
 have h1:=h.sum
 have h2:=h.dl
 have h3:=h.al
 refine ⟨h.pre.trans hx,by simp;omega,by simp[h.len],fun i q e' hq he T'' hT=>?_,fun q hq=>?_,?_,?_⟩
 ·by_cases hi:i<L.length
  ·rw[List.getElem?_append_left hi]at hq
   rw[List.getElem?_append_left (by rw[← h.len];exact hi)]at he
   exact h.each i q e' hq he T'' (hx.trans hT)
  ·have hi0:i=L.length:=by have:=(List.getElem?_eq_some_iff.1 hq).1;simp at this;omega
   rw[List.getElem?_append_right (by omega),hi0,Nat.sub_self]at hq
   rw[List.getElem?_append_right (by rw[← h.len];omega),hi0,h.len,Nat.sub_self]at he
   simp at hq he
   subst hq;subst he
   exact hφ T'' hT
 ·rcases List.mem_append.1 hq with hq|hq
  ·exact h.enc q hq
  ·simp at hq;subst hq;exact hG
 ·rw[subM_app,mB_app,mB_one];dsimp only;rw[List.length_append,List.length_append,List.length_singleton,Nat.mul_succ];omega
 ·rw[List.length_append,List.length_singleton,Nat.mul_succ];omega
theorem sum_pre {es es':List α} (h:es<+:es'):(es.map us).sum≤(es'.map us).sum:=by
 obtain ⟨r,rfl⟩:=h
 simp
theorem pre_flat {β:Type} {xs:List β} {g:β→List α} (hk:k<xs.length) (j:Nat):(xs.take k).flatMap g++(g xs[k]).take j<+:xs.flatMap g:=by
 have e:xs.flatMap g=(xs.take k).flatMap g++(g xs[k]++(xs.drop (k+1)).flatMap g):=by
  conv=>lhs;rw[← List.take_append_drop k xs,List.flatMap_append,List.drop_eq_getElem_cons hk,List.flatMap_cons]
 rw[e,List.prefix_append_right_inj]
 exact (List.take_prefix _ _).trans (List.prefix_append _ _)
end
def nuE (t:PNums):List LE:=t.list.map fun n=>(t.key,none,n)
def teE (t:PTexts):List LE:=t.list.map fun v=>(t.key,some v,0)
def allE (s:PSample):List LE:=s.nums.flatMap nuE++s.texts.flatMap teE
def usE (e:LE):Nat:=(e.1.size+1)+(match e.2.1 with|some v=>v.size+1|none=>0)
abbrev usS (s:PSample):Nat:=((allE s).map usE).sum
structure SmE (x:PProf) (T:List ByteArray) (s:PSample) (m:Msg):Prop where
 ok:MOK tbSm m
 st:∃nss,GMny 1 (flds m) nss∧nss.flatten.map (fun n:Nat=>(n:Int))=s.stack.map (lid x)
 vs:∃nss,GMny 2 (flds m) nss∧nss.flatten.map (fun n:Nat=>IntKind.i64.wrap (n:Nat))=s.values
 lb:∃g:List Msg,g.length=(allE s).length∧GSub 3 (flds m) g fun i q=>∀e,(allE s)[i]? =some e→LbM T e q
def lidN (x:PProf) (k:Int):Nat:=(lid x k).toNat
set_option maxHeartbeats 8000000 in
theorem sample_e (B:Nat) (w0 w:World) (eb:Nat) (wl:List Int) (wv:Value) (a:Nat) (T:List ByteArray) (x:PProf) (z:PSample) (pc sc:List Value) (hx:RProf w0 pc x) (hz:RSample w0 sc z) (hK:Keep w0 w) (hB:w0.heap.size≤B) (hst:z.stack.length≤60) (hva:z.values.length≤60) (hsk:∀k∈z.stack,0≤k∧k<x.locs.length)
  (hE2:(allE z).length≤10000) (hnz:∀t∈z.texts,eB∉t.list) (hz0:T[0]? =some eB)
  (hE:Ecd B eb wl wv a T w) (ha:a<200000000000000) (hwl:wl.length≤1000000000) (hTs:sumS T+usS z≤90000000):
  Calls Tryz.prog 31 #[ptr eb,.agg pc.toArray,.agg sc.toArray] w (Ret (RT B eb wl wv a 410000 (fun T' D=>T<+:T'∧sumS T'≤sumS T+usS z∧D.length≤5000000∧∃m,D=mB m∧∀T'',T'<+:T''→SmE x T'' z m) w)):=by
 obtain ⟨pT,cT,hb,yT,hOT,hyT⟩:=hE.st
 have hF:EF B eb wl wv w:=⟨hE.ge,Nat.le_trans hE.ge (Nat.le_of_lt hb.lt),hE.ways,hwl⟩
 have hl0:=len_sumT T
 replace hTs:sumS T+((allE z).map usE).sum≤90000000:=hTs
 obtain ⟨av,sv,mv,lv,fv,cmv,rfl, -, -, -,hxl, -⟩:=hx
 obtain ⟨pL,cL,rfl,hLl,hxL⟩:=hxl.open
 obtain ⟨v1,v2,v3,v4,rfl,hz1,hz2,hz3,hz4⟩:=hz
 obtain ⟨pS,cS,rfl,hSl,hxS⟩:=hz1.open
 obtain ⟨pV,cV,rfl,hVl,hxV⟩:=hz2.open
 obtain ⟨pX,cX,rfl,hXl,hxX⟩:=hz3.open
 obtain ⟨pN,cN,rfl,hNl,hxN⟩:=hz4.open
 have hlr:∀k:Int,0≤lid x k∧lid x k<18446744073709551616:=fun k=>idAt_range fun i hi=>by
  obtain ⟨q,hq,rfl⟩:=List.mem_map.1 hi
  exact hxl.each (φ:=fun q=>IntKind.u64.wrap q.id=q.id) (fun c q h=>by obtain ⟨_,_,h,_⟩:=h;exact h) q hq
 have hlid64:∀k∈z.stack,lidN x k<18446744073709551616:=fun k _=>by have:=hlr k;unfold lidN;omega
 have hlidI:∀k∈z.stack,((fun n:Nat=>(n:Int))∘lidN x) k=lid x k:=fun k _=>by have:=hlr k;simp[lidN];omega
 have hvw:∀v∈z.values,IntKind.i64.wrap v=v:=hz2.each fun c q h=>h.2
 refine startJ (args:=[_,_,_]) [(0,_),(1,.agg (List.toArray [_,_,_,_,_,_,_,_,_,_,_,_,_,_])),(2,.agg (List.toArray [_,_,_,_]))] B wN [eE eb wv a pT T.length cT,yT] func31 rfl ntmps31 rfl rfl (hp_of_ecd hF .nil trivial (Fr.refl _ _ _) hb hOT hyT) ?_
 refine sQ fun K1=>cj_reg (j_boxA (vs:=[_,_,_,_,_,_,_,_,_,_,_,_,_,_]) rfl rfl fun b4=>?_)
 refine j_rot ?_
 refine j_boxA (vs:=[_,_,_,_]) rfl rfl fun b5=>?_
 refine j_rot ?_
 refine jA (k:=K1 (sQ fun K2=>cj_reg (jA (k:=jA (k:=K2 (sQ fun K3=>sQ fun K4=>cj_reg (jF 0 ru57 so32 (k:=jH 2 ag32 (k:=jE ru32 (k:=jM (k:=?_)))))))))))
 refine K4 (CJ.t [(0,_),(4,_),(5,_),(7,_),(8,_),(23,_),(24,_),(25,_)] (k:=cj_block ?_))
 refine cj_loop (σ:=Nat×(Ent×Option Addr×Nat)×List Nat) (fun s=>[(0,ptr eb),(4,ptr b4),(5,ptr b5),(7,.slice s.2.1.2.1 s.2.2.length s.2.1.2.2),(8,.slice none 0 0),(23,.slice pS z.stack.length cS),(24,.int .i64 (z.stack.length:Nat)),(25,.int .i64 (s.1:Nat))])
  (fun s=>[eE eb wv a pT T.length cT,yT,s.2.1.1,⟨b5,57,[.slice pS z.stack.length cS,.slice pV z.values.length cV,.slice pX z.texts.length cX,.slice pN z.nums.length cN],true,true,none⟩,⟨b4,31,[av,.string x.deflt,sv,mv,.slice pL x.locs.length cL,fv,cmv,.string x.drop,.string x.keep,.int .i64 x.time,.int .i64 x.dur,.int .i64 x.period,.string x.per.ty,.string x.per.unit],true,true,none⟩])
  (fun s _=>s.1≤z.stack.length∧s.2.2=(z.stack.take s.1).map (lidN x)∧Own tU64 1 s.2.1.1 s.2.1.2.1 s.2.2.length s.2.1.2.2 (s.2.2.map fun n:Nat=>Value.int .u64 (n:Nat)))
  (fun s=>z.stack.length - s.1) (0,(nilE tU64,none,0),[]) sR (fun w' hH hf=>⟨Hp.rot3' (Hp.off hH),Nat.zero_le _,rfl,Own.nil⟩) ?_
 rintro ⟨k,⟨yS2,pS2,cS2⟩,nS⟩ w1 ⟨hk,hnS,hS⟩ hf1 hH1 KL hKL
 try dsimp only at hk hnS hS
 have hnSl:nS.length=k:=by rw[hnS];simp;omega
 refine C.begin _ _ hf1 hH1 ?_
 try dsimp only
 refine sQ fun K5=>cj_reg (jS (k:=K5 (sQ fun K6=>?_)))
 refine cj_dec rfl (fun hlt=>?_) (fun hlt=>?_)
 ·have hlt':k<z.stack.length:=by omega
  obtain ⟨b,o,cs,rfl,hcs,hR,hcell⟩:=hxS k z.stack[k] (List.getElem?_eq_getElem hlt')
  obtain ⟨rfl,hwk⟩:=hR
  obtain ⟨hk0,hkl⟩:=hsk _ (List.getElem_mem hlt')
  have hq:z.stack[k].toNat<x.locs.length:=by omega
  obtain ⟨bl,ol,cs',rfl, -,⟨nv,hcs',hwf, -⟩,hcellf⟩:=hxL z.stack[k].toNat _ (List.getElem?_eq_getElem hq)
  have hfid:x.locs[z.stack[k].toNat].id=((lidN x z.stack[k]:Nat):Int):=by
   have h1:=(u64_range hwf).1
   have h2:lid x z.stack[k]=x.locs[z.stack[k].toNat].id:=by
    unfold lid idAt
    rw[if_pos hk0,List.getD_eq_getElem?_getD,List.getElem?_map,List.getElem?_eq_getElem hq];rfl
   unfold lidN
   rw[h2];omega
  rw[hfid]at hcs'
  subst hcs'
  refine cj_skip (K6 (sQ fun K7=>cj_block (sQ fun K8=>cj_reg (jJ ru32 so3 (k:=?_)))))
  refine j_valw rfl (fun a w ha hH hf=>r_load ag3 rfl (hcell w (keep0 hK hB hf) 0 _ rfl) ha) (jA (k:=K8 (cj_reg (jM (k:=jF 4 ru31 so25 (k:=jH 4 ag25 (k:=jM (k:=?_))))))))
  refine j_eqv (u:=.int .i64 (z.stack[k].toNat:Nat)) (congrArg (Value.int .i64) (Int.toNat_of_nonneg hk0).symm) ?_
  refine jJ ru25 so77 (k:=jF 0 ru77 so71 (k:=?_))
  refine j_valw rfl (fun a w ha hH hf=>r_load ag71 rfl (hcellf w (keep0 hK hB hf) 0 _ rfl) ha) (j_bslice1 ru84 so71 zv71 rfl rfl rfl rfl rfl fun b36=>?_)
  refine j_appO 2 rfl hS ru84 el71 rfl rfl rfl rfl rfl (by omega) rfl fun y37 p37 c37 hO37=>?_
  refine jA (k:=K7 (CJ.t [(0,_),(4,_),(5,_),(7,_),(8,_),(23,_),(24,_),(25,_)] (k:=cj_reg (jI (k:=jM (k:=j_nil (ej_then ?_)))))))
  exact fun w' hH hf=>hKL (k+1,(y37,p37,c37),(nS++[lidN x z.stack[k]])) _ w' ⟨hlt',by
    show (nS++[lidN x z.stack[k]])=_
    rw[hnS,take_succ_get (List.getElem?_eq_getElem hlt'),List.map_append];rfl,by
    show Own tU64 1 y37 p37 (nS++[lidN x z.stack[k]]).length c37 ((nS++[lidN x z.stack[k]]).map fun n:Nat=>Value.int .u64 (n:Nat))
    rw[List.length_append,List.map_append];exact hO37⟩ hf hH (by show z.stack.length - (k+1)<z.stack.length - k;omega) (by
    dsimp only
    rw[List.length_append]
    exact ⟨rfl,rfl,rfl,rfl,rfl,rfl,rfl,rfl,trivial⟩)
 ·clear hKL
  have hkS:k=z.stack.length:=by omega
  subst hkS
  rw[List.take_length]at hnS
  refine cj_exit (K3 (sQ fun K9=>sQ fun K10=>cj_reg (jF 1 ru57 so53 (k:=jH 3 ag53 (k:=jE ru53 (k:=jM (k:=K10 (cj_block ?_))))))))
  refine cj_loop (σ:=Nat×(Ent×Option Addr×Nat)×List Nat) (fun s=>[(0,ptr eb),(5,ptr b5),(7,.slice pS2 nS.length cS2),(8,.slice s.2.1.2.1 s.2.2.length s.2.1.2.2),(40,.slice pV z.values.length cV),(41,.int .i64 (z.values.length:Nat)),(42,.int .i64 (s.1:Nat))])
   (fun s=>[eE eb wv a pT T.length cT,yT,s.2.1.1,yS2,⟨b5,57,[.slice pS z.stack.length cS,.slice pV z.values.length cV,.slice pX z.texts.length cX,.slice pN z.nums.length cN],true,true,none⟩])
   (fun s _=>s.1≤z.values.length∧s.2.2=(z.values.take s.1).map (uN)∧Own tU64 1 s.2.1.1 s.2.1.2.1 s.2.2.length s.2.1.2.2 (s.2.2.map fun n:Nat=>Value.int .u64 (n:Nat)))
   (fun s=>z.values.length - s.1) (0,(nilE tU64,none,0),[]) sR (fun w' hH hf=>⟨Hp.rot3' (Hp.off (hH.drop 4)),Nat.zero_le _,rfl,Own.nil⟩) ?_
  rintro ⟨k,⟨yV2,pV2,cV2⟩,nV⟩ w1 ⟨hk,hnV,hV⟩ hf1 hH1 KL hKL
  try dsimp only at hk hnV hV
  have hnVl:nV.length=k:=by rw[hnV];simp;omega
  refine C.begin _ _ hf1 hH1 ?_
  try dsimp only
  refine sQ fun K11=>cj_reg (jS (k:=K11 (sQ fun K12=>?_)))
  refine cj_dec rfl (fun hlt=>?_) (fun hlt=>?_)
  ·have hlt':k<z.values.length:=by omega
   obtain ⟨b,o,cs,rfl,hcs,hR,hcell⟩:=hxV k z.values[k] (List.getElem?_eq_getElem hlt')
   obtain ⟨rfl,hwk⟩:=hR
   refine cj_skip (K12 (sQ fun K13=>cj_block (sQ fun K14=>cj_reg (jJ ru53 so2 (k:=?_)))))
   refine j_valw rfl (fun a w ha hH hf=>r_load ag2 rfl (hcell w (keep0 hK hB hf) 0 _ rfl) ha) (jA (k:=K14 (cj_reg (jM (k:=jM (k:=?_))))))
   refine j_val rfl (fun _ _ h=>r_conv ru2 ru71 rfl h) ?_
   refine j_eqv (u:=.int .u64 ((uN z.values[k]:Nat):Int)) (congrArg (Value.int .u64) (uN_eq _)) ?_
   refine j_bslice1 ru84 so71 zv71 rfl rfl rfl rfl rfl fun b49=>?_
   refine j_appO 2 rfl hV ru84 el71 rfl rfl rfl rfl rfl (by omega) rfl fun y50 p50 c50 hO50=>?_
   refine jA (k:=K13 (CJ.t [(0,_),(5,_),(7,_),(8,_),(40,_),(41,_),(42,_)] (k:=cj_reg (jI (k:=jM (k:=j_nil (ej_then ?_)))))))
   exact fun w' hH hf=>hKL (k+1,(y50,p50,c50),(nV++[uN z.values[k]])) _ w' ⟨hlt',by
     show (nV++[uN z.values[k]])=_
     rw[hnV,take_succ_get (List.getElem?_eq_getElem hlt'),List.map_append];rfl,by
     show Own tU64 1 y50 p50 (nV++[uN z.values[k]]).length c50 ((nV++[uN z.values[k]]).map fun n:Nat=>Value.int .u64 (n:Nat))
     rw[List.length_append,List.map_append];exact hO50⟩ hf hH (by show z.values.length - (k+1)<z.values.length - k;omega) (by
     dsimp only
     rw[List.length_append]
     exact ⟨rfl,rfl,rfl,rfl,rfl,rfl,rfl,trivial⟩)
  ·clear hKL
   have hkV:k=z.values.length:=by omega
   subst hkV
   rw[List.take_length]at hnV
   refine cj_exit (K9 (sQ fun K15=>cj_reg (jA (k:=K15 (sQ fun K16=>sQ fun K17=>cj_reg (jF 3 ru57 so55 (k:=jH 4 ag55 (k:=jE ru55 (k:=jM (k:=K17 (cj_block ?_)))))))))))
   refine cj_loop (σ:=Nat×(Nat×Option Addr×Nat×Ent)×(Ent×Option Addr×Nat)×List (Msg×List Nat)×List LE×List ByteArray) (fun s=>[(0,ptr eb),(5,ptr b5),(7,.slice pS2 nS.length cS2),(8,.slice pV2 nV.length cV2),(13,.slice s.2.2.1.2.1 (mB (subM 3 s.2.2.2.1)).length s.2.2.1.2.2),(53,.slice pN z.nums.length cN),(54,.int .i64 (z.nums.length:Nat)),(55,.int .i64 (s.1:Nat))])
    (fun s=>[eE eb wv s.2.1.1 s.2.1.2.1 s.2.2.2.2.2.length s.2.1.2.2.1,s.2.1.2.2.2,s.2.2.1.1,yV2,yS2,⟨b5,57,[.slice pS z.stack.length cS,.slice pV z.values.length cV,.slice pX z.texts.length cX,.slice pN z.nums.length cN],true,true,none⟩])
    (fun s _=>s.1≤z.nums.length∧s.2.2.2.2.1=(z.nums.take s.1).flatMap nuE∧Sb 3 LbM usE 40 400 T a s.2.2.2.2.2 s.2.1.1 s.2.2.2.1 s.2.2.2.2.1∧Own tU8 1 s.2.2.1.1 s.2.2.1.2.1 (mB (subM 3 s.2.2.2.1)).length s.2.2.1.2.2 ((mB (subM 3 s.2.2.2.1)).map bv)∧Own tStr 1 s.2.1.2.2.2 s.2.1.2.1 s.2.2.2.2.2.length s.2.1.2.2.1 (s.2.2.2.2.2.map .string))
    (fun s=>z.nums.length - s.1) (0,(a,pT,cT,yT),(nilE tU8,none,0),[],[],T) sR (fun w' hH hf=>⟨Hp.rot3' (Hp.off hH),Nat.zero_le _,rfl,Sb.nil,Own.nil,hOT⟩) ?_
   rintro ⟨k,⟨ac,pc,cc,yc⟩,⟨ylc,plc,clc⟩,Lc,esc,Tc⟩ wc ⟨h1c,hesc,hIc,hOc,hTc⟩ hfc hHc KLc hKLc
   try dsimp only at h1c hesc hIc hOc hTc
   refine C.begin _ _ hfc hHc ?_
   try dsimp only
   refine sQ fun K18=>cj_reg (jS (k:=K18 (sQ fun K19=>?_)))
   refine cj_dec rfl (fun hlo=>?_) (fun hlo=>?_)
   ·have hlt1:k<z.nums.length:=by omega
    have hlm:=List.getElem_mem hlt1
    obtain ⟨bO,oO,csO,rfl,hcsO,hRO,hcellO⟩:=hxN k z.nums[k] (List.getElem?_eq_getElem hlt1)
    obtain ⟨lvI,rfl,hlI⟩:=hRO
    obtain ⟨pI,cI,rfl,hnI,hxI⟩:=hlI.open
    refine cj_skip (K19 (sQ fun K20=>cj_block (sQ fun K21=>cj_reg (jJ ru55 so112 (k:=?_)))))
    refine j_valw rfl (fun a w ha hH hf=>r_loadA (vs:=[.string z.nums[k].key,.slice pI z.nums[k].list.length cI]) ag112 so112 rfl rfl (hcellO w (keep0 hK hB hf)) ha) (j_allocA (zs:=[(.string ⟨#[]⟩),(.slice none 0 0)]) zv112 rfl fun b15=>?_)
    refine j_storeW 0 rfl rfl rfl rfl so112 rfl rfl rfl rfl rfl ?_
    refine j_rot ?_
    refine K21 (sQ fun K22=>cj_reg (jF 1 ru112 so53 (k:=jH 2 ag53 (k:=jE ru53 (k:=jM (k:=K22 (cj_block ?_)))))))
    refine cj_loop (σ:=Nat×(Nat×Option Addr×Nat×Ent)×(Ent×Option Addr×Nat)×List (Msg×List Nat)×List LE×List ByteArray) (fun s=>[(0,ptr eb),(5,ptr b5),(7,.slice pS2 nS.length cS2),(8,.slice pV2 nV.length cV2),(13,.slice s.2.2.1.2.1 (mB (subM 3 s.2.2.2.1)).length s.2.2.1.2.2),(53,.slice (some ⟨bO,oO,none⟩) z.nums.length cN),(54,.int .i64 (z.nums.length:Nat)),(55,.int .i64 (k:Nat)),(15,ptr b15),(60,.slice pI z.nums[k].list.length cI),(61,.int .i64 (z.nums[k].list.length:Nat)),(62,.int .i64 (s.1:Nat))])
     (fun s=>[eE eb wv s.2.1.1 s.2.1.2.1 s.2.2.2.2.2.length s.2.1.2.2.1,s.2.1.2.2.2,⟨b15,112,[.string z.nums[k].key,.slice pI z.nums[k].list.length cI],true,true,none⟩,s.2.2.1.1,yV2,yS2,⟨b5,57,[.slice pS z.stack.length cS,.slice pV z.values.length cV,.slice pX z.texts.length cX,.slice (some ⟨bO,oO,none⟩) z.nums.length cN],true,true,none⟩])
     (fun s _=>s.1≤z.nums[k].list.length∧s.2.2.2.2.1=((z.nums.take k).flatMap nuE++(nuE z.nums[k]).take s.1)∧Sb 3 LbM usE 40 400 T a s.2.2.2.2.2 s.2.1.1 s.2.2.2.1 s.2.2.2.2.1∧Own tU8 1 s.2.2.1.1 s.2.2.1.2.1 (mB (subM 3 s.2.2.2.1)).length s.2.2.1.2.2 ((mB (subM 3 s.2.2.2.1)).map bv)∧Own tStr 1 s.2.1.2.2.2 s.2.1.2.1 s.2.2.2.2.2.length s.2.1.2.2.1 (s.2.2.2.2.2.map .string))
     (fun s=>z.nums[k].list.length - s.1) (0,(ac,pc,cc,yc),(ylc,plc,clc),Lc,esc,Tc) sR (fun w' hH hf=>⟨hH,Nat.zero_le _,by rw[hesc];simp,hIc,hOc,hTc⟩) ?_
    rintro ⟨j,⟨ad,pd,cd,yd⟩,⟨yld,pld,cld⟩,Ld,esd,Td⟩ wd ⟨h1d,hesd,hId,hOd,hTd⟩ hfd hHd KLd hKLd
    try dsimp only at h1d hesd hId hOd hTd
    refine C.begin _ _ hfd hHd ?_
    try dsimp only
    refine sQ fun K23=>cj_reg (jS (k:=K23 (sQ fun K24=>?_)))
    refine cj_dec rfl (fun hli=>?_) (fun hli=>?_)
    ·have hlt2:j<z.nums[k].list.length:=by omega
     obtain ⟨bI,oI,csI,rfl,hcsI,hRI,hcellI⟩:=hxI j z.nums[k].list[j] (List.getElem?_eq_getElem hlt2)
     obtain ⟨rfl,hwi⟩:=hRI
     have hge:(nuE z.nums[k])[j]? =some (z.nums[k].key,none,z.nums[k].list[j]):=by simp[nuE,List.getElem?_eq_getElem hlt2]
     have hpre:esd++[(z.nums[k].key,none,z.nums[k].list[j])]<+:allE z:=by
      rw[hesd]
      have h1:=pre_flat (g:=nuE) hlt1 (j+1)
      rw[take_succ_get hge]at h1
      unfold allE
      exact (by simpa only[List.append_assoc]using h1:_<+:_).trans (List.prefix_append _ _)
     have hsu:=sum_pre (us:=usE) hpre
     have hle:=hpre.length_le
     rw[List.map_append,List.sum_append,List.map_singleton,List.sum_singleton]at hsu
     rw[List.length_append,List.length_singleton]at hle
     simp only[usE]at hsu
     have hsm:=hId.sum
     have hal:=hId.al
     have hdl:=hId.dl
     have hTl:=len_sumT Td
     refine cj_skip (K24 (sQ fun K25=>cj_block (sQ fun K26=>cj_reg (jJ ru53 so2 (k:=?_)))))
     refine j_valw rfl (fun a w ha hH hf=>r_load ag2 rfl (hcellI w (keep0 hK hB hf) 0 _ rfl) ha) (jA (k:=K26 (cj_reg (jM (k:=jM (k:=jM (k:=jM (k:=jM (k:=jF 0 ru112 so9 (k:=jH 2 ag9 (k:=?_)))))))))))
     refine j_textF (s:=z.nums[k].key) hF hTd ⟨nL,n9 hOd,n9 hV,n9 hS,nL,trivial⟩ (by omega) (by omega) rfl rfl rfl fun a21 T21 i21 p21 c21 y21 ha21 hi21 hT21 hO21=>?_
     obtain ⟨hx21,hs21⟩:=tx_of hT21
     have hl21:=len_sumT T21
     have hil21:=(List.getElem?_eq_some_iff.1 hi21).1
     refine j_callF hF hO21 ⟨nL,n9 hOd,n9 hV,n9 hS,nL,trivial⟩ call35 rfl rfl (fun w1 _ _ hE1=>tagged_c B w1 eb wl wv _ 1 i21 T21 hE1 (by omega) (by omega) (by omega) hwl) fun a22 T22 D22 p22 c22 y22 p22' c22' y22' ha22 hφ22 hO22' hO22=>?_
     obtain ⟨rfl,m22,rfl,hm22⟩:=hφ22
     have hl22:=hm22.len
     refine jM (k:=jM (k:=?_))
     refine j_val rfl (fun _ _ h=>r_conv ru2 ru71 rfl h) ?_
     refine j_eqv (u:=.int .u64 ((uN z.nums[k].list[j]:Nat):Int)) (congrArg (Value.int .u64) (uN_eq _)) ?_
     refine j_callF hF hO22' ⟨n9 hO22,nL,n9 hOd,n9 hV,n9 hS,nL,trivial⟩ call35 rfl rfl (fun w1 _ _ hE1=>tagged_c B w1 eb wl wv _ 3 (uN z.nums[k].list[j]) T22 hE1 (by omega) (by omega) (uN_lt _) hwl) fun a23 T23 D23 p23 c23 y23 p23' c23' y23' ha23 hφ23 hO23' hO23=>?_
     obtain ⟨rfl,m23,rfl,hm23⟩:=hφ23
     have hl23:=hm23.len
     refine j_bsliceN (vals:=[(0,.slice p22 (mB m22).length c22),(1,.slice p23 (mB m23).length c23)]) (cells:= #[.slice p22 (mB m22).length c22,.slice p23 (mB m23).length c23]) ru154 so36 zv36 rfl rfl rfl (by kernel_rfl) rfl fun bt=>?_
     refine j_rot ?_
     obtain ⟨qs,hqs⟩:∃qs:List VM,qs=[(.slice p22 (mB m22).length c22,m22),(.slice p23 (mB m23).length c23,m23)]:=⟨_,rfl⟩
     have hKA:KA [[1],[3]] qs:=by subst hqs;exact ⟨hm22.ks,hm23.ks,trivial⟩
     have hKP:([[1],[3]]:List (List Nat)).Pairwise (fun a b=>∀x∈a,x∉b):=by decide
     refine j_callF hF hO23' ⟨nL,n9 hO23,n9 hO22,nL,n9 hOd,n9 hV,n9 hS,nL,trivial⟩ call34 rfl rfl (fun w1 hH _ hE1=>mixed_c B w1 eb wl wv _ T23 _ qs hE1 (by omega) hwl (by rw[hqs];exact (Own.all (T:=tB8) (b:=bt) (cs:=[.slice p22 (mB m22).length c22,.slice p23 (mB m23).length c23])).os hH (i:=2) rfl) (fun q hq=>by
       rw[hqs]at hq
       simp only[List.mem_cons,List.mem_nil_iff,or_false]at hq
       rcases hq with rfl|rfl
       ·exact ⟨rd_of hO22 hH (i:=4) rfl,rfl,hm22.enc⟩
       ·exact ⟨rd_of hO23 hH (i:=3) rfl,rfl,hm23.enc⟩) (by rw[hqs];simp) (by rw[hqs];simp[tl];omega) (pw_of hKA hKP)) fun a24 T24 D24 p24 c24 y24 p24' c24' y24' ha24 hφ24 hO24' hO24=>?_
     obtain ⟨rfl,hlm,mX,rfl,hMX⟩:=hφ24
     rw[hqs]at ha24
     simp only[List.length_cons,List.length_nil]at ha24
     have hlX:(mB mX).length≤260:=by rw[hqs]at hlm;simp[tl]at hlm;omega
     refine j_callF hF hO24' ⟨n9 hO24,nL,n9 hO23,n9 hO22,nL,n9 hOd,n9 hV,n9 hS,nL,trivial⟩ call29 rfl rfl (fun w1 hH _ hE1=>bytes_e B w1 eb wl wv _ 3 _ _ (mB mX) hE1 (by omega) (by omega) (rd_of hO24 hH (i:=2) rfl) (by omega) hwl) fun a25 T25 D25 p25 c25 y25 p25' c25' y25' ha25 hφ25 hO25' hO25=>?_
     obtain ⟨rfl,hG⟩:=hφ25
     have hGl:=gbys_len hG
     refine j_app8 8 2 rfl rfl hOd hO25.sl ru36 rfl rfl scal_bytes (by omega) rfl fun y4 p4 c4 hO4=>?_
     refine jA (k:=K25 (CJ.t [(0,_),(5,_),(7,_),(8,_),(13,_),(15,_),(53,_),(54,_),(55,_),(60,_),(61,_),(62,_)] (k:=cj_reg (jI (k:=jM (k:=j_nil (ej_then ?_)))))))
     have hLM:∀T'',T25<+:T''→LbM T'' (z.nums[k].key,none,z.nums[k].list[j]) mX:=fun T'' hx=>⟨hMX.ok (fun q hq=>by
       rw[hqs]at hq
       simp only[List.map_cons,List.map_nil,List.mem_cons,List.mem_nil_iff,or_false]at hq
       rcases hq with rfl|rfl
       ·exact hm22.wire (by decide)
       ·exact hm23.wire (by decide)) (fun k hk=>by unfold tb3;rw[if_neg (by omega)]) (by omega),by
         rw[hMX.one (by omega) (ka_one hKA hKP (i:=0) (by rw[hqs];rfl) rfl (by omega) (by decide)) hm22];exact tx_get hx hi21,(And.intro (by rw[oneN, ← oneF_fl,hMX.fl 2 (by omega),ka_no (by omega) hKA (by decide)];rfl) (by rw[hMX.one (by omega) (ka_one hKA hKP (i:=1) (by rw[hqs];rfl) rfl (by omega) (by decide)) hm23];exact wrap_uN hwi))⟩
     have hS2:=hId.snoc hx21 (by show _≤_+usE _;simp only[usE];omega) hLM hG (by omega) (show a25≤ad+40 by omega)
     have hmb:mB (subM 3 (Ld++[(mX,D25)]))=mB (subM 3 Ld)++D25:=by rw[subM_app,mB_app,mB_one]
     exact fun w' hH hf=>hKLd (j+1,(a25,p25',c25',y25'),(y4,p4,c4),Ld++[(mX,D25)],esd++[(z.nums[k].key,none,z.nums[k].list[j])],T25) _ w' ⟨hlt2,by
       show esd++_=_
       rw[hesd,take_succ_get hge];simp only[List.append_assoc],hS2,by
       show Own tU8 1 y4 p4 (mB (subM 3 (Ld++[(mX,D25)]))).length c4 ((mB (subM 3 (Ld++[(mX,D25)]))).map bv)
       rw[hmb,List.length_append,List.map_append];exact hO4,hO25'⟩ hf (((((hH.drop 2).drop 2).drop 2).drop 2).drop 2) (by show z.nums[k].list.length - (j+1)<z.nums[k].list.length - j;omega) (by
       dsimp only
       rw[hmb,List.length_append]
       exact ⟨rfl,rfl,rfl,rfl,rfl,rfl,rfl,rfl,rfl,rfl,rfl,rfl,trivial⟩)
    ·clear hKLd
     have hjj:j=z.nums[k].list.length:=by omega
     refine cj_exit (K20 (cj_reg (jI (k:=jM (k:=j_nil (ej_then ?_))))))
     exact fun w' hH hf=>hKLc (k+1,(ad,pd,cd,yd),(yld,pld,cld),Ld,esd,Td) _ w' ⟨hlt1,by
       show esd=_
       rw[hesd,flatMap_step' hlt1,List.take_of_length_le (i:=j) (by rw[hjj];simp[nuE])],hId,hOd,hTd⟩ hf (hH.drop 2) (by show z.nums.length - (k+1)<z.nums.length - k;omega) ⟨rfl,rfl,rfl,rfl,rfl,rfl,rfl,rfl,trivial⟩
   ·clear hKLc
    have hkk:k=z.nums.length:=by omega
    have hesN:esc=z.nums.flatMap nuE:=by rw[hesc,hkk,List.take_length]
    refine cj_exit (K16 (sQ fun K27=>sQ fun K28=>cj_reg (jF 2 ru57 so54 (k:=jH 5 ag54 (k:=jE ru54 (k:=jM (k:=K28 (cj_block ?_))))))))
    refine cj_loop (σ:=Nat×(Nat×Option Addr×Nat×Ent)×(Ent×Option Addr×Nat)×List (Msg×List Nat)×List LE×List ByteArray) (fun s=>[(0,ptr eb),(7,.slice pS2 nS.length cS2),(8,.slice pV2 nV.length cV2),(13,.slice s.2.2.1.2.1 (mB (subM 3 s.2.2.2.1)).length s.2.2.1.2.2),(86,.slice pX z.texts.length cX),(87,.int .i64 (z.texts.length:Nat)),(88,.int .i64 (s.1:Nat))])
     (fun s=>[eE eb wv s.2.1.1 s.2.1.2.1 s.2.2.2.2.2.length s.2.1.2.2.1,s.2.1.2.2.2,s.2.2.1.1,yV2,yS2])
     (fun s _=>s.1≤z.texts.length∧s.2.2.2.2.1=z.nums.flatMap nuE++(z.texts.take s.1).flatMap teE∧Sb 3 LbM usE 40 400 T a s.2.2.2.2.2 s.2.1.1 s.2.2.2.1 s.2.2.2.2.1∧Own tU8 1 s.2.2.1.1 s.2.2.1.2.1 (mB (subM 3 s.2.2.2.1)).length s.2.2.1.2.2 ((mB (subM 3 s.2.2.2.1)).map bv)∧Own tStr 1 s.2.1.2.2.2 s.2.1.2.1 s.2.2.2.2.2.length s.2.1.2.2.1 (s.2.2.2.2.2.map .string))
     (fun s=>z.texts.length - s.1) (0,(ac,pc,cc,yc),(ylc,plc,clc),Lc,esc,Tc) sR (fun w' hH hf=>⟨hH.drop 5,Nat.zero_le _,by rw[hesN];simp,hIc,hOc,hTc⟩) ?_
    rintro ⟨k,⟨ae,pe,ce,ye⟩,⟨yle,ple,cle⟩,Le,ese,Te⟩ we ⟨h1e,hese,hIe,hOe,hTe⟩ hfe hHe KLe hKLe
    try dsimp only at h1e hese hIe hOe hTe
    refine C.begin _ _ hfe hHe ?_
    try dsimp only
    refine sQ fun K29=>cj_reg (jS (k:=K29 (sQ fun K30=>?_)))
    refine cj_dec rfl (fun hlo=>?_) (fun hlo=>?_)
    ·have hlt1:k<z.texts.length:=by omega
     have hlm:=List.getElem_mem hlt1
     obtain ⟨bO,oO,csO,rfl,hcsO,hRO,hcellO⟩:=hxX k z.texts[k] (List.getElem?_eq_getElem hlt1)
     obtain ⟨lvI,rfl,hlI⟩:=hRO
     obtain ⟨pI,cI,rfl,hnI,hxI⟩:=hlI.open
     refine cj_skip (K30 (sQ fun K31=>cj_block (sQ fun K32=>cj_reg (jJ ru54 so109 (k:=?_)))))
     refine j_valw rfl (fun a w ha hH hf=>r_loadA (vs:=[.string z.texts[k].key,.slice pI z.texts[k].list.length cI]) ag109 so109 rfl rfl (hcellO w (keep0 hK hB hf)) ha) (j_allocA (zs:=[(.string ⟨#[]⟩),(.slice none 0 0)]) zv109 rfl fun b19=>?_)
     refine j_storeW 0 rfl rfl rfl rfl so109 rfl rfl rfl rfl rfl ?_
     refine j_rot ?_
     refine K32 (sQ fun K33=>cj_reg (jF 1 ru109 so27 (k:=jH 2 ag27 (k:=jE ru27 (k:=jM (k:=K33 (cj_block ?_)))))))
     refine cj_loop (σ:=Nat×(Nat×Option Addr×Nat×Ent)×(Ent×Option Addr×Nat)×List (Msg×List Nat)×List LE×List ByteArray) (fun s=>[(0,ptr eb),(7,.slice pS2 nS.length cS2),(8,.slice pV2 nV.length cV2),(13,.slice s.2.2.1.2.1 (mB (subM 3 s.2.2.2.1)).length s.2.2.1.2.2),(86,.slice (some ⟨bO,oO,none⟩) z.texts.length cX),(87,.int .i64 (z.texts.length:Nat)),(88,.int .i64 (k:Nat)),(19,ptr b19),(93,.slice pI z.texts[k].list.length cI),(94,.int .i64 (z.texts[k].list.length:Nat)),(95,.int .i64 (s.1:Nat))])
      (fun s=>[eE eb wv s.2.1.1 s.2.1.2.1 s.2.2.2.2.2.length s.2.1.2.2.1,s.2.1.2.2.2,⟨b19,109,[.string z.texts[k].key,.slice pI z.texts[k].list.length cI],true,true,none⟩,s.2.2.1.1,yV2,yS2])
      (fun s _=>s.1≤z.texts[k].list.length∧s.2.2.2.2.1=z.nums.flatMap nuE++((z.texts.take k).flatMap teE++(teE z.texts[k]).take s.1)∧Sb 3 LbM usE 40 400 T a s.2.2.2.2.2 s.2.1.1 s.2.2.2.1 s.2.2.2.2.1∧Own tU8 1 s.2.2.1.1 s.2.2.1.2.1 (mB (subM 3 s.2.2.2.1)).length s.2.2.1.2.2 ((mB (subM 3 s.2.2.2.1)).map bv)∧Own tStr 1 s.2.1.2.2.2 s.2.1.2.1 s.2.2.2.2.2.length s.2.1.2.2.1 (s.2.2.2.2.2.map .string))
      (fun s=>z.texts[k].list.length - s.1) (0,(ae,pe,ce,ye),(yle,ple,cle),Le,ese,Te) sR (fun w' hH hf=>⟨hH,Nat.zero_le _,by rw[hese];simp,hIe,hOe,hTe⟩) ?_
     rintro ⟨j,⟨af,pf,cf,yf⟩,⟨ylf,plf,clf⟩,Lf,esf,Tf⟩ wf ⟨h1f,hesf,hIf,hOf,hTf⟩ hff hHf KLf hKLf
     try dsimp only at h1f hesf hIf hOf hTf
     refine C.begin _ _ hff hHf ?_
     try dsimp only
     refine sQ fun K34=>cj_reg (jS (k:=K34 (sQ fun K35=>?_)))
     refine cj_dec rfl (fun hli=>?_) (fun hli=>?_)
     ·have hlt2:j<z.texts[k].list.length:=by omega
      obtain ⟨bI,oI,csI,rfl,hcsI,hRI,hcellI⟩:=hxI j z.texts[k].list[j] (List.getElem?_eq_getElem hlt2)
      obtain rfl:=hRI
      have hne:z.texts[k].list[j]≠eB:=fun h=>hnz _ hlm (by have:=List.getElem_mem hlt2;rw[h]at this;exact this)
      have hge:(teE z.texts[k])[j]? =some (z.texts[k].key,some z.texts[k].list[j],0):=by simp[teE,List.getElem?_eq_getElem hlt2]
      have hpre:esf++[(z.texts[k].key,some z.texts[k].list[j],0)]<+:allE z:=by
       rw[hesf]
       have h1:=pre_flat (g:=teE) hlt1 (j+1)
       rw[take_succ_get hge]at h1
       unfold allE
       simpa only[List.append_assoc,List.prefix_append_right_inj]using h1
      have hsu:=sum_pre (us:=usE) hpre
      have hle:=hpre.length_le
      rw[List.map_append,List.sum_append,List.map_singleton,List.sum_singleton]at hsu
      rw[List.length_append,List.length_singleton]at hle
      simp only[usE]at hsu
      have hsm:=hIf.sum
      have hal:=hIf.al
      have hdl:=hIf.dl
      have hTl:=len_sumT Tf
      refine cj_skip (K35 (sQ fun K36=>cj_block (sQ fun K37=>cj_reg (jJ ru27 so9 (k:=?_)))))
      refine j_valw rfl (fun a w ha hH hf=>r_load ag9 rfl (hcellI w (keep0 hK hB hf) 0 _ rfl) ha) (jA (k:=K37 (cj_reg (jM (k:=jM (k:=jM (k:=jM (k:=jM (k:=jF 0 ru109 so9 (k:=jH 2 ag9 (k:=?_)))))))))))
      refine j_textF (s:=z.texts[k].key) hF hTf ⟨nL,n9 hOf,n9 hV,n9 hS,trivial⟩ (by omega) (by omega) rfl rfl rfl fun a41 T41 i41 p41 c41 y41 ha41 hi41 hT41 hO41=>?_
      obtain ⟨hx41,hs41⟩:=tx_of hT41
      have hl41:=len_sumT T41
      have hil41:=(List.getElem?_eq_some_iff.1 hi41).1
      refine j_callF hF hO41 ⟨nL,n9 hOf,n9 hV,n9 hS,trivial⟩ call35 rfl rfl (fun w1 _ _ hE1=>tagged_c B w1 eb wl wv _ 1 i41 T41 hE1 (by omega) (by omega) (by omega) hwl) fun a42 T42 D42 p42 c42 y42 p42' c42' y42' ha42 hφ42 hO42' hO42=>?_
      obtain ⟨rfl,m42,rfl,hm42⟩:=hφ42
      have hl42:=hm42.len
      refine jM (k:=jM (k:=jM (k:=?_)))
      refine j_textF (s:=z.texts[k].list[j]) hF hO42' ⟨n9 hO42,nL,n9 hOf,n9 hV,n9 hS,trivial⟩ (by omega) (by omega) rfl rfl rfl fun a43 T43 i43 p43 c43 y43 ha43 hi43 hT43 hO43=>?_
      obtain ⟨hx43,hs43⟩:=tx_of hT43
      have hl43:=len_sumT T43
      have hil43:=(List.getElem?_eq_some_iff.1 hi43).1
      refine j_callF hF hO43 ⟨n9 hO42,nL,n9 hOf,n9 hV,n9 hS,trivial⟩ call35 rfl rfl (fun w1 _ _ hE1=>tagged_c B w1 eb wl wv _ 2 i43 T43 hE1 (by omega) (by omega) (by omega) hwl) fun a44 T44 D44 p44 c44 y44 p44' c44' y44' ha44 hφ44 hO44' hO44=>?_
      obtain ⟨rfl,m44,rfl,hm44⟩:=hφ44
      have hl44:=hm44.len
      refine j_bsliceN (vals:=[(0,.slice p42 (mB m42).length c42),(1,.slice p44 (mB m44).length c44)]) (cells:= #[.slice p42 (mB m42).length c42,.slice p44 (mB m44).length c44]) ru154 so36 zv36 rfl rfl rfl (by kernel_rfl) rfl fun bt=>?_
      refine j_rot ?_
      obtain ⟨qs,hqs⟩:∃qs:List VM,qs=[(.slice p42 (mB m42).length c42,m42),(.slice p44 (mB m44).length c44,m44)]:=⟨_,rfl⟩
      have hKA:KA [[1],[2]] qs:=by subst hqs;exact ⟨hm42.ks,hm44.ks,trivial⟩
      have hKP:([[1],[2]]:List (List Nat)).Pairwise (fun a b=>∀x∈a,x∉b):=by decide
      refine j_callF hF hO44' ⟨nL,n9 hO44,n9 hO42,nL,n9 hOf,n9 hV,n9 hS,trivial⟩ call34 rfl rfl (fun w1 hH _ hE1=>mixed_c B w1 eb wl wv _ T44 _ qs hE1 (by omega) hwl (by rw[hqs];exact (Own.all (T:=tB8) (b:=bt) (cs:=[.slice p42 (mB m42).length c42,.slice p44 (mB m44).length c44])).os hH (i:=2) rfl) (fun q hq=>by
        rw[hqs]at hq
        simp only[List.mem_cons,List.mem_nil_iff,or_false]at hq
        rcases hq with rfl|rfl
        ·exact ⟨rd_of hO42 hH (i:=4) rfl,rfl,hm42.enc⟩
        ·exact ⟨rd_of hO44 hH (i:=3) rfl,rfl,hm44.enc⟩) (by rw[hqs];simp) (by rw[hqs];simp[tl];omega) (pw_of hKA hKP)) fun a45 T45 D45 p45 c45 y45 p45' c45' y45' ha45 hφ45 hO45' hO45=>?_
      obtain ⟨rfl,hlm,mX,rfl,hMX⟩:=hφ45
      rw[hqs]at ha45
      simp only[List.length_cons,List.length_nil]at ha45
      have hlX:(mB mX).length≤260:=by rw[hqs]at hlm;simp[tl]at hlm;omega
      refine j_callF hF hO45' ⟨n9 hO45,nL,n9 hO44,n9 hO42,nL,n9 hOf,n9 hV,n9 hS,trivial⟩ call29 rfl rfl (fun w1 hH _ hE1=>bytes_e B w1 eb wl wv _ 3 _ _ (mB mX) hE1 (by omega) (by omega) (rd_of hO45 hH (i:=2) rfl) (by omega) hwl) fun a46 T46 D46 p46 c46 y46 p46' c46' y46' ha46 hφ46 hO46' hO46=>?_
      obtain ⟨rfl,hG⟩:=hφ46
      have hGl:=gbys_len hG
      refine j_app8 8 2 rfl rfl hOf hO46.sl ru36 rfl rfl scal_bytes (by omega) rfl fun y4 p4 c4 hO4=>?_
      refine jA (k:=K36 (CJ.t [(0,_),(7,_),(8,_),(13,_),(19,_),(86,_),(87,_),(88,_),(93,_),(94,_),(95,_)] (k:=cj_reg (jI (k:=jM (k:=j_nil (ej_then ?_)))))))
      have hLM:∀T'',T46<+:T''→LbM T'' (z.texts[k].key,some z.texts[k].list[j],0) mX:=fun T'' hx=>⟨hMX.ok (fun q hq=>by
        rw[hqs]at hq
        simp only[List.map_cons,List.map_nil,List.mem_cons,List.mem_nil_iff,or_false]at hq
        rcases hq with rfl|rfl
        ·exact hm42.wire (by decide)
        ·exact hm44.wire (by decide)) (fun k hk=>by unfold tb3;rw[if_neg (by omega)]) (by omega),by
          rw[hMX.one (by omega) (ka_one hKA hKP (i:=0) (by rw[hqs];rfl) rfl (by omega) (by decide)) hm42];exact tx_get (hx43.trans hx) hi41,(And.intro (by
          rw[hMX.one (by omega) (ka_one hKA hKP (i:=1) (by rw[hqs];rfl) rfl (by omega) (by decide)) hm44]
          rintro rfl
          have h1:=tx_get hx hi43
          rw[tx_get ((hIf.pre.trans (hx41.trans hx43)).trans hx) hz0]at h1
          exact hne (Option.some.inj h1).symm) (by rw[hMX.one (by omega) (ka_one hKA hKP (i:=1) (by rw[hqs];rfl) rfl (by omega) (by decide)) hm44];exact tx_get hx hi43))⟩
      have hS2:=hIf.snoc (hx41.trans hx43) (by show _≤_+usE _;simp only[usE];omega) hLM hG (by omega) (show a46≤af+40 by omega)
      have hmb:mB (subM 3 (Lf++[(mX,D46)]))=mB (subM 3 Lf)++D46:=by rw[subM_app,mB_app,mB_one]
      exact fun w' hH hf=>hKLf (j+1,(a46,p46',c46',y46'),(y4,p4,c4),Lf++[(mX,D46)],esf++[(z.texts[k].key,some z.texts[k].list[j],0)],T46) _ w' ⟨hlt2,by
        show esf++_=_
        rw[hesf,take_succ_get hge];simp only[List.append_assoc],hS2,by
        show Own tU8 1 y4 p4 (mB (subM 3 (Lf++[(mX,D46)]))).length c4 ((mB (subM 3 (Lf++[(mX,D46)]))).map bv)
        rw[hmb,List.length_append,List.map_append];exact hO4,hO46'⟩ hf (((((hH.drop 2).drop 2).drop 2).drop 2).drop 2) (by show z.texts[k].list.length - (j+1)<z.texts[k].list.length - j;omega) (by
        dsimp only
        rw[hmb,List.length_append]
        exact ⟨rfl,rfl,rfl,rfl,rfl,rfl,rfl,rfl,rfl,rfl,rfl,trivial⟩)
     ·clear hKLf
      have hjj:j=z.texts[k].list.length:=by omega
      refine cj_exit (K31 (cj_reg (jI (k:=jM (k:=j_nil (ej_then ?_))))))
      exact fun w' hH hf=>hKLe (k+1,(af,pf,cf,yf),(ylf,plf,clf),Lf,esf,Tf) _ w' ⟨hlt1,by
        show esf=_
        rw[hesf,flatMap_step' hlt1,List.take_of_length_le (i:=j) (by rw[hjj];simp[teE])],hIf,hOf,hTf⟩ hf (hH.drop 2) (by show z.texts.length - (k+1)<z.texts.length - k;omega) ⟨rfl,rfl,rfl,rfl,rfl,rfl,rfl,trivial⟩
    ·clear hKLe
     have hkk:k=z.texts.length:=by omega
     have hesX:ese=allE z:=by rw[hese,hkk,List.take_length];rfl
     refine cj_exit (K27 (sQ fun K38=>cj_reg (jM (k:=?_))))
     have hnS64:∀n∈nS,n<18446744073709551616:=fun n hn=>by
      rw[hnS]at hn
      obtain ⟨q,hq,rfl⟩:=List.mem_map.1 hn
      exact hlid64 q hq
     have hnV64:∀n∈nV,n<18446744073709551616:=fun n hn=>by
      rw[hnV]at hn
      obtain ⟨q, -,rfl⟩:=List.mem_map.1 hn
      exact uN_lt _
     have hsm:=hIe.sum
     have hal:=hIe.al
     have hdl:=hIe.dl
     have hTl:=len_sumT Te
     rw[hesX]at hsm hal hdl
     refine jM (k:=jM (k:=?_))
     refine j_callF hF hTe ⟨n9 hOe,n9 hV,n9 hS,trivial⟩ call37 rfl rfl (fun w1 hH _ hE1=>list_c B w1 eb wl wv _ 1 _ _ nS hE1 (by omega) (by omega) (hS.os hH (i:=4) rfl) (by omega) hnS64 hwl) fun a61 T61 D61 p61 c61 y61 p61' c61' y61' ha61 hφ61 hO61' hO61=>?_
     obtain ⟨rfl,hl61,m61,rfl,hm61⟩:=hφ61
     refine jM (k:=jM (k:=?_))
     refine j_callF hF hO61' ⟨n9 hO61,n9 hOe,n9 hV,n9 hS,trivial⟩ call37 rfl rfl (fun w1 hH _ hE1=>list_c B w1 eb wl wv _ 2 _ _ nV hE1 (by omega) (by omega) (hV.os hH (i:=4) rfl) (by omega) hnV64 hwl) fun a62 T62 D62 p62 c62 y62 p62' c62' y62' ha62 hφ62 hO62' hO62=>?_
     obtain ⟨rfl,hl62,m62,rfl,hm62⟩:=hφ62
     refine jM (k:=?_)
     refine j_bsliceN (vals:=[(0,.slice p61 (mB m61).length c61),(1,.slice p62 (mB m62).length c62),(2,.slice ple (mB (subM 3 Le)).length cle)]) (cells:= #[.slice p61 (mB m61).length c61,.slice p62 (mB m62).length c62,.slice ple (mB (subM 3 Le)).length cle]) ru154 so36 zv36 rfl rfl rfl (by kernel_rfl) rfl fun bt=>?_
     refine j_rot ?_
     obtain ⟨qs,hqs⟩:∃qs:List VM,qs=[(.slice p61 (mB m61).length c61,m61),(.slice p62 (mB m62).length c62,m62),(.slice ple (mB (subM 3 Le)).length cle,(subM 3 Le))]:=⟨_,rfl⟩
     have hKA:KA [[1],[2],[3]] qs:=by subst hqs;exact ⟨hm61.ks,hm62.ks,subM_ks 3 Le,trivial⟩
     have hKP:([[1],[2],[3]]:List (List Nat)).Pairwise (fun a b=>∀x∈a,x∉b):=by decide
     refine j_callF hF hO62' ⟨nL,n9 hO62,n9 hO61,n9 hOe,n9 hV,n9 hS,trivial⟩ call34 rfl rfl (fun w1 hH _ hE1=>mixed_c B w1 eb wl wv _ T62 _ qs hE1 (by omega) hwl (by rw[hqs];exact (Own.all (T:=tB8) (b:=bt) (cs:=[.slice p61 (mB m61).length c61,.slice p62 (mB m62).length c62,.slice ple (mB (subM 3 Le)).length cle])).os hH (i:=2) rfl) (fun q hq=>by
       rw[hqs]at hq
       simp only[List.mem_cons,List.mem_nil_iff,or_false]at hq
       rcases hq with rfl|rfl|rfl
       ·exact ⟨rd_of hO61 hH (i:=4) rfl,rfl,hm61.enc⟩
       ·exact ⟨rd_of hO62 hH (i:=3) rfl,rfl,hm62.enc⟩
       ·exact ⟨rd_of hOe hH (i:=5) rfl,rfl,subM_enc hIe.enc⟩) (by rw[hqs];simp) (by rw[hqs];simp[tl];omega) (pw_of hKA hKP)) fun a63 T63 D63 p63 c63 y63 p63' c63' y63' ha63 hφ63 hO63' hO63=>?_
     obtain ⟨rfl,hlm,mX,rfl,hMX⟩:=hφ63
     rw[hqs]at ha63
     simp only[List.length_cons,List.length_nil]at ha63
     have hlX:(mB mX).length≤5000000:=by rw[hqs]at hlm;simp[tl]at hlm;omega
     refine jA (k:=K38 (CJ.t [(6,_)] (k:=cj_ret ?_)))
     exact ej_ret1 results31 rfl fun w' hH hf=>rt_end hF hO63' hH hf (i:=0) rfl hO63 rfl (by omega) ⟨hIe.pre,hsm,hlX,mX,rfl,fun T'' hx=>⟨hMX.ok (fun q hq=>by
       rw[hqs]at hq
       simp only[List.map_cons,List.map_nil,List.mem_cons,List.mem_nil_iff,or_false]at hq
       rcases hq with rfl|rfl|rfl
       ·exact hm61.wire (by decide)
       ·exact hm62.wire (by decide)
       ·exact subM_wire (by decide)) tbSm_hi (by omega),by
         obtain ⟨nss,h1,h2⟩:=hm61.in_ (m:=mX) (by rw[hMX.fl 1 (by omega)];exact ka_one (k:=1) hKA hKP (i:=0) (by rw[hqs];rfl) rfl (by omega) (by decide))
         refine ⟨nss,h1,?_⟩
         rw[h2,hnS,List.map_map]
         exact List.map_congr_left fun q hq=>hlidI q hq,by
         obtain ⟨nss,h1,h2⟩:=hm62.in_ (m:=mX) (by rw[hMX.fl 2 (by omega)];exact ka_one (k:=2) hKA hKP (i:=1) (by rw[hqs];rfl) rfl (by omega) (by decide))
         refine ⟨nss,h1,?_⟩
         rw[h2,hnV,List.map_map]
         have h3:∀q∈z.values,((fun n:Nat=>IntKind.i64.wrap (n:Nat))∘uN) q=q:=fun q hq=>wrap_uN (hvw q hq)
         rw[List.map_congr_left h3];simp,Le.map (·.1),by rw[List.length_map,hIe.len,hesX],subM_sub (by rw[hMX.fl 3 (by omega)];exact ka_one (k:=3) hKA hKP (i:=2) (by rw[hqs];rfl) rfl (by omega) (by decide)) fun i q hq e he=>hIe.each i q e hq (by rw[hesX];exact he) T'' hx⟩⟩
theorem row_bytes (s:ByteArray) (cap:Nat) {j:Nat} {u:Value} (h:((sB s).map bv)[j]? =some u):(bytesRow s cap)[j]? =some u:=by
 rw[List.getElem?_map]at h
 obtain ⟨q,hq,rfl⟩:=Option.map_eq_some_iff.1 h
 unfold sB at hq
 rw[List.getElem?_map]at hq
 obtain ⟨c,hc,rfl⟩:=Option.map_eq_some_iff.1 hq
 have hl:=(List.getElem?_eq_some_iff.1 hc).1
 unfold bytesRow
 rw[Array.getElem?_append_left (by simpa using hl),Array.getElem?_map]
 rw[Array.getElem?_toList]at hc
 rw[hc];rfl
section
variable {Q:Exit→Act→World→Prop} {n:Nat} {f:Fm} {e:Env} {H:Heap} {ops:Array Oper} {rest:List Oper} {d ty:Nat} {pos:String} {af:Array Edge}
theorem j_convS {t1 t2:Nat} {s:ByteArray} (hs:Tryz.prog.underlying t1=some .string) (hu:Tryz.prog.underlying t2=some (.slice tU8)) (he:Tryz.prog.underlying tU8=some (.int .u8)) (hx:ev e x=some (.string s)) (hd:Nat.blt d n=true)
  (k:∀w w8 b c,Hp f w H→f.ok w→Fr 0 [] w w8→Rd8 w8 (.slice (some ⟨b,0,none⟩) (sB s).length c) (sB s)→L Tryz.prog ops Q n ((d,.slice (some ⟨b,0,none⟩) (sB s).length c)::e) rest w8):
  J Tryz.prog ops Q n f e H (⟨some d,.convert t1 t2 x,ty,pos,af,none⟩::rest):=fun w hH hf=>by
 have hr:=run_bytes_of_string (P:=Tryz.prog) w t1 t2 tU8 s hs hu he
 generalize hcap:grownCap w s.size 0 tU8=cap at hr
 generalize hw8:w.drew.alloc (.cells (bytesRow s cap) tU8 ((bytesRow s cap).size,(bytesRow s cap).size+1))=w8 at hr
 have hn:New w w8 w.heap.size (.cells (bytesRow s cap) tU8 ((bytesRow s cap).size,(bytesRow s cap).size+1)):=by
  subst hw8;exact ⟨rfl,rfl,rfl,rfl,rfl⟩
 have hb:w8.heap[w.heap.size]? =some (.cells (bytesRow s cap) tU8 ((bytesRow s cap).size,(bytesRow s cap).size+1)):=by rw[hn.heap];simp
 refine L.valw hd (fun a ha=>?_) (k w w8 w.heap.size cap hH hf (hn.fr _ _) ⟨_,cap,rfl,.inr ⟨_,_,hb,rfl,fun w' hk=>?_⟩⟩)
 ·simp only[execOp,ha.ev hx]
  simp[hr,sB_len]
 ·simp only[Builtin.firstCells]
  have hl:(sB s).length*1=((sB s).map bv).length:=by simp
  rw[hl]
  refine Go.Fw.run_loadCells (P:=Tryz.prog) (b:=w.heap.size) w' _ 0 (fun j u hj=>?_)
  simp only[World.cell?,Nat.zero_add]
  rw[hk]
  simpa using row_bytes s cap hj
end
theorem hp_newB {V:List Nat} [WO V] {ws w2:World} {k0:Nat} (hH:Hp ⟨ws,k0,[tU8]⟩ w1 H) (h8:R8 H) (hk:Fr B V w1 w2) (hO:Own tU8 1 y p l c xs) (hy:y.on=true→Blk w2 y.b tU8 y.cs∧w1.heap.size≤y.b) (h0:k0≤ws.heap.size) (h1:k0≤w1.heap.size):
  Hp ⟨w2,k0,[tU8]⟩ w2 (y::H):=by
 refine ⟨⟨fun ho=>?_,fun o ho=>?_⟩,fun he _=>?_,fun he z hz hze=>?_,hp_enc hH h8 hk h0⟩
 ·rw[hO.hT];exact (hy ho).1
 ·rw[hO.ho]at ho;cases ho
 ·have hon:y.on=true:=by simpa[Ent.ex,hO.ho]using he
  exact .inr ⟨Nat.le_trans h1 (hy hon).2,by simp[Ent.tag,hO.ho,hO.hT]⟩
 ·have hon:y.on=true:=by simpa[Ent.ex,hO.ho]using he
  have h3:=hH.lt hz hze
  have h4:=(hy hon).2
  omega
theorem rd_ro (hO:Own tU8 1 y p l c (D.map bv)) (hH:Hp f w H) (hy:H[i]? =some (Go.Fw.ro y)):Rd8 w (.slice p l c) D:=
 Rd8.of_os ⟨y,p,l,c,rfl,hO,fun ho=>by have h1:=hH.get hy ho;rw[← hO.hT];exact h1⟩
theorem Hp.roAll {f':Fm}:∀{H:Heap},Hp f w H→Hp f' w (H.map Go.Fw.ro)
 |[],_=>trivial
 |x::r,h=>⟨⟨h.1.row,h.1.obj⟩,fun _ hw=>by simp[Go.Fw.ro]at hw,fun he z hz hze=>by
    obtain ⟨q,hq,rfl⟩:=List.mem_map.1 hz
    exact h.2.2.1 he q hq hze,Hp.roAll h.2.2.2⟩
theorem tx_cell {T:List ByteArray} (h:OS tStr 1 w (.slice p l c) (T.map .string)) (hl:0<l):∃b,p=some ⟨b,0,none⟩∧∀w',(∀cs,∀b',Blk w b' tStr cs→Blk w' b' tStr cs)→∀(i:Nat) v,T[i]? =some v→w'.cell? ⟨b,i,none⟩=some (.string v):=by
 obtain ⟨y,p',l',c',e,hO,hy⟩:=h
 cases e
 have hll:T.length=l:=by have:=hO.sl.1;simpa using this
 obtain ⟨-, -,h4⟩:=id hO.sl
 rcases h4 with ⟨h5,h6,⟨ex,h7⟩, -⟩|⟨h5,h6,h7⟩
 ·refine ⟨y.b,h6,fun w' hk i n hn=>?_⟩
  have hb:=hk _ _ (hy h5)
  have hi:=(List.getElem?_eq_some_iff.1 hn).1
  rw[hb.cell,h7,List.getElem?_append_left (by simpa using hi),List.getElem?_map,hn];rfl
 ·have:=hO.sl.2.1;omega
def rawM (s:ByteArray):Msg:=[(.fld (.num 0 0),sB s)]
theorem rawM_b (s:ByteArray):mB (rawM s)=sB s:=mB_one _ _
theorem wv_of_lay {wv:Value} {wl:List Int} (h:Lay (RInt .i64) 1 w wv wl):WV w.heap.size w wv wl:=by
 obtain ⟨p,c,rfl, -,hx⟩:=h.open
 refine ⟨p,c,rfl,?_⟩
 by_cases h0:wl=[]
 ·exact .inl h0
 ·right
  have hl:0<wl.length:=List.length_pos_iff.2 h0
  obtain ⟨b,o,cs,rfl, -,⟨hcs, -⟩,hcell⟩:=hx 0 _ (List.getElem?_eq_getElem hl)
  refine ⟨b,o,rfl,?_,fun j v hv=>?_⟩
  ·have h1:=hcell w (Keep.refl w) 0 _ (by rw[hcs];rfl)
   unfold World.cell? at h1
   cases hb:w.heap[b]? with
   |none=>simp[hb]at h1
   |some q=>exact (Array.getElem?_eq_some_iff.1 hb).1
  ·obtain ⟨b2,o2,cs2,e2, -,⟨hcs2, -⟩,hcell2⟩:=hx j v hv
   cases e2
   have h1:=hcell2 w (Keep.refl w) 0 _ (by rw[hcs2];rfl)
   simpa using h1
def usTy (t:PType):Nat:=(t.ty.size+1)+(t.unit.size+1)
def usMp (t:PMapping):Nat:=(t.file.size+1)+(t.build.size+1)
def usFn (t:PFunc):Nat:=(t.name.size+1)+(t.system.size+1)+(t.file.size+1)
theorem sum0 {α:Type} (xs:List α):(xs.map fun _=>0).sum=0:=by induction xs with
 |nil=>rfl
 |cons a r ih=>simp[ih]
theorem sub_one {q:Msg} (hG:GEnc (.fld (.bys k (mB q))) D):∃M:Msg,D=mB M∧KS [k] M∧MEnc2 M∧(∀tb:Nat→Nat,tb k≠1→∀g∈M,WireOK tb g.1)∧fl k M=fl k (subM k [(q,D)]):=
 ⟨subM k [(q,D)],by rw[subM,List.map_singleton,mB_one],subM_ks _ _,subM_enc (fun z hz=>by simp at hz;subst hz;exact hG),fun tb ht=>subM_wire ht,rfl⟩
theorem Mx.wire {ms:List Msg} {m:Msg} {tb:Nat→Nat} (h:Mx ms m) (hs:∀q∈ms,∀g∈q,WireOK tb g.1) (ht:∀k,20≤k→tb k=0):∀g∈m,WireOK tb g.1:=fun g hg=>by
 rcases h.mem g hg with ⟨q,hq,hgq⟩|hge
 ·exact hs q hq g hgq
 ·obtain ⟨g1,g2⟩:=g
  cases g1 with
  |fld f=>
   cases f with
   |num k n=>have:=ht k hge;simp[WireOK,this]
   |bys k b=>have:=ht k hge;simp[WireOK,this]
  |fix8 k b=>exact ht k hge
  |fix4 k b=>exact ht k hge
theorem Mx.ks {ks:List (List Nat)} {qs:List VM} {m:Msg} (h:Mx (qs.map (·.2)) m) (hK:KA ks qs):KS ks.flatten m:=fun k hk hn=>by
 rw[h.fl k hk,ka_no hk hK fun a ha hka=>hn (List.mem_flatten.2 ⟨a,ha,hka⟩)]
structure RestM (x:PProf) (T:List ByteArray) (m:Msg):Prop where
 drop:T[oneN 7 (flds m)]? =some x.drop
 keep:T[oneN 8 (flds m)]? =some x.keep
 time:IntKind.i64.wrap (oneN 9 (flds m):Nat)=x.time
 dur:IntKind.i64.wrap (oneN 10 (flds m):Nat)=x.dur
 period:IntKind.i64.wrap (oneN 12 (flds m):Nat)=x.period
 dfl:T[oneN 14 (flds m)]? =some x.deflt
 pe:∃g,g.length≤1∧(g=[]→x.per=⟨eB,eB⟩)∧GSub 11 (flds m) g fun _ q=>TyM T x.per q
 cm:∃nss,GMny 13 (flds m) nss∧Al2 x.comments nss.flatten fun s n=>T[n]? =some s
theorem gm_tr {m q:Msg} {nss:List (List Nat)} (h1:GMny k (flds q) nss) (he:fl k m=fl k q):∃nss',GMny k (flds m) nss'∧nss'.flatten=nss.flatten:=by
 obtain ⟨ms,h3,h4⟩:=gl_filter (gl_of h1)
 have h5:GL k ((flds m).filter fun f=>fkey f=k) ms:=by
  show GL k (fl k m) ms
  rw[he];exact h3
 obtain ⟨nss',h6,h7⟩:=gl_unfilter _ h5
 exact ⟨nss',gm_of h6,by rw[h7,h4]⟩
theorem RestM.to {x:PProf} {T:List ByteArray} {q m:Msg} (h:RestM x T q) (he:∀k,7≤k→k≤14→fl k m=fl k q):RestM x T m:=by
 have o:∀k,7≤k→k≤14→oneN k (flds m)=oneN k (flds q):=fun k h1 h2=>by rw[oneN,oneN, ← oneF_fl, ← oneF_fl,he k h1 h2]
 refine ⟨by rw[o 7 (by omega) (by omega)];exact h.drop,by rw[o 8 (by omega) (by omega)];exact h.keep,by rw[o 9 (by omega) (by omega)];exact h.time,by rw[o 10 (by omega) (by omega)];exact h.dur,by rw[o 12 (by omega) (by omega)];exact h.period,by rw[o 14 (by omega) (by omega)];exact h.dfl,?_,?_⟩
 ·obtain ⟨g,h1,h2,h3⟩:=h.pe
  exact ⟨g,h1,h2,⟨by show (fl 11 m).map fbytes=_;rw[he 11 (by omega) (by omega)];exact h3.eq,h3.ok⟩⟩
 ·obtain ⟨nss,h1,h2⟩:=h.cm
  obtain ⟨nss',h3,h4⟩:=gm_tr h1 (he 13 (by omega) (by omega))
  exact ⟨nss',h3,by rw[h4];exact h2⟩
structure UInE (x:PProf) (T:List ByteArray) (m:Msg):Prop where
 ok:MOK tbPf m
 tab:((flds m).filter fun f=>fkey f=6).map fbytes=T.map sB
 z0:T[0]? =some eB
 tl:T.length≤1000000000
 rest:RestM x T m
 ty:∃g,g.length=x.types.length∧GSub 1 (flds m) g fun i q=>∀t,x.types[i]? =some t→TyM T t q
 sm:∃g,g.length=x.samples.length∧GSub 2 (flds m) g fun i q=>∀t,x.samples[i]? =some t→SmE x T t q
 mp:∃g,g.length=x.mappings.length∧GSub 3 (flds m) g fun i q=>∀t,x.mappings[i]? =some t→MpM T t q
 lc:∃g,g.length=x.locs.length∧GSub 4 (flds m) g fun i q=>∀t,x.locs[i]? =some t→LcM x t q
 fn:∃g,g.length=x.funcs.length∧GSub 5 (flds m) g fun i q=>∀t,x.funcs[i]? =some t→FnM T t q
def usX (x:PProf):Nat:=(x.types.map usTy).sum+(x.samples.map usS).sum+(x.mappings.map usMp).sum+(x.funcs.map usFn).sum+sumS x.comments+(x.drop.size+1)+(x.keep.size+1)+usTy x.per+(x.deflt.size+1)
set_option maxHeartbeats 8000000 in
theorem encode_c (w:World) (x:PProf) (wl:List Int) (wv:Value) (pc:List Value) (hx:RProf w pc x) (hways:Lay (RInt .i64) 1 w wv wl) (hwl:wl.length≤1000000000)
  (hn1:x.types.length≤60) (hn2:x.samples.length≤60) (hn3:x.mappings.length≤60) (hn4:x.locs.length≤60) (hn5:x.funcs.length≤60) (hn6:x.comments.length≤60)
  (hs1:∀s∈x.samples,s.stack.length≤60) (hs2:∀s∈x.samples,s.values.length≤60) (hs3:∀s∈x.samples,∀k∈s.stack,0≤k∧k<x.locs.length) (hs4:∀s∈x.samples,(allE s).length≤10000) (hs5:∀s∈x.samples,∀t∈s.texts,eB∉t.list)
  (hc1:∀l∈x.locs,l.lines.length≤60) (hc2:∀l∈x.locs,∀n∈l.lines,n.fn<x.funcs.length) (hc3:∀l∈x.locs,l.mapping<x.mappings.length) (hus:usX x≤64000000):
  Calls Tryz.prog 10 #[.agg pc.toArray,wv] w (Ret fun v w'=>(∃T m,UInE x T m∧(mB m).length≤2000000000∧OS tU8 1 w' v ((mB m).map bv))∧Fr 0 [] w w'):=by
 have hxP:=hx
 unfold usX at hus
 obtain ⟨v1,v2,v3,v4,v5,v6,rfl,hx1,hx2,hx3,hx4,hx5,hx6,hx7,hx8,hx9⟩:=hx
 obtain ⟨pty,cty,rfl, -,hxty⟩:=hx1.open
 obtain ⟨psa,csa,rfl, -,hxsa⟩:=hx2.open
 obtain ⟨pma,cma,rfl, -,hxma⟩:=hx3.open
 obtain ⟨plo,clo,rfl, -,hxlo⟩:=hx4.open
 obtain ⟨pfu,cfu,rfl, -,hxfu⟩:=hx5.open
 obtain ⟨pco,cco,rfl, -,hxco⟩:=hx6.open
 have hsB:sumS [eB]=1:=rfl
 have hWV:=wv_of_lay hways
 have hWV0:=hWV
 obtain ⟨pw,cw,rfl, -⟩:=hWV0
 refine startJ (args:=[_,_]) [(0,.agg (List.toArray [_,_,_,_,_,_,_,_,_,_,_,_,_,_])),(1,_)] w.heap.size wN [] func10 rfl ntmps10 rfl rfl .nil ?_
 refine sQ fun K1=>cj_reg (j_boxA (vs:=[_,_,_,_,_,_,_,_,_,_,_,_,_,_]) rfl rfl fun b2=>jA (k:=K1 ?_))
 refine cj_seqF fun K2 hK2=>cj_reg (jM (k:=?_))
 refine j_bslice1 ru27 so9 zv9 rfl rfl rfl rfl rfl fun b29=>j_val rfl (fun _ _ h=>r_build (cs:=[_,(.int .i64 0),_]) bt67 rfl rfl h) (j_boxA (vs:=[.slice pw wl.length cw,.int .i64 ((0:Nat):Int),.slice (some ⟨b29,0,none⟩) 1 1]) rfl rfl fun b31=>?_)
 intro w1 hH1 hf1
 have hge:w.heap.size≤b31:=(hH1.may (List.Mem.head _) rfl rfl).elim id (·.1)
 have hF:EF w.heap.size b31 wl (.slice pw wl.length cw) w:=⟨hge,Nat.le_refl _,hWV,hwl⟩
 obtain ⟨Y0,hY0⟩:∃Y0:Ent,Y0=⟨b29,tStr,[.string eB],true,true,none⟩:=⟨_,rfl⟩
 have hOY:Own tStr 1 Y0 (some ⟨b29,0,none⟩) 1 1 ([eB].map .string):=by subst hY0;exact Own.all
 refine J.begin ⟨w,w.heap.size,wN⟩ [eE b31 (.slice pw wl.length cw) 0 (some ⟨b29,0,none⟩) 1 1,Y0,_] hf1 (by subst hY0;exact hH1) ?_
 refine jA (k:=j_nil (ej_then (hK2 _ _ _ (sQ fun K3=>cj_reg (jA (k:=jA (k:=jA (k:=jA (k:=jA (k:=jA (k:=K3 (CJ.t [(2,_),(5,_),(6,_),(7,_),(8,_),(9,_),(10,_),(11,_)] (k:=sQ fun K4=>?_)))))))))))))
 refine sQ fun K5=>cj_reg (jF 0 ru31 so22 (k:=jH 2 ag22 (k:=jE ru22 (k:=jM (k:=K5 (cj_block ?_))))))
 refine cj_loop (σ:=Nat×(Nat×Option Addr×Nat×Ent)×(Ent×Option Addr×Nat)×List (Msg×List Nat)×List ByteArray) (fun s=>[(2,ptr b2),(5,ptr b31),(6,.slice s.2.2.1.2.1 (mB (subM 1 s.2.2.2.1)).length s.2.2.1.2.2),(7,.slice none 0 0),(8,.slice none 0 0),(9,.slice none 0 0),(10,.slice none 0 0),(11,.slice none 0 0),(33,.slice pty x.types.length cty),(34,.int .i64 (x.types.length:Nat)),(35,.int .i64 (s.1:Nat))])
  (fun s=>[eE b31 (.slice pw wl.length cw) s.2.1.1 s.2.1.2.1 s.2.2.2.2.length s.2.1.2.2.1,s.2.1.2.2.2,s.2.2.1.1,⟨b2,31,[.slice pty x.types.length cty,.string x.deflt,.slice psa x.samples.length csa,.slice pma x.mappings.length cma,.slice plo x.locs.length clo,.slice pfu x.funcs.length cfu,.slice pco x.comments.length cco,.string x.drop,.string x.keep,.int .i64 x.time,.int .i64 x.dur,.int .i64 x.period,.string x.per.ty,.string x.per.unit],true,true,none⟩])
  (fun s _=>s.1≤x.types.length∧Sb 1 TyM usTy 104 300 [eB] 0 s.2.2.2.2 s.2.1.1 s.2.2.2.1 (x.types.take s.1)∧Own tU8 1 s.2.2.1.1 s.2.2.1.2.1 (mB (subM 1 s.2.2.2.1)).length s.2.2.1.2.2 ((mB (subM 1 s.2.2.2.1)).map bv)∧Own tStr 1 s.2.1.2.2.2 s.2.1.2.1 s.2.2.2.2.length s.2.1.2.2.1 (s.2.2.2.2.map .string))
  (fun s=>x.types.length - s.1) (0,(0,some ⟨b29,0,none⟩,1,Y0),(nilE tU8,none,0),[],[eB]) sR (fun w' hH hf=>⟨Hp.rot3' (Hp.off hH),Nat.zero_le _,Sb.nil,Own.nil,hOY⟩) ?_
 rintro ⟨k,⟨aa,pa,ca,ya⟩,⟨yla,pla,cla⟩,La,Ta⟩ w1 ⟨hk,hIa,hOa,hTa⟩ hf1 hH1 KL hKL
 try dsimp only at hk hIa hOa hTa
 refine C.begin _ _ hf1 hH1 ?_
 try dsimp only
 refine sQ fun K6=>cj_reg (jS (k:=K6 (sQ fun K7=>?_)))
 refine cj_dec rfl (fun hlt=>?_) (fun hlt=>?_)
 ·have hlt':k<x.types.length:=by omega
  have hmem:=List.getElem_mem hlt'
  obtain ⟨b,o,cs,rfl,hcs,hR,hcell⟩:=hxty k x.types[k] (List.getElem?_eq_getElem hlt')
  have hget:x.types[k]? =some x.types[k]:=List.getElem?_eq_getElem hlt'
  have hsu:=sum_pre (us:=usTy) (List.take_prefix (k+1) x.types)
  rw[take_succ_get hget,List.map_append,List.sum_append,List.map_singleton,List.sum_singleton]at hsu
  have hsm:=hIa.sum
  have hal:=hIa.al
  have hdl:=hIa.dl
  have hTl:=len_sumT Ta
  have hkl:(x.types.take k).length=k:=by simp;omega
  rw[hkl]at hal hdl
  unfold RType at hR
  subst hR
  refine cj_skip (K7 (sQ fun K8=>cj_block (sQ fun K9=>cj_reg (jJ ru22 so29 (k:=?_)))))
  refine j_valw rfl (fun a w ha hH hf=>r_loadA (vs:=[.string x.types[k].ty,.string x.types[k].unit]) ag29 so29 rfl rfl (hcell w (keep0 (Keep.refl _) (Nat.le_refl _) hf)) ha) (j_allocA (zs:=[(.string ⟨#[]⟩),(.string ⟨#[]⟩)]) zv29 rfl fun b13=>?_)
  refine j_storeW 0 rfl rfl rfl rfl so29 rfl rfl rfl rfl rfl ?_
  refine j_rot ?_
  refine K9 (cj_reg (jM (k:=jM (k:=jM (k:=?_)))))
  refine j_valw rfl (fun a w ha hH hf=>r_ldA (vs:=[_,_]) 2 rfl rfl ag29 so29 rfl rfl rfl ha hH) ?_
  refine j_callF hF hTa ⟨nL,n9 hOa,nL,trivial⟩ call30 rfl rfl (fun w1 hH hf hE1=>typed_e _ w1 b31 wl (.slice pw wl.length cw) _ _ x.types[k] hE1 (by omega) hwl (by simp only[usTy]at hsu;omega)) fun a2 T2 D2 p2 c2 y2 p2' c2' y2' ha2 hφ2 hO2' hO2=>?_
  obtain ⟨hx2,hs2,hl2,m2,rfl,hm2⟩:=hφ2
  refine j_callF hF hO2' ⟨n9 hO2,nL,n9 hOa,nL,trivial⟩ call29 rfl rfl (fun w1 hH _ hE1=>bytes_e _ w1 b31 wl (.slice pw wl.length cw) _ 1 _ _ (mB m2) hE1 (by omega) (by omega) (rd_of hO2 hH (i:=2) rfl) (by omega) hwl) fun a3 T3 D3 p3 c3 y3 p3' c3' y3' ha3 hφ3 hO3' hO3=>?_
  obtain ⟨rfl,hG⟩:=hφ3
  have hGl:=gbys_len hG
  refine j_app8 5 2 rfl rfl hOa hO3.sl ru36 rfl rfl scal_bytes (by omega) rfl fun y4 p4 c4 hO4=>?_
  refine jA (k:=K8 (CJ.t [(2,_),(5,_),(6,_),(7,_),(8,_),(9,_),(10,_),(11,_),(33,_),(34,_),(35,_)] (k:=cj_reg (jI (k:=jM (k:=j_nil (ej_then ?_)))))))
  skip
  have hS2:=hIa.snoc (e:=x.types[k]) hx2 (by simp only[usTy];omega) hm2 hG (by omega) (show a3≤aa+104 by omega)
  rw[← take_succ_get hget]at hS2
  have hmb:mB (subM 1 (La++[(m2,D3)]))=mB (subM 1 La)++D3:=by rw[subM_app,mB_app,mB_one]
  exact fun w' hH hf=>hKL (k+1,(a3,p3',c3',y3'),(y4,p4,c4),La++[(m2,D3)],T3) _ w' ⟨hlt',hS2,by
    show Own tU8 1 y4 p4 (mB (subM 1 (La++[(m2,D3)]))).length c4 ((mB (subM 1 (La++[(m2,D3)]))).map bv)
    rw[hmb,List.length_append,List.map_append];exact hO4,hO3'⟩ hf (((hH.drop 2).drop 2).drop 2) (by show x.types.length - (k+1)<x.types.length - k;omega) (by
    dsimp only
    rw[hmb,List.length_append]
    exact ⟨rfl,rfl,rfl,rfl,rfl,rfl,rfl,rfl,rfl,rfl,rfl,trivial⟩)
 ·clear hKL
  have hka:k=x.types.length:=by omega
  subst hka
  rw[List.take_length]at hIa
  have hsma:=hIa.sum
  have hala:=hIa.al
  have hdla:=hIa.dl
  have hzb:Ta[0]? =some eB:=tx_get hIa.pre rfl
  refine cj_exit (K4 (sQ fun K10=>sQ fun K11=>cj_reg (jF 2 ru31 so23 (k:=jH 3 ag23 (k:=jE ru23 (k:=jM (k:=K11 (cj_block ?_))))))))
  refine cj_loop (σ:=Nat×(Nat×Option Addr×Nat×Ent)×(Ent×Option Addr×Nat)×List (Msg×List Nat)×List ByteArray) (fun s=>[(2,ptr b2),(5,ptr b31),(6,.slice pla (mB (subM 1 La)).length cla),(7,.slice s.2.2.1.2.1 (mB (subM 2 s.2.2.2.1)).length s.2.2.1.2.2),(8,.slice none 0 0),(9,.slice none 0 0),(10,.slice none 0 0),(11,.slice none 0 0),(48,.slice psa x.samples.length csa),(49,.int .i64 (x.samples.length:Nat)),(50,.int .i64 (s.1:Nat))])
   (fun s=>[eE b31 (.slice pw wl.length cw) s.2.1.1 s.2.1.2.1 s.2.2.2.2.length s.2.1.2.2.1,s.2.1.2.2.2,s.2.2.1.1,yla,⟨b2,31,[.slice pty x.types.length cty,.string x.deflt,.slice psa x.samples.length csa,.slice pma x.mappings.length cma,.slice plo x.locs.length clo,.slice pfu x.funcs.length cfu,.slice pco x.comments.length cco,.string x.drop,.string x.keep,.int .i64 x.time,.int .i64 x.dur,.int .i64 x.period,.string x.per.ty,.string x.per.unit],true,true,none⟩])
   (fun s _=>s.1≤x.samples.length∧Sb 2 (SmE x) usS 410004 5000100 Ta aa s.2.2.2.2 s.2.1.1 s.2.2.2.1 (x.samples.take s.1)∧Own tU8 1 s.2.2.1.1 s.2.2.1.2.1 (mB (subM 2 s.2.2.2.1)).length s.2.2.1.2.2 ((mB (subM 2 s.2.2.2.1)).map bv)∧Own tStr 1 s.2.1.2.2.2 s.2.1.2.1 s.2.2.2.2.length s.2.1.2.2.1 (s.2.2.2.2.map .string))
   (fun s=>x.samples.length - s.1) (0,(aa,pa,ca,ya),(nilE tU8,none,0),[],Ta) sR (fun w' hH hf=>⟨Hp.rot3' (Hp.off hH),Nat.zero_le _,Sb.nil,Own.nil,hTa⟩) ?_
  rintro ⟨k,⟨ab,pb,cb,yb⟩,⟨ylb,plb,clb⟩,Lb,Tb⟩ w1 ⟨hk,hIb,hOb,hTb⟩ hf1 hH1 KL hKL
  try dsimp only at hk hIb hOb hTb
  refine C.begin _ _ hf1 hH1 ?_
  try dsimp only
  refine sQ fun K12=>cj_reg (jS (k:=K12 (sQ fun K13=>?_)))
  refine cj_dec rfl (fun hlt=>?_) (fun hlt=>?_)
  ·have hlt':k<x.samples.length:=by omega
   have hmem:=List.getElem_mem hlt'
   obtain ⟨b,o,cs,rfl,hcs,hR,hcell⟩:=hxsa k x.samples[k] (List.getElem?_eq_getElem hlt')
   have hget:x.samples[k]? =some x.samples[k]:=List.getElem?_eq_getElem hlt'
   have hsu:=sum_pre (us:=usS) (List.take_prefix (k+1) x.samples)
   rw[take_succ_get hget,List.map_append,List.sum_append,List.map_singleton,List.sum_singleton]at hsu
   have hsm:=hIb.sum
   have hal:=hIb.al
   have hdl:=hIb.dl
   have hTl:=len_sumT Tb
   have hkl:(x.samples.take k).length=k:=by simp;omega
   rw[hkl]at hal hdl
   have hR0:=hR
   obtain ⟨v1,v2,v3,v4,hcs1,g1,g2,g3,g4⟩:=hR
   obtain ⟨r1,d1,rfl, -⟩:=g1.open
   obtain ⟨r2,d2,rfl, -⟩:=g2.open
   obtain ⟨r3,d3,rfl, -⟩:=g3.open
   obtain ⟨r4,d4,rfl, -⟩:=g4.open
   subst hcs1
   refine cj_skip (K13 (sQ fun K14=>cj_block (sQ fun K15=>cj_reg (jJ ru23 so57 (k:=?_)))))
   refine j_valw rfl (fun a w ha hH hf=>r_loadA (vs:=[.slice r1 x.samples[k].stack.length d1,.slice r2 x.samples[k].values.length d2,.slice r3 x.samples[k].texts.length d3,.slice r4 x.samples[k].nums.length d4]) ag57 so57 rfl rfl (hcell w (keep0 (Keep.refl _) (Nat.le_refl _) hf)) ha) (j_allocA (zs:=[(.slice none 0 0),(.slice none 0 0),(.slice none 0 0),(.slice none 0 0)]) zv57 rfl fun b15=>?_)
   refine j_storeW 0 rfl rfl rfl rfl so57 rfl rfl rfl rfl rfl ?_
   refine j_rot ?_
   refine K15 (cj_reg (jM (k:=jM (k:=jM (k:=?_)))))
   refine j_valw rfl (fun a w ha hH hf=>r_ldA (vs:=[_,_,_,_,_,_,_,_,_,_,_,_,_,_]) 5 rfl rfl ag31 so31 rfl rfl rfl ha hH) (j_valw rfl (fun a w ha hH hf=>r_ldA (vs:=[_,_,_,_]) 2 rfl rfl ag57 so57 rfl rfl rfl ha hH) ?_)
   refine j_callF hF hTb ⟨nL,n9 hOb,n9 hOa,nL,trivial⟩ call31 rfl rfl (fun w1 hH hf hE1=>sample_e _ w w1 b31 wl (.slice pw wl.length cw) ab Tb x x.samples[k] _ _ hxP hR0 (keep0 (Keep.refl _) (Nat.le_refl _) hf) (Nat.le_refl _) (hs1 _ hmem) (hs2 _ hmem) (hs3 _ hmem) (hs4 _ hmem) (hs5 _ hmem) (tx_get hIb.pre hzb) hE1 (by omega) hwl (by omega)) fun a2 T2 D2 p2 c2 y2 p2' c2' y2' ha2 hφ2 hO2' hO2=>?_
   obtain ⟨hx2,hs2,hl2,m2,rfl,hm2⟩:=hφ2
   refine j_callF hF hO2' ⟨n9 hO2,nL,n9 hOb,n9 hOa,nL,trivial⟩ call29 rfl rfl (fun w1 hH _ hE1=>bytes_e _ w1 b31 wl (.slice pw wl.length cw) _ 2 _ _ (mB m2) hE1 (by omega) (by omega) (rd_of hO2 hH (i:=2) rfl) (by omega) hwl) fun a3 T3 D3 p3 c3 y3 p3' c3' y3' ha3 hφ3 hO3' hO3=>?_
   obtain ⟨rfl,hG⟩:=hφ3
   have hGl:=gbys_len hG
   refine j_app8 5 2 rfl rfl hOb hO3.sl ru36 rfl rfl scal_bytes (by omega) rfl fun y4 p4 c4 hO4=>?_
   refine jA (k:=K14 (CJ.t [(2,_),(5,_),(6,_),(7,_),(8,_),(9,_),(10,_),(11,_),(48,_),(49,_),(50,_)] (k:=cj_reg (jI (k:=jM (k:=j_nil (ej_then ?_)))))))
   skip
   have hS2:=hIb.snoc (e:=x.samples[k]) hx2 hs2 hm2 hG (by omega) (show a3≤ab+410004 by omega)
   rw[← take_succ_get hget]at hS2
   have hmb:mB (subM 2 (Lb++[(m2,D3)]))=mB (subM 2 Lb)++D3:=by rw[subM_app,mB_app,mB_one]
   exact fun w' hH hf=>hKL (k+1,(a3,p3',c3',y3'),(y4,p4,c4),Lb++[(m2,D3)],T3) _ w' ⟨hlt',hS2,by
     show Own tU8 1 y4 p4 (mB (subM 2 (Lb++[(m2,D3)]))).length c4 ((mB (subM 2 (Lb++[(m2,D3)]))).map bv)
     rw[hmb,List.length_append,List.map_append];exact hO4,hO3'⟩ hf (((hH.drop 2).drop 2).drop 2) (by show x.samples.length - (k+1)<x.samples.length - k;omega) (by
     dsimp only
     rw[hmb,List.length_append]
     exact ⟨rfl,rfl,rfl,rfl,rfl,rfl,rfl,rfl,rfl,rfl,rfl,trivial⟩)
  ·clear hKL
   have hkb:k=x.samples.length:=by omega
   subst hkb
   rw[List.take_length]at hIb
   have hsmb:=hIb.sum
   have halb:=hIb.al
   have hdlb:=hIb.dl
   refine cj_exit (K10 (sQ fun K16=>sQ fun K17=>cj_reg (jF 3 ru31 so24 (k:=jH 4 ag24 (k:=jE ru24 (k:=jM (k:=K17 (cj_block ?_))))))))
   refine cj_loop (σ:=Nat×(Nat×Option Addr×Nat×Ent)×(Ent×Option Addr×Nat)×List (Msg×List Nat)×List ByteArray) (fun s=>[(2,ptr b2),(5,ptr b31),(6,.slice pla (mB (subM 1 La)).length cla),(7,.slice plb (mB (subM 2 Lb)).length clb),(8,.slice s.2.2.1.2.1 (mB (subM 3 s.2.2.2.1)).length s.2.2.1.2.2),(9,.slice none 0 0),(10,.slice none 0 0),(11,.slice none 0 0),(64,.slice pma x.mappings.length cma),(65,.int .i64 (x.mappings.length:Nat)),(66,.int .i64 (s.1:Nat))])
    (fun s=>[eE b31 (.slice pw wl.length cw) s.2.1.1 s.2.1.2.1 s.2.2.2.2.length s.2.1.2.2.1,s.2.1.2.2.2,s.2.2.1.1,ylb,yla,⟨b2,31,[.slice pty x.types.length cty,.string x.deflt,.slice psa x.samples.length csa,.slice pma x.mappings.length cma,.slice plo x.locs.length clo,.slice pfu x.funcs.length cfu,.slice pco x.comments.length cco,.string x.drop,.string x.keep,.int .i64 x.time,.int .i64 x.dur,.int .i64 x.period,.string x.per.ty,.string x.per.unit],true,true,none⟩])
    (fun s _=>s.1≤x.mappings.length∧Sb 3 MpM usMp 204 1100 Tb ab s.2.2.2.2 s.2.1.1 s.2.2.2.1 (x.mappings.take s.1)∧Own tU8 1 s.2.2.1.1 s.2.2.1.2.1 (mB (subM 3 s.2.2.2.1)).length s.2.2.1.2.2 ((mB (subM 3 s.2.2.2.1)).map bv)∧Own tStr 1 s.2.1.2.2.2 s.2.1.2.1 s.2.2.2.2.length s.2.1.2.2.1 (s.2.2.2.2.map .string))
    (fun s=>x.mappings.length - s.1) (0,(ab,pb,cb,yb),(nilE tU8,none,0),[],Tb) sR (fun w' hH hf=>⟨Hp.rot3' (Hp.off hH),Nat.zero_le _,Sb.nil,Own.nil,hTb⟩) ?_
   rintro ⟨k,⟨ac,pc,cc,yc⟩,⟨ylc,plc,clc⟩,Lc,Tc⟩ w1 ⟨hk,hIc,hOc,hTc⟩ hf1 hH1 KL hKL
   try dsimp only at hk hIc hOc hTc
   refine C.begin _ _ hf1 hH1 ?_
   try dsimp only
   refine sQ fun K18=>cj_reg (jS (k:=K18 (sQ fun K19=>?_)))
   refine cj_dec rfl (fun hlt=>?_) (fun hlt=>?_)
   ·have hlt':k<x.mappings.length:=by omega
    have hmem:=List.getElem_mem hlt'
    obtain ⟨b,o,cs,rfl,hcs,hR,hcell⟩:=hxma k x.mappings[k] (List.getElem?_eq_getElem hlt')
    have hget:x.mappings[k]? =some x.mappings[k]:=List.getElem?_eq_getElem hlt'
    have hsu:=sum_pre (us:=usMp) (List.take_prefix (k+1) x.mappings)
    rw[take_succ_get hget,List.map_append,List.sum_append,List.map_singleton,List.sum_singleton]at hsu
    have hsm:=hIc.sum
    have hal:=hIc.al
    have hdl:=hIc.dl
    have hTl:=len_sumT Tc
    have hkl:(x.mappings.take k).length=k:=by simp;omega
    rw[hkl]at hal hdl
    obtain ⟨hcs1,q1,q2,q3,q4⟩:=hR
    obtain ⟨i1,e1,l1⟩:=nat_of_u q1
    obtain ⟨i2,e2,l2⟩:=nat_of_u q2
    obtain ⟨i3,e3,l3⟩:=nat_of_u q3
    obtain ⟨i4,e4,l4⟩:=nat_of_u q4
    rw[e1,e2,e3,e4]at hcs1
    subst hcs1
    refine cj_skip (K19 (sQ fun K20=>cj_block (sQ fun K21=>cj_reg (jJ ru24 so73 (k:=?_)))))
    refine j_valw rfl (fun a w ha hH hf=>r_loadA (vs:=[.int .u64 (i1:Nat),.int .u64 (i2:Nat),.int .u64 (i3:Nat),.int .u64 (i4:Nat),.string x.mappings[k].file,.string x.mappings[k].build,.bool x.mappings[k].fu,.bool x.mappings[k].fi,.bool x.mappings[k].li,.bool x.mappings[k].inl]) ag73 so73 rfl rfl (hcell w (keep0 (Keep.refl _) (Nat.le_refl _) hf)) ha) (j_allocA (zs:=[(.int .u64 0),(.int .u64 0),(.int .u64 0),(.int .u64 0),(.string ⟨#[]⟩),(.string ⟨#[]⟩),(.bool false),(.bool false),(.bool false),(.bool false)]) zv73 rfl fun b17=>?_)
    refine j_storeW 0 rfl rfl rfl rfl so73 rfl rfl rfl rfl rfl ?_
    refine j_rot ?_
    refine K21 (cj_reg (jM (k:=jM (k:=jM (k:=?_)))))
    refine j_valw rfl (fun a w ha hH hf=>r_ldA (vs:=[_,_,_,_,_,_,_,_,_,_]) 2 rfl rfl ag73 so73 rfl rfl rfl ha hH) ?_
    refine j_callF hF hTc ⟨nL,n9 hOc,n9 hOb,n9 hOa,nL,trivial⟩ call32 rfl rfl (fun w1 hH hf hE1=>mapping_e _ w1 b31 wl (.slice pw wl.length cw) _ _ x.mappings[k] i1 i2 i3 i4 e1 e2 e3 e4 l1 l2 l3 l4 hE1 (by omega) hwl (by simp only[usMp]at hsu;omega)) fun a2 T2 D2 p2 c2 y2 p2' c2' y2' ha2 hφ2 hO2' hO2=>?_
    obtain ⟨hx2,hs2,hl2,m2,rfl,hm2⟩:=hφ2
    refine j_callF hF hO2' ⟨n9 hO2,nL,n9 hOc,n9 hOb,n9 hOa,nL,trivial⟩ call29 rfl rfl (fun w1 hH _ hE1=>bytes_e _ w1 b31 wl (.slice pw wl.length cw) _ 3 _ _ (mB m2) hE1 (by omega) (by omega) (rd_of hO2 hH (i:=2) rfl) (by omega) hwl) fun a3 T3 D3 p3 c3 y3 p3' c3' y3' ha3 hφ3 hO3' hO3=>?_
    obtain ⟨rfl,hG⟩:=hφ3
    have hGl:=gbys_len hG
    refine j_app8 5 2 rfl rfl hOc hO3.sl ru36 rfl rfl scal_bytes (by omega) rfl fun y4 p4 c4 hO4=>?_
    refine jA (k:=K20 (CJ.t [(2,_),(5,_),(6,_),(7,_),(8,_),(9,_),(10,_),(11,_),(64,_),(65,_),(66,_)] (k:=cj_reg (jI (k:=jM (k:=j_nil (ej_then ?_)))))))
    skip
    have hS2:=hIc.snoc (e:=x.mappings[k]) hx2 (by simp only[usMp];omega) hm2 hG (by omega) (show a3≤ac+204 by omega)
    rw[← take_succ_get hget]at hS2
    have hmb:mB (subM 3 (Lc++[(m2,D3)]))=mB (subM 3 Lc)++D3:=by rw[subM_app,mB_app,mB_one]
    exact fun w' hH hf=>hKL (k+1,(a3,p3',c3',y3'),(y4,p4,c4),Lc++[(m2,D3)],T3) _ w' ⟨hlt',hS2,by
      show Own tU8 1 y4 p4 (mB (subM 3 (Lc++[(m2,D3)]))).length c4 ((mB (subM 3 (Lc++[(m2,D3)]))).map bv)
      rw[hmb,List.length_append,List.map_append];exact hO4,hO3'⟩ hf (((hH.drop 2).drop 2).drop 2) (by show x.mappings.length - (k+1)<x.mappings.length - k;omega) (by
      dsimp only
      rw[hmb,List.length_append]
      exact ⟨rfl,rfl,rfl,rfl,rfl,rfl,rfl,rfl,rfl,rfl,rfl,trivial⟩)
   ·clear hKL
    have hkc:k=x.mappings.length:=by omega
    subst hkc
    rw[List.take_length]at hIc
    have hsmc:=hIc.sum
    have halc:=hIc.al
    have hdlc:=hIc.dl
    refine cj_exit (K16 (sQ fun K22=>sQ fun K23=>cj_reg (jF 4 ru31 so25 (k:=jH 5 ag25 (k:=jE ru25 (k:=jM (k:=K23 (cj_block ?_))))))))
    refine cj_loop (σ:=Nat×(Nat×Option Addr×Nat×Ent)×(Ent×Option Addr×Nat)×List (Msg×List Nat)×List ByteArray) (fun s=>[(2,ptr b2),(5,ptr b31),(6,.slice pla (mB (subM 1 La)).length cla),(7,.slice plb (mB (subM 2 Lb)).length clb),(8,.slice plc (mB (subM 3 Lc)).length clc),(9,.slice s.2.2.1.2.1 (mB (subM 4 s.2.2.2.1)).length s.2.2.1.2.2),(10,.slice none 0 0),(11,.slice none 0 0),(79,.slice plo x.locs.length clo),(80,.int .i64 (x.locs.length:Nat)),(81,.int .i64 (s.1:Nat))])
     (fun s=>[eE b31 (.slice pw wl.length cw) s.2.1.1 s.2.1.2.1 s.2.2.2.2.length s.2.1.2.2.1,s.2.1.2.2.2,s.2.2.1.1,ylc,ylb,yla,⟨b2,31,[.slice pty x.types.length cty,.string x.deflt,.slice psa x.samples.length csa,.slice pma x.mappings.length cma,.slice plo x.locs.length clo,.slice pfu x.funcs.length cfu,.slice pco x.comments.length cco,.string x.drop,.string x.keep,.int .i64 x.time,.int .i64 x.dur,.int .i64 x.period,.string x.per.ty,.string x.per.unit],true,true,none⟩])
     (fun s _=>s.1≤x.locs.length∧Sb 4 (fun _ l m=>LcM x l m) (fun _:PLoc=>0) 2504 25100 Tc ac s.2.2.2.2 s.2.1.1 s.2.2.2.1 (x.locs.take s.1)∧Own tU8 1 s.2.2.1.1 s.2.2.1.2.1 (mB (subM 4 s.2.2.2.1)).length s.2.2.1.2.2 ((mB (subM 4 s.2.2.2.1)).map bv)∧Own tStr 1 s.2.1.2.2.2 s.2.1.2.1 s.2.2.2.2.length s.2.1.2.2.1 (s.2.2.2.2.map .string))
     (fun s=>x.locs.length - s.1) (0,(ac,pc,cc,yc),(nilE tU8,none,0),[],Tc) sR (fun w' hH hf=>⟨Hp.rot3' (Hp.off hH),Nat.zero_le _,Sb.nil,Own.nil,hTc⟩) ?_
    rintro ⟨k,⟨ad,pd,cd,yd⟩,⟨yld,pld,cld⟩,Ld,Td⟩ w1 ⟨hk,hId,hOd,hTd⟩ hf1 hH1 KL hKL
    try dsimp only at hk hId hOd hTd
    refine C.begin _ _ hf1 hH1 ?_
    try dsimp only
    refine sQ fun K24=>cj_reg (jS (k:=K24 (sQ fun K25=>?_)))
    refine cj_dec rfl (fun hlt=>?_) (fun hlt=>?_)
    ·have hlt':k<x.locs.length:=by omega
     have hmem:=List.getElem_mem hlt'
     obtain ⟨b,o,cs,rfl,hcs,hR,hcell⟩:=hxlo k x.locs[k] (List.getElem?_eq_getElem hlt')
     have hget:x.locs[k]? =some x.locs[k]:=List.getElem?_eq_getElem hlt'
     have hsu:=sum_pre (us:=(fun _:PLoc=>0)) (List.take_prefix (k+1) x.locs)
     rw[take_succ_get hget,List.map_append,List.sum_append,List.map_singleton,List.sum_singleton]at hsu
     have hsm:=hId.sum
     have hal:=hId.al
     have hdl:=hId.dl
     have hTl:=len_sumT Td
     have hkl:(x.locs.take k).length=k:=by simp;omega
     rw[hkl]at hal hdl
     have hR0:=hR
     obtain ⟨nv,hcs1, -, -, -,g1⟩:=hR
     obtain ⟨r1,d1,rfl, -⟩:=g1.open
     subst hcs1
     refine cj_skip (K25 (sQ fun K26=>cj_block (sQ fun K27=>cj_reg (jJ ru25 so77 (k:=?_)))))
     refine j_valw rfl (fun a w ha hH hf=>r_loadA (vs:=[.int .u64 x.locs[k].id,.int .i64 x.locs[k].mapping,.int .u64 x.locs[k].addr,.slice r1 x.locs[k].lines.length d1]) ag77 so77 rfl rfl (hcell w (keep0 (Keep.refl _) (Nat.le_refl _) hf)) ha) (j_allocA (zs:=[(.int .u64 0),(.int .i64 0),(.int .u64 0),(.slice none 0 0)]) zv77 rfl fun b19=>?_)
     refine j_storeW 0 rfl rfl rfl rfl so77 rfl rfl rfl rfl rfl ?_
     refine j_rot ?_
     refine K27 (cj_reg (jM (k:=jM (k:=jM (k:=?_)))))
     refine j_valw rfl (fun a w ha hH hf=>r_ldA (vs:=[_,_,_,_,_,_,_,_,_,_,_,_,_,_]) 7 rfl rfl ag31 so31 rfl rfl rfl ha hH) (j_valw rfl (fun a w ha hH hf=>r_ldA (vs:=[_,_,_,_]) 2 rfl rfl ag77 so77 rfl rfl rfl ha hH) ?_)
     refine j_callF hF hTd ⟨nL,n9 hOd,n9 hOc,n9 hOb,n9 hOa,nL,trivial⟩ call33 rfl rfl (fun w1 hH hf hE1=>location_e _ w w1 b31 wl (.slice pw wl.length cw) ad Td x x.locs[k] _ _ hxP hR0 (keep0 (Keep.refl _) (Nat.le_refl _) hf) (Nat.le_refl _) (hc1 _ hmem) (hc2 _ hmem) (hc3 _ hmem) hE1 (by omega) hwl) fun a2 T2 D2 p2 c2 y2 p2' c2' y2' ha2 hφ2 hO2' hO2=>?_
     obtain ⟨rfl,hl2,m2,rfl,hm2⟩:=hφ2
     refine j_callF hF hO2' ⟨n9 hO2,nL,n9 hOd,n9 hOc,n9 hOb,n9 hOa,nL,trivial⟩ call29 rfl rfl (fun w1 hH _ hE1=>bytes_e _ w1 b31 wl (.slice pw wl.length cw) _ 4 _ _ (mB m2) hE1 (by omega) (by omega) (rd_of hO2 hH (i:=2) rfl) (by omega) hwl) fun a3 T3 D3 p3 c3 y3 p3' c3' y3' ha3 hφ3 hO3' hO3=>?_
     obtain ⟨rfl,hG⟩:=hφ3
     have hGl:=gbys_len hG
     refine j_app8 5 2 rfl rfl hOd hO3.sl ru36 rfl rfl scal_bytes (by omega) rfl fun y4 p4 c4 hO4=>?_
     refine jA (k:=K26 (CJ.t [(2,_),(5,_),(6,_),(7,_),(8,_),(9,_),(10,_),(11,_),(79,_),(80,_),(81,_)] (k:=cj_reg (jI (k:=jM (k:=j_nil (ej_then ?_)))))))
     skip
     have hS2:=hId.snoc (e:=x.locs[k]) (List.prefix_refl _) (Nat.le_refl _) (fun _ _=>hm2) hG (by omega) (show a3≤ad+2504 by omega)
     rw[← take_succ_get hget]at hS2
     have hmb:mB (subM 4 (Ld++[(m2,D3)]))=mB (subM 4 Ld)++D3:=by rw[subM_app,mB_app,mB_one]
     exact fun w' hH hf=>hKL (k+1,(a3,p3',c3',y3'),(y4,p4,c4),Ld++[(m2,D3)],T3) _ w' ⟨hlt',hS2,by
       show Own tU8 1 y4 p4 (mB (subM 4 (Ld++[(m2,D3)]))).length c4 ((mB (subM 4 (Ld++[(m2,D3)]))).map bv)
       rw[hmb,List.length_append,List.map_append];exact hO4,hO3'⟩ hf (((hH.drop 2).drop 2).drop 2) (by show x.locs.length - (k+1)<x.locs.length - k;omega) (by
       dsimp only
       rw[hmb,List.length_append]
       exact ⟨rfl,rfl,rfl,rfl,rfl,rfl,rfl,rfl,rfl,rfl,rfl,trivial⟩)
    ·clear hKL
     have hkd:k=x.locs.length:=by omega
     subst hkd
     rw[List.take_length]at hId
     have hsmd:=hId.sum
     have hald:=hId.al
     have hdld:=hId.dl
     rw[sum0,Nat.add_zero]at hsmd
     refine cj_exit (K22 (sQ fun K28=>sQ fun K29=>cj_reg (jF 5 ru31 so26 (k:=jH 6 ag26 (k:=jE ru26 (k:=jM (k:=K29 (cj_block ?_))))))))
     refine cj_loop (σ:=Nat×(Nat×Option Addr×Nat×Ent)×(Ent×Option Addr×Nat)×List (Msg×List Nat)×List ByteArray) (fun s=>[(2,ptr b2),(5,ptr b31),(6,.slice pla (mB (subM 1 La)).length cla),(7,.slice plb (mB (subM 2 Lb)).length clb),(8,.slice plc (mB (subM 3 Lc)).length clc),(9,.slice pld (mB (subM 4 Ld)).length cld),(10,.slice s.2.2.1.2.1 (mB (subM 5 s.2.2.2.1)).length s.2.2.1.2.2),(11,.slice none 0 0),(95,.slice pfu x.funcs.length cfu),(96,.int .i64 (x.funcs.length:Nat)),(97,.int .i64 (s.1:Nat))])
      (fun s=>[eE b31 (.slice pw wl.length cw) s.2.1.1 s.2.1.2.1 s.2.2.2.2.length s.2.1.2.2.1,s.2.1.2.2.2,s.2.2.1.1,yld,ylc,ylb,yla,⟨b2,31,[.slice pty x.types.length cty,.string x.deflt,.slice psa x.samples.length csa,.slice pma x.mappings.length cma,.slice plo x.locs.length clo,.slice pfu x.funcs.length cfu,.slice pco x.comments.length cco,.string x.drop,.string x.keep,.int .i64 x.time,.int .i64 x.dur,.int .i64 x.period,.string x.per.ty,.string x.per.unit],true,true,none⟩])
      (fun s _=>s.1≤x.funcs.length∧Sb 5 FnM usFn 104 600 Td ad s.2.2.2.2 s.2.1.1 s.2.2.2.1 (x.funcs.take s.1)∧Own tU8 1 s.2.2.1.1 s.2.2.1.2.1 (mB (subM 5 s.2.2.2.1)).length s.2.2.1.2.2 ((mB (subM 5 s.2.2.2.1)).map bv)∧Own tStr 1 s.2.1.2.2.2 s.2.1.2.1 s.2.2.2.2.length s.2.1.2.2.1 (s.2.2.2.2.map .string))
      (fun s=>x.funcs.length - s.1) (0,(ad,pd,cd,yd),(nilE tU8,none,0),[],Td) sR (fun w' hH hf=>⟨Hp.rot3' (Hp.off hH),Nat.zero_le _,Sb.nil,Own.nil,hTd⟩) ?_
     rintro ⟨k,⟨ae,pe,ce,ye⟩,⟨yle,ple,cle⟩,Le,Te⟩ w1 ⟨hk,hIe,hOe,hTe⟩ hf1 hH1 KL hKL
     try dsimp only at hk hIe hOe hTe
     refine C.begin _ _ hf1 hH1 ?_
     try dsimp only
     refine sQ fun K30=>cj_reg (jS (k:=K30 (sQ fun K31=>?_)))
     refine cj_dec rfl (fun hlt=>?_) (fun hlt=>?_)
     ·have hlt':k<x.funcs.length:=by omega
      have hmem:=List.getElem_mem hlt'
      obtain ⟨b,o,cs,rfl,hcs,hR,hcell⟩:=hxfu k x.funcs[k] (List.getElem?_eq_getElem hlt')
      have hget:x.funcs[k]? =some x.funcs[k]:=List.getElem?_eq_getElem hlt'
      have hsu:=sum_pre (us:=usFn) (List.take_prefix (k+1) x.funcs)
      rw[take_succ_get hget,List.map_append,List.sum_append,List.map_singleton,List.sum_singleton]at hsu
      have hsm:=hIe.sum
      have hal:=hIe.al
      have hdl:=hIe.dl
      have hTl:=len_sumT Te
      have hkl:(x.funcs.take k).length=k:=by simp;omega
      rw[hkl]at hal hdl
      simp only[usFn]at hsu
      obtain ⟨hcs1,q1,q2⟩:=hR
      obtain ⟨i1,e1,l1⟩:=nat_of_u q1
      rw[e1]at hcs1
      subst hcs1
      refine cj_skip (K31 (sQ fun K32=>cj_block (sQ fun K33=>cj_reg (jJ ru26 so80 (k:=?_)))))
      refine j_valw rfl (fun a w ha hH hf=>r_loadA (vs:=[.int .u64 (i1:Nat),.string x.funcs[k].name,.string x.funcs[k].system,.string x.funcs[k].file,.int .i64 x.funcs[k].start]) ag80 so80 rfl rfl (hcell w (keep0 (Keep.refl _) (Nat.le_refl _) hf)) ha) (j_allocA (zs:=[(.int .u64 0),(.string ⟨#[]⟩),(.string ⟨#[]⟩),(.string ⟨#[]⟩),(.int .i64 0)]) zv80 rfl fun b21=>?_)
      refine j_storeW 0 rfl rfl rfl rfl so80 rfl rfl rfl rfl rfl ?_
      refine j_rot ?_
      refine K33 (cj_drawI 35 (lts [0,1,2,3,4,5,7,8,9,10,13,14,15,16,19,20,21,22,25,26,27,28]++(6,false)::(11,false)::(12,false)::(17,false)::(18,false)::(23,false)::(24,false)::(29,false)::(30,false)::(31,false)::(32,false)::(33,false)::lts [34]) [2] rfl (by kernel_rfl) (by kernel_rfl) (dM [2] (k:=dM [2] (k:=dM [2] (k:=dM [2] (k:=dF [2] 0 ru80 so71 (k:=dH [2] 0 ag71 (k:=dM [2] (k:=dM [2] (k:=dF [2] 1 ru80 so9 (k:=dH [2] 0 ag9 (k:=dM [2] (k:=dM [2] (k:=?_))))))))))))))
      refine dF [2] 2 ru80 so9 (k:=dH [2] 0 ag9 (k:=dM [2] (k:=dM [2] (k:=dF [2] 3 ru80 so9 (k:=dH [2] 0 ag9 (k:=dM [2] (k:=dF [2] 4 ru80 so2 (k:=dH [2] 0 ag2 (k:=?_)))))))))
      refine dj_val rfl rfl (sub_of [2] rfl) (fun _ _ h=>r_conv ru2 ru71 rfl h) ?_
      refine dj_eqv (u:=.int .u64 ((uN x.funcs[k].start:Nat):Int)) (congrArg (Value.int .u64) (uN_eq _)) ?_
      refine dE (h:=fun Kd=>?_)
      refine j_callF hF hTe ⟨nL,n9 hOe,n9 hOd,n9 hOc,n9 hOb,n9 hOa,nL,trivial⟩ call35 rfl rfl (fun w1 _ _ hE1=>tagged_c _ w1 b31 wl (.slice pw wl.length cw) _ 1 i1 Te hE1 (by omega) (by omega) l1 hwl) fun a21 T21 D21 p21 c21 y21 p21' c21' y21' ha21 hφ21 hO21' hO21=>?_
      obtain ⟨rfl,m21,rfl,hm21⟩:=hφ21
      have hl21:=hm21.len
      refine Kd (sb [3]) (dE (h:=fun Kd=>?_))
      refine j_textF (s:=x.funcs[k].name) hF hO21' ⟨n9 hO21,nL,n9 hOe,n9 hOd,n9 hOc,n9 hOb,n9 hOa,nL,trivial⟩ (by omega) (by omega) rfl rfl rfl fun a22 T22 i22 p22 c22 y22 ha22 hi22 hT22 hO22=>?_
      obtain ⟨hx22,hs22⟩:=tx_of hT22
      have hl22:=len_sumT T22
      have hil22:=(List.getElem?_eq_some_iff.1 hi22).1
      refine Kd (sb [3]) (dE (h:=fun Kd=>?_))
      refine j_callF hF hO22 ⟨n9 hO21,nL,n9 hOe,n9 hOd,n9 hOc,n9 hOb,n9 hOa,nL,trivial⟩ call35 rfl rfl (fun w1 _ _ hE1=>tagged_c _ w1 b31 wl (.slice pw wl.length cw) _ 2 i22 T22 hE1 (by omega) (by omega) (by omega) hwl) fun a23 T23 D23 p23 c23 y23 p23' c23' y23' ha23 hφ23 hO23' hO23=>?_
      obtain ⟨rfl,m23,rfl,hm23⟩:=hφ23
      have hl23:=hm23.len
      refine Kd (sb [4]) (dE (h:=fun Kd=>?_))
      refine j_textF (s:=x.funcs[k].system) hF hO23' ⟨n9 hO23,n9 hO21,nL,n9 hOe,n9 hOd,n9 hOc,n9 hOb,n9 hOa,nL,trivial⟩ (by omega) (by omega) rfl rfl rfl fun a24 T24 i24 p24 c24 y24 ha24 hi24 hT24 hO24=>?_
      obtain ⟨hx24,hs24⟩:=tx_of hT24
      have hl24:=len_sumT T24
      have hil24:=(List.getElem?_eq_some_iff.1 hi24).1
      refine Kd (sb [4]) (dE (h:=fun Kd=>?_))
      refine j_callF hF hO24 ⟨n9 hO23,n9 hO21,nL,n9 hOe,n9 hOd,n9 hOc,n9 hOb,n9 hOa,nL,trivial⟩ call35 rfl rfl (fun w1 _ _ hE1=>tagged_c _ w1 b31 wl (.slice pw wl.length cw) _ 3 i24 T24 hE1 (by omega) (by omega) (by omega) hwl) fun a25 T25 D25 p25 c25 y25 p25' c25' y25' ha25 hφ25 hO25' hO25=>?_
      obtain ⟨rfl,m25,rfl,hm25⟩:=hφ25
      have hl25:=hm25.len
      refine Kd (sb [5]) (dE (h:=fun Kd=>?_))
      refine j_textF (s:=x.funcs[k].file) hF hO25' ⟨n9 hO25,n9 hO23,n9 hO21,nL,n9 hOe,n9 hOd,n9 hOc,n9 hOb,n9 hOa,nL,trivial⟩ (by omega) (by omega) rfl rfl rfl fun a26 T26 i26 p26 c26 y26 ha26 hi26 hT26 hO26=>?_
      obtain ⟨hx26,hs26⟩:=tx_of hT26
      have hl26:=len_sumT T26
      have hil26:=(List.getElem?_eq_some_iff.1 hi26).1
      refine Kd (sb [5]) (dE (h:=fun Kd=>?_))
      refine j_callF hF hO26 ⟨n9 hO25,n9 hO23,n9 hO21,nL,n9 hOe,n9 hOd,n9 hOc,n9 hOb,n9 hOa,nL,trivial⟩ call35 rfl rfl (fun w1 _ _ hE1=>tagged_c _ w1 b31 wl (.slice pw wl.length cw) _ 4 i26 T26 hE1 (by omega) (by omega) (by omega) hwl) fun a27 T27 D27 p27 c27 y27 p27' c27' y27' ha27 hφ27 hO27' hO27=>?_
      obtain ⟨rfl,m27,rfl,hm27⟩:=hφ27
      have hl27:=hm27.len
      refine Kd (sb [6]) (dE (h:=fun Kd=>?_))
      refine j_callF hF hO27' ⟨n9 hO27,n9 hO25,n9 hO23,n9 hO21,nL,n9 hOe,n9 hOd,n9 hOc,n9 hOb,n9 hOa,nL,trivial⟩ call35 rfl rfl (fun w1 _ _ hE1=>tagged_c _ w1 b31 wl (.slice pw wl.length cw) _ 5 (uN x.funcs[k].start) T27 hE1 (by omega) (by omega) (uN_lt _) hwl) fun a28 T28 D28 p28 c28 y28 p28' c28' y28' ha28 hφ28 hO28' hO28=>?_
      obtain ⟨rfl,m28,rfl,hm28⟩:=hφ28
      have hl28:=hm28.len
      refine Kd (sb [7]) (dE (h:=fun Kd=>?_))
      refine j_bsliceN (vals:=[(0,.slice p21 (mB m21).length c21),(1,.slice p23 (mB m23).length c23),(2,.slice p25 (mB m25).length c25),(3,.slice p27 (mB m27).length c27),(4,.slice p28 (mB m28).length c28)]) (cells:= #[.slice p21 (mB m21).length c21,.slice p23 (mB m23).length c23,.slice p25 (mB m25).length c25,.slice p27 (mB m27).length c27,.slice p28 (mB m28).length c28]) ru154 so36 zv36 rfl rfl rfl (by kernel_rfl) rfl fun bt=>?_
      refine j_rot ?_
      obtain ⟨qs,hqs⟩:∃qs:List VM,qs=[(.slice p21 (mB m21).length c21,m21),(.slice p23 (mB m23).length c23,m23),(.slice p25 (mB m25).length c25,m25),(.slice p27 (mB m27).length c27,m27),(.slice p28 (mB m28).length c28,m28)]:=⟨_,rfl⟩
      have hKA:KA [[1],[2],[3],[4],[5]] qs:=by subst hqs;exact ⟨hm21.ks,hm23.ks,hm25.ks,hm27.ks,hm28.ks,trivial⟩
      have hKP:([[1],[2],[3],[4],[5]]:List (List Nat)).Pairwise (fun a b=>∀x∈a,x∉b):=by decide
      refine Kd (sb [8]) (dE (h:=fun Kd=>?_))
      refine j_callF hF hO28' ⟨nL,n9 hO28,n9 hO27,n9 hO25,n9 hO23,n9 hO21,nL,n9 hOe,n9 hOd,n9 hOc,n9 hOb,n9 hOa,nL,trivial⟩ call34 rfl rfl (fun w1 hH _ hE1=>mixed_c _ w1 b31 wl (.slice pw wl.length cw) _ T28 _ qs hE1 (by omega) hwl (by rw[hqs];exact (Own.all (T:=tB8) (b:=bt) (cs:=[.slice p21 (mB m21).length c21,.slice p23 (mB m23).length c23,.slice p25 (mB m25).length c25,.slice p27 (mB m27).length c27,.slice p28 (mB m28).length c28])).os hH (i:=2) rfl) (fun q hq=>by
        rw[hqs]at hq
        simp only[List.mem_cons,List.mem_nil_iff,or_false]at hq
        rcases hq with rfl|rfl|rfl|rfl|rfl
        ·exact ⟨rd_of hO21 hH (i:=7) rfl,rfl,hm21.enc⟩
        ·exact ⟨rd_of hO23 hH (i:=6) rfl,rfl,hm23.enc⟩
        ·exact ⟨rd_of hO25 hH (i:=5) rfl,rfl,hm25.enc⟩
        ·exact ⟨rd_of hO27 hH (i:=4) rfl,rfl,hm27.enc⟩
        ·exact ⟨rd_of hO28 hH (i:=3) rfl,rfl,hm28.enc⟩) (by rw[hqs];simp) (by rw[hqs];simp[tl];omega) (pw_of hKA hKP)) fun a29 T29 D29 p29 c29 y29 p29' c29' y29' ha29 hφ29 hO29' hO29=>?_
      obtain ⟨rfl,hlm,mX,rfl,hMX⟩:=hφ29
      rw[hqs]at ha29
      simp only[List.length_cons,List.length_nil]at ha29
      have hlX:(mB mX).length≤500:=by rw[hqs]at hlm;simp[tl]at hlm;omega
      refine Kd (sb [9]) (dE (h:=fun Kd=>?_))
      refine j_callF hF hO29' ⟨n9 hO29,nL,n9 hO28,n9 hO27,n9 hO25,n9 hO23,n9 hO21,nL,n9 hOe,n9 hOd,n9 hOc,n9 hOb,n9 hOa,nL,trivial⟩ call29 rfl rfl (fun w1 hH _ hE1=>bytes_e _ w1 b31 wl (.slice pw wl.length cw) _ 5 _ _ (mB mX) hE1 (by omega) (by omega) (rd_of hO29 hH (i:=2) rfl) (by omega) hwl) fun a3 T3 D3 p3 c3 y3 p3' c3' y3' ha3 hφ3 hO3' hO3=>?_
      obtain ⟨rfl,hG⟩:=hφ3
      have hGl:=gbys_len hG
      refine Kd (sb [10]) (dE (h:=fun Kd=>?_))
      refine j_app8 11 2 rfl rfl hOe hO3.sl ru36 rfl rfl scal_bytes (by omega) rfl fun y4 p4 c4 hO4=>?_
      refine Kd (sb [10]) (dA [10] (k:=K32 (CJ.t [(2,_),(5,_),(6,_),(7,_),(8,_),(9,_),(10,_),(11,_),(95,_),(96,_),(97,_)] (k:=cj_reg (jI (k:=jM (k:=j_nil (ej_then ?_))))))))
      skip
      have hFM:∀T'',T3<+:T''→FnM T'' x.funcs[k] mX:=fun T'' hx=>⟨hMX.ok (fun q hq=>by
        rw[hqs]at hq
        simp only[List.map_cons,List.map_nil,List.mem_cons,List.mem_nil_iff,or_false]at hq
        rcases hq with rfl|rfl|rfl|rfl|rfl
        ·exact hm21.wire (by decide)
        ·exact hm23.wire (by decide)
        ·exact hm25.wire (by decide)
        ·exact hm27.wire (by decide)
        ·exact hm28.wire (by decide)) (fun k hk=>by unfold tb5;rw[if_neg (by omega)]) (by omega),by
          rw[hMX.one (by omega) (ka_one hKA hKP (i:=0) (by rw[hqs];rfl) rfl (by omega) (by decide)) hm21,e1],by
          rw[hMX.one (by omega) (ka_one hKA hKP (i:=1) (by rw[hqs];rfl) rfl (by omega) (by decide)) hm23];exact tx_get (hx24.trans (hx26.trans hx)) hi22,by
          rw[hMX.one (by omega) (ka_one hKA hKP (i:=2) (by rw[hqs];rfl) rfl (by omega) (by decide)) hm25];exact tx_get (hx26.trans hx) hi24,by
          rw[hMX.one (by omega) (ka_one hKA hKP (i:=3) (by rw[hqs];rfl) rfl (by omega) (by decide)) hm27];exact tx_get hx hi26,by
          rw[hMX.one (by omega) (ka_one hKA hKP (i:=4) (by rw[hqs];rfl) rfl (by omega) (by decide)) hm28];exact wrap_uN q2⟩
      have hS2:=hIe.snoc (e:=x.funcs[k]) (hx22.trans (hx24.trans hx26)) (by simp only[usFn];omega) hFM hG (by omega) (show a3≤ae+104 by omega)
      rw[← take_succ_get hget]at hS2
      have hmb:mB (subM 5 (Le++[(mX,D3)]))=mB (subM 5 Le)++D3:=by rw[subM_app,mB_app,mB_one]
      exact fun w' hH hf=>hKL (k+1,(a3,p3',c3',y3'),(y4,p4,c4),Le++[(mX,D3)],T3) _ w' ⟨hlt',hS2,by
        show Own tU8 1 y4 p4 (mB (subM 5 (Le++[(mX,D3)]))).length c4 ((mB (subM 5 (Le++[(mX,D3)]))).map bv)
        rw[hmb,List.length_append,List.map_append];exact hO4,hO3'⟩ hf (((((((((hH.drop 2).drop 2).drop 2).drop 2).drop 2).drop 2).drop 2).drop 2).drop 2) (by show x.funcs.length - (k+1)<x.funcs.length - k;omega) (by
        dsimp only
        rw[hmb,List.length_append]
        exact ⟨rfl,rfl,rfl,rfl,rfl,rfl,rfl,rfl,rfl,rfl,rfl,trivial⟩)
     ·clear hKL
      have hke:k=x.funcs.length:=by omega
      subst hke
      rw[List.take_length]at hIe
      have hsme:=hIe.sum
      have hale:=hIe.al
      have hdle:=hIe.dl
      refine cj_exit (K28 (sQ fun K34=>cj_reg (jA (k:=K34 (sQ fun K35=>sQ fun K36=>cj_reg (jF 6 ru31 so27 (k:=jH 7 ag27 (k:=jE ru27 (k:=jM (k:=K36 (cj_block ?_)))))))))))
      refine cj_loop (σ:=Nat×(Nat×Option Addr×Nat×Ent)×(Ent×Option Addr×Nat)×List Nat×List ByteArray) (fun s=>[(2,ptr b2),(5,ptr b31),(6,.slice pla (mB (subM 1 La)).length cla),(7,.slice plb (mB (subM 2 Lb)).length clb),(8,.slice plc (mB (subM 3 Lc)).length clc),(9,.slice pld (mB (subM 4 Ld)).length cld),(10,.slice ple (mB (subM 5 Le)).length cle),(11,.slice none 0 0),(22,.slice s.2.2.1.2.1 s.2.2.2.1.length s.2.2.1.2.2),(137,.slice pco x.comments.length cco),(138,.int .i64 (x.comments.length:Nat)),(139,.int .i64 (s.1:Nat))])
       (fun s=>[eE b31 (.slice pw wl.length cw) s.2.1.1 s.2.1.2.1 s.2.2.2.2.length s.2.1.2.2.1,s.2.1.2.2.2,s.2.2.1.1,yle,yld,ylc,ylb,yla,⟨b2,31,[.slice pty x.types.length cty,.string x.deflt,.slice psa x.samples.length csa,.slice pma x.mappings.length cma,.slice plo x.locs.length clo,.slice pfu x.funcs.length cfu,.slice pco x.comments.length cco,.string x.drop,.string x.keep,.int .i64 x.time,.int .i64 x.dur,.int .i64 x.period,.string x.per.ty,.string x.per.unit],true,true,none⟩])
       (fun s _=>s.1≤x.comments.length∧s.2.2.2.1.length=s.1∧(∀(i n:Nat) v,s.2.2.2.1[i]? =some n→x.comments[i]? =some v→s.2.2.2.2[n]? =some v)∧(∀n∈s.2.2.2.1,n<18446744073709551616)∧Te<+:s.2.2.2.2∧sumS s.2.2.2.2≤sumS Te+sumS (x.comments.take s.1)∧s.2.1.1≤ae+s.1∧Own tU64 1 s.2.2.1.1 s.2.2.1.2.1 s.2.2.2.1.length s.2.2.1.2.2 (s.2.2.2.1.map fun n:Nat=>Value.int .u64 (n:Nat))∧Own tStr 1 s.2.1.2.2.2 s.2.1.2.1 s.2.2.2.2.length s.2.1.2.2.1 (s.2.2.2.2.map .string))
       (fun s=>x.comments.length - s.1) (0,(ae,pe,ce,ye),(nilE tU64,none,0),[],Te) sR (fun w' hH hf=>⟨Hp.rot3' (Hp.off hH),Nat.zero_le _,rfl,fun i n s h=>(by simp at h),fun n h=>(by cases h),List.prefix_refl _,Nat.le_add_right _ _,Nat.le_refl _,Own.nil,hTe⟩) ?_
      rintro ⟨k,⟨af,pf,cf,yf⟩,⟨ylf,plf,clf⟩,ns,Tf⟩ w1 ⟨hk,hnl,hnT,hn64,hTef,hsmf,half,hOf,hTf⟩ hf1 hH1 KL hKL
      try dsimp only at hk hnl hnT hn64 hTef hsmf half hOf hTf
      refine C.begin _ _ hf1 hH1 ?_
      try dsimp only
      have hck:sumS (x.comments.take k)≤sumS x.comments:=sum_pre (us:=fun s:ByteArray=>s.size+1) (List.take_prefix k x.comments)
      have hTfl:=len_sumT Tf
      refine sQ fun K37=>cj_reg (jS (k:=K37 (sQ fun K38=>?_)))
      refine cj_dec rfl (fun hlt=>?_) (fun hlt=>?_)
      ·have hlt':k<x.comments.length:=by omega
       obtain ⟨b,o,cs,rfl,hcs,hR,hcell⟩:=hxco k x.comments[k] (List.getElem?_eq_getElem hlt')
       obtain rfl:=hR
       have hget:x.comments[k]? =some x.comments[k]:=List.getElem?_eq_getElem hlt'
       have hck1:sumS (x.comments.take (k+1))≤sumS x.comments:=sum_pre (us:=fun s:ByteArray=>s.size+1) (List.take_prefix (k+1) x.comments)
       have hcq:sumS (x.comments.take (k+1))=sumS (x.comments.take k)+(x.comments[k].size+1):=by rw[take_succ_get hget];unfold sumS;rw[List.map_append,List.sum_append];rfl
       refine cj_skip (K38 (sQ fun K39=>cj_block (sQ fun K40=>cj_reg (jJ ru27 so9 (k:=?_)))))
       refine j_valw rfl (fun a w ha hH hf=>r_load ag9 rfl (hcell w (keep0 (Keep.refl _) (Nat.le_refl _) hf) 0 _ rfl) ha) (jA (k:=K40 (cj_reg (jM (k:=jM (k:=jM (k:=?_)))))))
       refine j_textF (s:=x.comments[k]) hF hTf ⟨n9 hOf,n9 hOe,n9 hOd,n9 hOc,n9 hOb,n9 hOa,nL,trivial⟩ (by omega) (by omega) rfl rfl rfl fun a2 T2 i2 p2 c2 y2 ha2 hi2 hT2 hO2=>?_
       obtain ⟨hx2,hs2⟩:=tx_of hT2
       have hl2:=len_sumT T2
       have hil2:=(List.getElem?_eq_some_iff.1 hi2).1
       refine j_bslice1 ru84 so71 zv71 rfl rfl rfl rfl rfl fun b147=>?_
       refine j_appO 2 rfl hOf ru84 el71 rfl rfl rfl rfl rfl (by omega) rfl fun y148 p148 c148 hO148=>?_
       refine jA (k:=K39 (CJ.t [(2,_),(5,_),(6,_),(7,_),(8,_),(9,_),(10,_),(11,_),(22,_),(137,_),(138,_),(139,_)] (k:=cj_reg (jI (k:=jM (k:=j_nil (ej_then ?_)))))))
       exact fun w' hH hf=>hKL (k+1,(a2,p2,c2,y2),(y148,p148,c148),ns++[i2],T2) _ w' ⟨hlt',by simp[hnl],fun i n s h1 h2=>by
         by_cases hi:i<ns.length
         ·rw[List.getElem?_append_left hi]at h1;exact tx_get hx2 (hnT i n s h1 h2)
         ·have hi0:i=k:=by have:=(List.getElem?_eq_some_iff.1 h1).1;simp at this;omega
          subst hi0
          rw[List.getElem?_append_right (by omega),hnl,Nat.sub_self]at h1
          simp at h1
          rw[hget]at h2
          simp at h2
          subst h1;subst h2
          exact hi2,fun n h=>by
         rcases List.mem_append.1 h with h|h
         ·exact hn64 n h
         ·simp at h;subst h;omega,hTef.trans hx2,by show sumS T2≤sumS Te+sumS (x.comments.take (k+1));omega,by show a2≤ae+(k+1);omega,by
         show Own tU64 1 y148 p148 (ns++[i2]).length c148 ((ns++[i2]).map fun n:Nat=>Value.int .u64 (n:Nat))
         rw[List.length_append,List.map_append];exact hO148,hO2⟩ hf hH (by show x.comments.length - (k+1)<x.comments.length - k;omega) (by
         dsimp only
         rw[List.length_append]
         exact ⟨rfl,rfl,rfl,rfl,rfl,rfl,rfl,rfl,rfl,rfl,rfl,rfl,trivial⟩)
      ·clear hKL
       have hkf:k=x.comments.length:=by omega
       subst hkf
       rw[List.take_length]at hsmf
       have husP:usTy x.per=(x.per.ty.size+1)+(x.per.unit.size+1):=rfl
       refine cj_exit (K35 (sQ fun K41=>cj_drawI 46 (lts [0,1,2,3,4,7,8,9,10,13,14,15,16,18,19,20,21,23,24,25,26,29,30,31,32,34,35,37,38,39,40]++(5,false)::(6,false)::(11,false)::(12,false)::(17,false)::(22,false)::(27,false)::(28,false)::(33,false)::(36,false)::(41,false)::(42,false)::(43,false)::(44,false)::lts [45]) [8] rfl (by kernel_rfl) (by kernel_rfl) (dM [8] (k:=dM [8] (k:=dM [8] (k:=dF [8] 7 ru31 so9 (k:=dH [8] 0 ag9 (k:=dM [8] (k:=dM [8] (k:=dF [8] 8 ru31 so9 (k:=dH [8] 0 ag9 (k:=dM [8] (k:=dF [8] 9 ru31 so2 (k:=?_))))))))))))))
       refine dH [8] 0 ag2 (k:=?_)
       refine dj_val rfl rfl (sub_of [8] rfl) (fun _ _ h=>r_conv ru2 ru71 rfl h) ?_
       refine dj_eqv (u:=.int .u64 ((uN x.time:Nat):Int)) (congrArg (Value.int .u64) (uN_eq _)) ?_
       refine dM [8] (k:=dF [8] 10 ru31 so2 (k:=dH [8] 0 ag2 (k:=?_)))
       refine dj_val rfl rfl (sub_of [8] rfl) (fun _ _ h=>r_conv ru2 ru71 rfl h) ?_
       refine dj_eqv (u:=.int .u64 ((uN x.dur:Nat):Int)) (congrArg (Value.int .u64) (uN_eq _)) ?_
       refine dM [8] (k:=dM [8] (k:=dF [8] 12 ru31 so29 (k:=?_)))
       refine dj_ld rfl rfl (sub_of [8] rfl) (fun a w ha hS=>r_ldSA (vs:=[_,_]) 0 rfl rfl ag29 so29 rfl rfl rfl ha hS) (dM [8] (k:=dF [8] 11 ru31 so2 (k:=dH [8] 0 ag2 (k:=?_))))
       refine dj_val rfl rfl (sub_of [8] rfl) (fun _ _ h=>r_conv ru2 ru71 rfl h) ?_
       refine dj_eqv (u:=.int .u64 ((uN x.period:Nat):Int)) (congrArg (Value.int .u64) (uN_eq _)) ?_
       refine dM [8] (k:=dM [8] (k:=dM [8] (k:=dM [8] (k:=dF [8] 1 ru31 so9 (k:=dH [8] 0 ag9 (k:=dE (h:=fun Kd=>?_)))))))
       refine j_textF (s:=x.drop) hF hTf ⟨n9 hOf,n9 hOe,n9 hOd,n9 hOc,n9 hOb,n9 hOa,nL,trivial⟩ (by omega) (by omega) rfl rfl rfl fun a61 T61 i61 p61 c61 y61 ha61 hi61 hT61 hO61=>?_
       obtain ⟨hx61,hs61⟩:=tx_of hT61
       have hl61:=len_sumT T61
       have hil61:=(List.getElem?_eq_some_iff.1 hi61).1
       refine Kd (sb [8]) (dE (h:=fun Kd=>?_))
       refine j_callF hF hO61 ⟨n9 hOf,n9 hOe,n9 hOd,n9 hOc,n9 hOb,n9 hOa,nL,trivial⟩ call35 rfl rfl (fun w1 _ _ hE1=>tagged_c _ w1 b31 wl (.slice pw wl.length cw) _ 7 i61 T61 hE1 (by omega) (by omega) (by omega) hwl) fun a62 T62 D62 p62 c62 y62 p62' c62' y62' ha62 hφ62 hO62' hO62=>?_
       obtain ⟨rfl,m62,rfl,hm62⟩:=hφ62
       have hl62:=hm62.len
       refine Kd (sb [9]) (dE (h:=fun Kd=>?_))
       refine j_textF (s:=x.keep) hF hO62' ⟨n9 hO62,n9 hOf,n9 hOe,n9 hOd,n9 hOc,n9 hOb,n9 hOa,nL,trivial⟩ (by omega) (by omega) rfl rfl rfl fun a63 T63 i63 p63 c63 y63 ha63 hi63 hT63 hO63=>?_
       obtain ⟨hx63,hs63⟩:=tx_of hT63
       have hl63:=len_sumT T63
       have hil63:=(List.getElem?_eq_some_iff.1 hi63).1
       refine Kd (sb [9]) (dE (h:=fun Kd=>?_))
       refine j_callF hF hO63 ⟨n9 hO62,n9 hOf,n9 hOe,n9 hOd,n9 hOc,n9 hOb,n9 hOa,nL,trivial⟩ call35 rfl rfl (fun w1 _ _ hE1=>tagged_c _ w1 b31 wl (.slice pw wl.length cw) _ 8 i63 T63 hE1 (by omega) (by omega) (by omega) hwl) fun a64 T64 D64 p64 c64 y64 p64' c64' y64' ha64 hφ64 hO64' hO64=>?_
       obtain ⟨rfl,m64,rfl,hm64⟩:=hφ64
       have hl64:=hm64.len
       refine Kd (sb [10]) (dE (h:=fun Kd=>?_))
       refine j_callF hF hO64' ⟨n9 hO64,n9 hO62,n9 hOf,n9 hOe,n9 hOd,n9 hOc,n9 hOb,n9 hOa,nL,trivial⟩ call35 rfl rfl (fun w1 _ _ hE1=>tagged_c _ w1 b31 wl (.slice pw wl.length cw) _ 9 (uN x.time) T64 hE1 (by omega) (by omega) (uN_lt _) hwl) fun a65 T65 D65 p65 c65 y65 p65' c65' y65' ha65 hφ65 hO65' hO65=>?_
       obtain ⟨rfl,m65,rfl,hm65⟩:=hφ65
       have hl65:=hm65.len
       refine Kd (sb [11]) (dE (h:=fun Kd=>?_))
       refine j_callF hF hO65' ⟨n9 hO65,n9 hO64,n9 hO62,n9 hOf,n9 hOe,n9 hOd,n9 hOc,n9 hOb,n9 hOa,nL,trivial⟩ call35 rfl rfl (fun w1 _ _ hE1=>tagged_c _ w1 b31 wl (.slice pw wl.length cw) _ 10 (uN x.dur) T65 hE1 (by omega) (by omega) (uN_lt _) hwl) fun a66 T66 D66 p66 c66 y66 p66' c66' y66' ha66 hφ66 hO66' hO66=>?_
       obtain ⟨rfl,m66,rfl,hm66⟩:=hφ66
       have hl66:=hm66.len
       refine Kd (sb [12]) (dE (h:=fun Kd=>?_))
       refine j_callF hF hO66' ⟨n9 hO66,n9 hO65,n9 hO64,n9 hO62,n9 hOf,n9 hOe,n9 hOd,n9 hOc,n9 hOb,n9 hOa,nL,trivial⟩ call30 rfl rfl (fun w1 _ _ hE1=>typed_e _ w1 b31 wl (.slice pw wl.length cw) _ _ x.per hE1 (by omega) hwl (by omega)) fun a67 T67 D67 p67 c67 y67 p67' c67' y67' ha67 hφ67 hO67' hO67=>?_
       obtain ⟨hx67,hs67,hl67,mP,rfl,hmP⟩:=hφ67
       have hTl67:=len_sumT T67
       refine Kd (sb [13]) (dE (h:=fun Kd=>?_))
       refine j_callF hF hO67' ⟨n9 hO67,n9 hO66,n9 hO65,n9 hO64,n9 hO62,n9 hOf,n9 hOe,n9 hOd,n9 hOc,n9 hOb,n9 hOa,nL,trivial⟩ call29 rfl rfl (fun w1 hH _ hE1=>bytes_e _ w1 b31 wl (.slice pw wl.length cw) _ 11 _ _ (mB mP) hE1 (by omega) (by omega) (rd_of hO67 hH (i:=2) rfl) (by omega) hwl) fun a68 T68 D68 p68 c68 y68 p68' c68' y68' ha68 hφ68 hO68' hO68=>?_
       obtain ⟨rfl,hG11⟩:=hφ68
       have hGl:=gbys_len hG11
       obtain ⟨M11,hD11,hk11,he11,hw11,hf11⟩:=sub_one hG11
       rw[hD11]at hO68
       have hl11:D68.length=(mB M11).length:=by rw[hD11]
       rw[hl11]
       refine Kd (sb [14]) (dE (h:=fun Kd=>?_))
       refine j_callF hF hO68' ⟨n9 hO68,n9 hO67,n9 hO66,n9 hO65,n9 hO64,n9 hO62,n9 hOf,n9 hOe,n9 hOd,n9 hOc,n9 hOb,n9 hOa,nL,trivial⟩ call35 rfl rfl (fun w1 _ _ hE1=>tagged_c _ w1 b31 wl (.slice pw wl.length cw) _ 12 (uN x.period) T68 hE1 (by omega) (by omega) (uN_lt _) hwl) fun a69 T69 D69 p69 c69 y69 p69' c69' y69' ha69 hφ69 hO69' hO69=>?_
       obtain ⟨rfl,m69,rfl,hm69⟩:=hφ69
       have hl69:=hm69.len
       refine Kd (sb [15]) (dE (h:=fun Kd=>?_))
       refine j_callF hF hO69' ⟨n9 hO69,n9 hO68,n9 hO67,n9 hO66,n9 hO65,n9 hO64,n9 hO62,n9 hOf,n9 hOe,n9 hOd,n9 hOc,n9 hOb,n9 hOa,nL,trivial⟩ call37 rfl rfl (fun w1 hH _ hE1=>list_c _ w1 b31 wl (.slice pw wl.length cw) _ 13 _ _ ns hE1 (by omega) (by omega) (hOf.os hH (i:=9) rfl) (by omega) hn64 hwl) fun a70 T70 D70 p70 c70 y70 p70' c70' y70' ha70 hφ70 hO70' hO70=>?_
       obtain ⟨rfl,hl70,m70,rfl,hm70⟩:=hφ70
       refine Kd (sb [16]) (dE (h:=fun Kd=>?_))
       refine j_textF (s:=x.deflt) hF hO70' ⟨n9 hO70,n9 hO69,n9 hO68,n9 hO67,n9 hO66,n9 hO65,n9 hO64,n9 hO62,n9 hOf,n9 hOe,n9 hOd,n9 hOc,n9 hOb,n9 hOa,nL,trivial⟩ (by omega) (by omega) rfl rfl rfl fun a71 T71 i71 p71 c71 y71 ha71 hi71 hT71 hO71=>?_
       obtain ⟨hx71,hs71⟩:=tx_of hT71
       have hl71:=len_sumT T71
       have hil71:=(List.getElem?_eq_some_iff.1 hi71).1
       refine Kd (sb [16]) (dE (h:=fun Kd=>?_))
       refine j_callF hF hO71 ⟨n9 hO70,n9 hO69,n9 hO68,n9 hO67,n9 hO66,n9 hO65,n9 hO64,n9 hO62,n9 hOf,n9 hOe,n9 hOd,n9 hOc,n9 hOb,n9 hOa,nL,trivial⟩ call35 rfl rfl (fun w1 _ _ hE1=>tagged_c _ w1 b31 wl (.slice pw wl.length cw) _ 14 i71 T71 hE1 (by omega) (by omega) (by omega) hwl) fun a72 T72 D72 p72 c72 y72 p72' c72' y72' ha72 hφ72 hO72' hO72=>?_
       obtain ⟨rfl,m72,rfl,hm72⟩:=hφ72
       have hl72:=hm72.len
       refine Kd (sb [17]) (dE (h:=fun Kd=>?_))
       refine j_bsliceN (vals:=[(0,.slice p62 (mB m62).length c62),(1,.slice p64 (mB m64).length c64),(2,.slice p65 (mB m65).length c65),(3,.slice p66 (mB m66).length c66),(4,.slice p68 (mB M11).length c68),(5,.slice p69 (mB m69).length c69),(6,.slice p70 (mB m70).length c70),(7,.slice p72 (mB m72).length c72)]) (cells:= #[.slice p62 (mB m62).length c62,.slice p64 (mB m64).length c64,.slice p65 (mB m65).length c65,.slice p66 (mB m66).length c66,.slice p68 (mB M11).length c68,.slice p69 (mB m69).length c69,.slice p70 (mB m70).length c70,.slice p72 (mB m72).length c72]) ru154 so36 zv36 rfl rfl rfl (by kernel_rfl) rfl fun bt=>?_
       refine j_rot ?_
       obtain ⟨qs,hqs⟩:∃qs:List VM,qs=[(.slice p62 (mB m62).length c62,m62),(.slice p64 (mB m64).length c64,m64),(.slice p65 (mB m65).length c65,m65),(.slice p66 (mB m66).length c66,m66),(.slice p68 (mB M11).length c68,M11),(.slice p69 (mB m69).length c69,m69),(.slice p70 (mB m70).length c70,m70),(.slice p72 (mB m72).length c72,m72)]:=⟨_,rfl⟩
       have hKA:KA [[7],[8],[9],[10],[11],[12],[13],[14]] qs:=by subst hqs;exact ⟨hm62.ks,hm64.ks,hm65.ks,hm66.ks,hk11,hm69.ks,hm70.ks,hm72.ks,trivial⟩
       have hKP:([[7],[8],[9],[10],[11],[12],[13],[14]]:List (List Nat)).Pairwise (fun a b=>∀x∈a,x∉b):=by decide
       refine Kd (sb [18]) (dE (h:=fun Kd=>?_))
       refine j_callF hF hO72' ⟨nL,n9 hO72,n9 hO70,n9 hO69,n9 hO68,n9 hO67,n9 hO66,n9 hO65,n9 hO64,n9 hO62,n9 hOf,n9 hOe,n9 hOd,n9 hOc,n9 hOb,n9 hOa,nL,trivial⟩ call34 rfl rfl (fun w1 hH _ hE1=>mixed_c _ w1 b31 wl (.slice pw wl.length cw) _ T72 _ qs hE1 (by omega) hwl (by rw[hqs];exact (Own.all (T:=tB8) (b:=bt) (cs:=[.slice p62 (mB m62).length c62,.slice p64 (mB m64).length c64,.slice p65 (mB m65).length c65,.slice p66 (mB m66).length c66,.slice p68 (mB M11).length c68,.slice p69 (mB m69).length c69,.slice p70 (mB m70).length c70,.slice p72 (mB m72).length c72])).os hH (i:=2) rfl) (fun q hq=>by
         rw[hqs]at hq
         simp only[List.mem_cons,List.mem_nil_iff,or_false]at hq
         rcases hq with rfl|rfl|rfl|rfl|rfl|rfl|rfl|rfl
         ·exact ⟨rd_of hO62 hH (i:=11) rfl,rfl,hm62.enc⟩
         ·exact ⟨rd_of hO64 hH (i:=10) rfl,rfl,hm64.enc⟩
         ·exact ⟨rd_of hO65 hH (i:=9) rfl,rfl,hm65.enc⟩
         ·exact ⟨rd_of hO66 hH (i:=8) rfl,rfl,hm66.enc⟩
         ·exact ⟨rd_of hO68 hH (i:=6) rfl,rfl,he11⟩
         ·exact ⟨rd_of hO69 hH (i:=5) rfl,rfl,hm69.enc⟩
         ·exact ⟨rd_of hO70 hH (i:=4) rfl,rfl,hm70.enc⟩
         ·exact ⟨rd_of hO72 hH (i:=3) rfl,rfl,hm72.enc⟩) (by rw[hqs];simp) (by rw[hqs];simp[tl];omega) (pw_of hKA hKP)) fun a73 T73 D73 p73 c73 y73 p73' c73' y73' ha73 hφ73 hO73' hO73=>?_
       obtain ⟨rfl,hlm,mX,rfl,hMX⟩:=hφ73
       rw[hqs]at ha73
       simp only[List.length_cons,List.length_nil]at ha73
       have hlX:(mB mX).length≤5000:=by rw[hqs]at hlm;simp[tl]at hlm;omega
       refine Kd (sb [19]) (dA [19] (k:=K41 (CJ.t [(5,_),(6,_),(7,_),(8,_),(9,_),(10,_),(11,_),(25,_)] (k:=sQ fun K42=>sQ fun K43=>cj_reg ?_))))
       have hRest:∀T'',T73<+:T''→RestM x T'' mX:=fun T'' hx=>⟨by
          rw[hMX.one (by omega) (ka_one hKA hKP (i:=0) (by rw[hqs];rfl) rfl (by omega) (by decide)) hm62];exact tx_get (hx63.trans (hx67.trans (hx71.trans hx))) hi61,by
          rw[hMX.one (by omega) (ka_one hKA hKP (i:=1) (by rw[hqs];rfl) rfl (by omega) (by decide)) hm64];exact tx_get (hx67.trans (hx71.trans hx)) hi63,by
          rw[hMX.one (by omega) (ka_one hKA hKP (i:=2) (by rw[hqs];rfl) rfl (by omega) (by decide)) hm65];exact wrap_uN hx7,by
          rw[hMX.one (by omega) (ka_one hKA hKP (i:=3) (by rw[hqs];rfl) rfl (by omega) (by decide)) hm66];exact wrap_uN hx8,by
          rw[hMX.one (by omega) (ka_one hKA hKP (i:=5) (by rw[hqs];rfl) rfl (by omega) (by decide)) hm69];exact wrap_uN hx9,by
          rw[hMX.one (by omega) (ka_one hKA hKP (i:=7) (by rw[hqs];rfl) rfl (by omega) (by decide)) hm72];exact tx_get hx hi71,⟨[mP],Nat.le_refl _,fun h=>(by cases h),subM_sub (L:=[(mP,D68)]) (by rw[hMX.fl 11 (by omega), ← hf11];exact ka_one (k:=11) hKA hKP (i:=4) (by rw[hqs];rfl) rfl (by omega) (by decide)) fun i q hq=>by
           cases i with
           |zero=>simp at hq;subst hq;exact hmP T'' (hx71.trans hx)
           |succ i=>simp at hq⟩,by
          obtain ⟨nss,h1,h2⟩:=hm70.in_ (m:=mX) (by rw[hMX.fl 13 (by omega)];exact ka_one (k:=13) hKA hKP (i:=6) (by rw[hqs];rfl) rfl (by omega) (by decide))
          exact ⟨nss,h1,by rw[h2];exact ⟨hnl,fun i v n h3 h4=>tx_get (hx61.trans (hx63.trans (hx67.trans (hx71.trans hx)))) (hnT i n v h4 h3)⟩⟩⟩
       have hRks:=hMX.ks hKA
       have hRw:∀g∈mX,WireOK tbPf g.1:=hMX.wire (fun q hq=>by
         rw[hqs]at hq
         simp only[List.map_cons,List.map_nil,List.mem_cons,List.mem_nil_iff,or_false]at hq
         rcases hq with rfl|rfl|rfl|rfl|rfl|rfl|rfl|rfl
         ·exact hm62.wire (by decide)
         ·exact hm64.wire (by decide)
         ·exact hm65.wire (by decide)
         ·exact hm66.wire (by decide)
         ·exact hw11 _ (by decide)
         ·exact hm69.wire (by decide)
         ·exact hm70.wire (by decide)
         ·exact hm72.wire (by decide)) tbPf_hi
       have hRe:=hMX.enc
       clear hMX hKA hKP hlm hqs
       refine jM (k:=jN (k:=jF 2 ru67 so27 (k:=jH 0 ag27 (k:=jE ru27 (k:=jM (k:=K43 (cj_block ?_)))))))
       intro w9 hH9 hf9
       have hE9:Ecd w.heap.size b31 wl (.slice pw wl.length cw) a73 T73 w9:=ecd_of hF hO73' hH9 hf9
       have hB9:w.heap.size≤w9.heap.size:=hf9.size
       have hTl:=len_sumT T73
       have hos:OS tStr 1 w9 (.slice p73' T73.length c73') (T73.map .string):=hO73'.os hH9 (i:=1) rfl
       have hT0:T73[0]? =some eB:=tx_get (hTef.trans (hx61.trans (hx63.trans (hx67.trans hx71)))) (tx_get hIe.pre (tx_get hId.pre (tx_get hIc.pre (tx_get hIb.pre hzb))))
       obtain ⟨bt,hbt,hct⟩:=tx_cell hos (List.getElem?_eq_some_iff.1 hT0).1
       subst hbt
       obtain ⟨ct,hct0⟩:∃ct,ct=c73':=⟨_,rfl⟩
       rw[← hct0]
       have hHr:Hp ⟨w9,w9.heap.size,[tU8]⟩ w9 [Go.Fw.ro y73,Go.Fw.ro yle,Go.Fw.ro yld,Go.Fw.ro ylc,Go.Fw.ro ylb,Go.Fw.ro yla]:=Hp.roAll (f:=⟨w,w.heap.size,wN⟩) (((((((((((((hH9.2.2.2.2.2.2).drop 1).drop 1).drop 1).drop 1).drop 1).drop 1).drop 1).drop 1).drop 1).drop 1).drop 1).drop 6)
       refine c_loop (σ:=Nat×(Ent×Option Addr×Nat)×List (Msg×List Nat)×Nat) (fun s=>[(5,ptr b31),(6,.slice pla (mB (subM 1 La)).length cla),(7,.slice plb (mB (subM 2 Lb)).length clb),(8,.slice plc (mB (subM 3 Lc)).length clc),(9,.slice pld (mB (subM 4 Ld)).length cld),(10,.slice ple (mB (subM 5 Le)).length cle),(11,.slice s.2.1.2.1 (mB (subM 6 s.2.2.1)).length s.2.1.2.2),(25,.slice p73 (mB mX).length c73),(198,.slice (some ⟨bt,0,none⟩) T73.length ct),(199,.int .i64 (T73.length:Nat)),(200,.int .i64 (s.1:Nat))])
        (fun s u=>s.1≤T73.length∧s.2.2.1.map (·.1)=(T73.take s.1).map rawM∧(∀q∈s.2.2.1,GEnc (.fld (.bys 6 (mB q.1))) q.2)∧(mB (subM 6 s.2.2.1)).length≤20*sumS (T73.take s.1)∧s.2.2.2≤a73+4*s.1∧Own tU8 1 s.2.1.1 s.2.1.2.1 (mB (subM 6 s.2.2.1)).length s.2.1.2.2 ((mB (subM 6 s.2.2.1)).map bv)∧Ecd w.heap.size b31 wl (.slice pw wl.length cw) s.2.2.2 T73 u∧Fr w.heap.size [tEnc] w9 u∧Hp ⟨u,w9.heap.size,[tU8]⟩ u (s.2.1.1::[Go.Fw.ro y73,Go.Fw.ro yle,Go.Fw.ro yld,Go.Fw.ro ylc,Go.Fw.ro ylb,Go.Fw.ro yla])) (fun s=>T73.length - s.1)
        (0,(nilE tU8,none,0),[],a73) sR ⟨Nat.zero_le _,rfl,fun q h=>(by cases h),Nat.zero_le _,Nat.le_refl _,Own.nil,hE9,Fr.refl _ _ _,Hp.off hHr⟩ ?_
       rintro ⟨k,⟨yt,pt,clt⟩,L,a⟩ u ⟨hk,hLm,hL,hdl,hal,hO,hEu,hFu,hHu⟩ KL hKL
       try dsimp only at hk hLm hL hdl hal hO hEu hFu hHu
       have h8:R8 (yt::[Go.Fw.ro y73,Go.Fw.ro yle,Go.Fw.ro yld,Go.Fw.ro ylc,Go.Fw.ro ylb,Go.Fw.ro yla]):=⟨⟨hO.hT,hO.ho⟩,⟨hO73.hT,hO73.ho⟩,⟨hOe.hT,hOe.ho⟩,⟨hOd.hT,hOd.ho⟩,⟨hOc.hT,hOc.ho⟩,⟨hOb.hT,hOb.ho⟩,⟨hOa.hT,hOa.ho⟩,trivial⟩
       refine C.begin ⟨u,w9.heap.size,[tU8]⟩ (yt::[Go.Fw.ro y73,Go.Fw.ro yle,Go.Fw.ro yld,Go.Fw.ro ylc,Go.Fw.ro ylb,Go.Fw.ro yla]) ok_refl hHu ?_
       try dsimp only
       have hkk:sumS (T73.take k)≤sumS T73:=sum_pre (us:=fun s:ByteArray=>s.size+1) (List.take_prefix k T73)
       refine sQ fun K44=>cj_reg (jS (k:=K44 (sQ fun K45=>?_)))
       refine cj_dec rfl (fun hlt=>?_) (fun hlt=>?_)
       ·have hlt':k<T73.length:=by omega
        have hget:T73[k]? =some T73[k]:=List.getElem?_eq_getElem hlt'
        have hck1:sumS (T73.take (k+1))≤sumS T73:=sum_pre (us:=fun s:ByteArray=>s.size+1) (List.take_prefix (k+1) T73)
        have hcq:sumS (T73.take (k+1))=sumS (T73.take k)+(T73[k].size+1):=by rw[take_succ_get hget];unfold sumS;rw[List.map_append,List.sum_append];rfl
        refine cj_skip (K45 (sQ fun K46=>cj_block (sQ fun K47=>cj_reg (jJ ru27 so9 (k:=?_)))))
        refine j_valw rfl (fun a w ha hH hf=>r_load ag9 rfl (by rw[Nat.mul_one,Nat.zero_add];exact hct w (fun cs b' hb=>fr_row hf rfl _ _ (fr_row hFu rfl _ _ hb)) k _ hget) ha) ?_
        refine jA (k:=K47 (cj_reg (jM (k:=jM (k:=jM (k:=?_))))))
        refine j_convS ud9 ud36 ud5 rfl rfl fun w7 w8 b8 c8 hH7 hf7 hk8 hR8=>?_
        have hE8:Ecd w.heap.size b31 wl (.slice pw wl.length cw) a T73 w8:=(hEu.later hf7).quiet hk8
        have hsz:(sB T73[k]).length=T73[k].size:=sB_len _
        refine J.begin ⟨w8,0,[]⟩ [] ok_refl .nil ?_
        refine j_callE (R:=RTW [tEnc] w.heap.size b31 wl (.slice pw wl.length cw) a 4 (fun T' D=>T'=T73∧GEnc (.fld (.bys 6 (sB T73[k]))) D)) call29 rfl rfl (fun w1 _ hf=>bytes_e (V:=[tEnc]) _ w1 b31 wl (.slice pw wl.length cw) _ 6 T73 _ (sB T73[k]) (hE8.quiet hf) (by omega) (by omega) (hR8.keepF (B:=0) (w1:=w1) (Fr.quiet hf _ _)) (by omega) hwl) fun w10 v w11 _ hf10 hR=>?_
        obtain ⟨a3,T3,D3,ha3,⟨hT3,hG⟩,⟨p3,c3,rfl,y3,hO3,hy3⟩,hE11,hk11⟩:=hR
        rw[hT3]at hE11
        have hGl:=gbys_len hG
        have hs10:w9.heap.size≤w10.heap.size:=Nat.le_trans hFu.size (Nat.le_trans hf7.size (Nat.le_trans hk8.size hf10.size))
        have hH10:=(hH7.fr hk8).fr hf10
        have hH11:=hp_newB hH10 h8 hk11 hO3 hy3 hFu.size hs10
        have hF11:Fr w.heap.size [tEnc] w9 w11:=((hFu.trans hf7 (.inl (Nat.le_refl _))).trans ((hk8.trans hf10 (.inr ⟨Nat.le_refl _,fun _ h=>h⟩)).quiet w.heap.size [tEnc]) (.inr ⟨Nat.le_refl _,fun _ h=>h⟩)).trans hk11 (.inr ⟨Nat.le_refl _,fun _ h=>h⟩)
        refine J.begin ⟨w11,w9.heap.size,[tU8]⟩ _ ok_refl hH11 ?_
        refine j_app8 1 0 rfl rfl hO hO3.sl ru36 rfl rfl scal_bytes (by omega) rfl fun y4 p4 c4 hO4=>?_
        refine jA (k:=K46 (CJ.t [(5,_),(6,_),(7,_),(8,_),(9,_),(10,_),(11,_),(25,_),(198,_),(199,_),(200,_)] (k:=cj_reg (jI (k:=jM (k:=j_nil (ej_then ?_)))))))
        skip
        have hmb:mB (subM 6 (L++[(rawM T73[k],D3)]))=mB (subM 6 L)++D3:=by rw[subM_app,mB_app,mB_one]
        exact fun w' hH hf=>hKL (k+1,(y4,p4,c4),L++[(rawM T73[k],D3)],a3) _ w' ⟨hlt',by rw[List.map_append,hLm,take_succ_get hget,List.map_append];rfl,fun q hq=>by
          rcases List.mem_append.1 hq with hq|hq
          ·exact hL q hq
          ·simp at hq;subst hq;rw[rawM_b];exact hG,by show (mB (subM 6 (L++[(rawM T73[k],D3)]))).length≤20*sumS (T73.take (k+1));rw[hmb,List.length_append];omega,by show a3≤a73+4*(k+1);omega,by
          show Own tU8 1 y4 p4 (mB (subM 6 (L++[(rawM T73[k],D3)]))).length c4 ((mB (subM 6 (L++[(rawM T73[k],D3)]))).map bv)
          rw[hmb,List.length_append,List.map_append];exact hO4,hE11.later hf,hF11.trans hf (.inl (Nat.le_refl _)),hp_enc (hH.drop 0) ⟨⟨hO4.hT,hO4.ho⟩,h8.2⟩ (Fr.refl w.heap.size wN w') hF11.size⟩ (by show T73.length - (k+1)<T73.length - k;omega) (by
          dsimp only
          rw[hmb,List.length_append]
          exact ⟨rfl,rfl,rfl,rfl,rfl,rfl,rfl,rfl,rfl,rfl,rfl,trivial⟩)
       ·clear hKL
        refine cj_exit (K42 (sQ fun K48=>cj_reg (jM (k:=jM (k:=jM (k:=jM (k:=jM (k:=jM (k:=jM (k:=jM (k:=?_)))))))))))
        refine j_bsliceN (vals:=[(0,.slice pla (mB (subM 1 La)).length cla),(1,.slice plb (mB (subM 2 Lb)).length clb),(2,.slice plc (mB (subM 3 Lc)).length clc),(3,.slice pld (mB (subM 4 Ld)).length cld),(4,.slice ple (mB (subM 5 Le)).length cle),(5,.slice p73 (mB mX).length c73),(6,.slice pt (mB (subM 6 L)).length clt)]) (cells:= #[.slice pla (mB (subM 1 La)).length cla,.slice plb (mB (subM 2 Lb)).length clb,.slice plc (mB (subM 3 Lc)).length clc,.slice pld (mB (subM 4 Ld)).length cld,.slice ple (mB (subM 5 Le)).length cle,.slice p73 (mB mX).length c73,.slice pt (mB (subM 6 L)).length clt]) ru154 so36 zv36 rfl rfl rfl (by kernel_rfl) rfl fun bq=>?_
        obtain ⟨qs,hqs⟩:∃qs:List VM,qs=[(.slice pla (mB (subM 1 La)).length cla,(subM 1 La)),(.slice plb (mB (subM 2 Lb)).length clb,(subM 2 Lb)),(.slice plc (mB (subM 3 Lc)).length clc,(subM 3 Lc)),(.slice pld (mB (subM 4 Ld)).length cld,(subM 4 Ld)),(.slice ple (mB (subM 5 Le)).length cle,(subM 5 Le)),(.slice p73 (mB mX).length c73,mX),(.slice pt (mB (subM 6 L)).length clt,(subM 6 L))]:=⟨_,rfl⟩
        have hKA:KA [[1],[2],[3],[4],[5],[7,8,9,10,11,12,13,14],[6]] qs:=by subst hqs;exact ⟨subM_ks 1 La,subM_ks 2 Lb,subM_ks 3 Lc,subM_ks 4 Ld,subM_ks 5 Le,hRks,subM_ks 6 L,trivial⟩
        have hKP:([[1],[2],[3],[4],[5],[7,8,9,10,11,12,13,14],[6]]:List (List Nat)).Pairwise (fun a b=>∀x∈a,x∉b):=by decide
        have hdlt:(mB (subM 6 L)).length≤20*sumS T73:=by omega
        have htl:tl qs≤1900000000:=by rw[hqs];simp only[tl,List.map_cons,List.map_nil,List.sum_cons,List.sum_nil];omega
        have hql:qs.length=7:=by rw[hqs];rfl
        refine j_callE (R:=RT w.heap.size b31 wl (.slice pw wl.length cw) a (9*qs.length) (fun T' D=>T'=T73∧D.length≤60*qs.length+tl qs∧∃m,D=mB m∧Mx (qs.map (·.2)) m)) call34 rfl rfl (fun w1 hH hf=>mixed_c _ w1 b31 wl (.slice pw wl.length cw) a T73 _ qs (hEu.later hf) (by omega) hwl (by rw[hqs];exact (Own.all (T:=tB8) (b:=bq) (cs:=[.slice pla (mB (subM 1 La)).length cla,.slice plb (mB (subM 2 Lb)).length clb,.slice plc (mB (subM 3 Lc)).length clc,.slice pld (mB (subM 4 Ld)).length cld,.slice ple (mB (subM 5 Le)).length cle,.slice p73 (mB mX).length c73,.slice pt (mB (subM 6 L)).length clt])).os hH (i:=0) rfl) (fun q hq=>by
          rw[hqs]at hq
          simp only[List.mem_cons,List.mem_nil_iff,or_false]at hq
          rcases hq with rfl|rfl|rfl|rfl|rfl|rfl|rfl
          ·exact ⟨rd_ro hOa hH (i:=7) rfl,rfl,(subM_enc hIa.enc)⟩
          ·exact ⟨rd_ro hOb hH (i:=6) rfl,rfl,(subM_enc hIb.enc)⟩
          ·exact ⟨rd_ro hOc hH (i:=5) rfl,rfl,(subM_enc hIc.enc)⟩
          ·exact ⟨rd_ro hOd hH (i:=4) rfl,rfl,(subM_enc hId.enc)⟩
          ·exact ⟨rd_ro hOe hH (i:=3) rfl,rfl,(subM_enc hIe.enc)⟩
          ·exact ⟨rd_ro hO73 hH (i:=2) rfl,rfl,hRe⟩
          ·exact ⟨rd_of hO hH (i:=1) rfl,rfl,(subM_enc hL)⟩) (by omega) (by omega) (pw_of hKA hKP)) fun w10 v w11 hH10 hf10 hR=>?_
        obtain ⟨a3,T3,D3,ha3,⟨hT3,hlm,mF,rfl,hMF⟩,⟨p3,c3,rfl,y3,hO3,hy3⟩,hE11,hk11⟩:=hR
        have hlF:(mB mF).length≤2000000000:=by omega
        have hPF:Te<+:T73:=hTef.trans (hx61.trans (hx63.trans (hx67.trans hx71)))
        have hFL:∀(i k:Nat) q (a:List Nat),qs[i]? =some q→([[1],[2],[3],[4],[5],[7,8,9,10,11,12,13,14],[6]]:List (List Nat))[i]? =some a→k<20→k∈a→fl k mF=fl k q.2:=fun i k q a h1 h2 h3 h4=>by rw[hMF.fl k h3];exact ka_one hKA hKP h1 h2 h3 h4
        have hU:UInE x T73 mF:=by
         refine ⟨hMF.ok (fun q hq=>?_) tbPf_hi hlF,?_,hT0,by omega,(hRest _ (List.prefix_refl _)).to fun k h1 h2=>hFL 5 k _ _ (by rw[hqs];rfl) rfl (by omega) (by simp;omega),⟨La.map (·.1),by rw[List.length_map,hIa.len],subM_sub (hFL 0 1 _ _ (by rw[hqs];rfl) rfl (by omega) (by decide)) fun i q hq t ht=>hIa.each i q t hq ht _ (hIb.pre.trans (hIc.pre.trans (hId.pre.trans (hIe.pre.trans hPF))))⟩,
          ⟨Lb.map (·.1),by rw[List.length_map,hIb.len],subM_sub (hFL 1 2 _ _ (by rw[hqs];rfl) rfl (by omega) (by decide)) fun i q hq t ht=>hIb.each i q t hq ht _ (hIc.pre.trans (hId.pre.trans (hIe.pre.trans hPF)))⟩,
          ⟨Lc.map (·.1),by rw[List.length_map,hIc.len],subM_sub (hFL 2 3 _ _ (by rw[hqs];rfl) rfl (by omega) (by decide)) fun i q hq t ht=>hIc.each i q t hq ht _ (hId.pre.trans (hIe.pre.trans hPF))⟩,
          ⟨Ld.map (·.1),by rw[List.length_map,hId.len],subM_sub (hFL 3 4 _ _ (by rw[hqs];rfl) rfl (by omega) (by decide)) fun i q hq t ht=>hId.each i q t hq ht _ (hIe.pre.trans hPF)⟩,
          ⟨Le.map (·.1),by rw[List.length_map,hIe.len],subM_sub (hFL 4 5 _ _ (by rw[hqs];rfl) rfl (by omega) (by decide)) fun i q hq t ht=>hIe.each i q t hq ht _ hPF⟩⟩
         ·rw[hqs]at hq
          simp only[List.map_cons,List.map_nil,List.mem_cons,List.mem_nil_iff,or_false]at hq
          rcases hq with rfl|rfl|rfl|rfl|rfl|rfl|rfl
          ·exact subM_wire (by decide)
          ·exact subM_wire (by decide)
          ·exact subM_wire (by decide)
          ·exact subM_wire (by decide)
          ·exact subM_wire (by decide)
          ·exact hRw
          ·exact subM_wire (by decide)
         ·show (fl 6 mF).map fbytes=_
          rw[hFL 6 6 _ _ (by rw[hqs];rfl) rfl (by omega) (by decide),subM_fl,List.map_map]
          refine (show _=(L.map (·.1)).map mB by rw[List.map_map];rfl).trans ?_
          rw[hLm,List.take_of_length_le (by omega),List.map_map]
          exact List.map_congr_left fun s _=>rawM_b s
        have hF11:Fr w.heap.size wN w w11:=((hf9.trans hFu (.inr ⟨Nat.le_refl _,fun t ht=>by simp at ht;subst ht;exact List.Mem.head _⟩)).trans hf10 (.inl hf9.size)).trans hk11 (.inr ⟨Nat.le_refl _,fun _ h=>h⟩)
        refine J.begin ⟨w11,0,[]⟩ [] ok_refl .nil ?_
        refine jA (k:=K48 (CJ.t [(4,_)] (k:=cj_ret ?_)))
        exact ej_ret1 results10 rfl fun w' hH hf=>⟨⟨_,mF,hU,hlF,y3,p3,_,c3,rfl,hO3,fun ho=>fr_row hf rfl _ _ (hy3 ho).1⟩,by
         have h:=hF11.trans (Fr.quiet hf w.heap.size wN) (.inr ⟨Nat.le_refl _,fun _ h=>h⟩)
         exact ⟨h.os,h.tape,h.output,h.size,fun b o hb _=>h.keepAll (.inl (Nat.le_refl _)) b o hb⟩⟩
theorem lbs_all (hT:(s.texts.map (·.key)).Nodup) (hN:(s.nums.map (·.key)).Nodup):LbsS (allE s) s:=by
 obtain ⟨h1,h2,h3,h4⟩:=LabP.lbs hT hN
 have e1:∀k,keyT (allE s) k=keyT (labE s) k:=fun k=>by
  unfold allE labE
  rw[keyT_app,keyT_app,show keyT (s.nums.flatMap nuE) k=[] from by rw[keyT_flat];exact List.flatMap_eq_nil_iff.2 fun c _=>keyT_2 c _,show keyT (s.nums.flatMap labE2) k=[] from by rw[keyT_flat];exact List.flatMap_eq_nil_iff.2 fun c _=>keyT_2 c _,List.append_nil,List.nil_append];rfl
 have e2:∀k,keyN (allE s) k=keyN (labE s) k:=fun k=>by
  unfold allE labE
  rw[keyN_app,keyN_app,show keyN (s.texts.flatMap teE) k=[] from by rw[keyN_flat];exact List.flatMap_eq_nil_iff.2 fun c _=>keyN_1 c _,show keyN (s.texts.flatMap labE1) k=[] from by rw[keyN_flat];exact List.flatMap_eq_nil_iff.2 fun c _=>keyN_1 c _,List.append_nil,List.nil_append];rfl
 have e3:∀e,e∈allE s→e∈labE s:=fun e he=>by
  unfold allE at he
  unfold labE
  rcases List.mem_append.1 he with h|h
  ·exact List.mem_append.2 (.inr h)
  ·exact List.mem_append.2 (.inl h)
 exact ⟨fun t ht=>by rw[e1];exact h1 t ht,fun t ht=>by rw[e2];exact h2 t ht,fun e he=>h3 e (e3 e he),fun e he=>h4 e (e3 e he)⟩
theorem SmE.to {x:PProf} {T:List ByteArray} {m:Msg} (h:SmE x T s m) (hT:(s.texts.map (·.key)).Nodup) (hN:(s.nums.map (·.key)).Nodup) (hl:(allE s).length≤1000000):SmM x T s m:=by
 obtain ⟨g,h1,h2⟩:=h.lb
 exact ⟨h.ok,h.st,h.vs,g,allE s,h1,h2,lbs_all hT hN,hl⟩
theorem UInE.to {x:PProf} {T:List ByteArray} {m:Msg} (h:UInE x T m) (hs:∀s∈x.samples,(s.texts.map (·.key)).Nodup∧(s.nums.map (·.key)).Nodup∧(allE s).length≤1000000):UIn x T m:=by
 obtain ⟨g,h1,h2⟩:=h.sm
 exact ⟨h.ok,h.tab,h.z0,h.tl,h.rest.drop,h.rest.keep,h.rest.time,h.rest.dur,h.rest.period,h.rest.dfl,h.ty,⟨g,h1,h2.eq,fun i q hq t ht=>by
  obtain ⟨e1,e2,e3⟩:=hs t (List.mem_of_getElem? ht)
  exact (h2.ok i q hq t ht).to e1 e2 e3⟩,h.mp,h.lc,h.fn,h.rest.pe,h.rest.cm⟩
theorem sum_const {α:Type} (f:α→Nat) (c:Nat):∀(xs:List α),(∀x∈xs,f x≤c)→(xs.map f).sum≤xs.length*c
 |[],_=>Nat.zero_le _
 |a::r,h=>by
    have h1:=sum_const f c r fun x hx=>h x (List.mem_cons_of_mem _ hx)
    have h2:=h a (List.mem_cons_self ..)
    simp only[List.map_cons,List.sum_cons,List.length_cons,Nat.succ_mul]
    omega
theorem sum_times {α:Type} (f g:α→Nat) (c:Nat):∀(xs:List α),(∀x∈xs,f x≤c*g x)→(xs.map f).sum≤c*(xs.map g).sum
 |[],_=>Nat.zero_le _
 |a::r,h=>by
    have h1:=sum_times f g c r fun x hx=>h x (List.mem_cons_of_mem _ hx)
    have h2:=h a (List.mem_cons_self ..)
    simp only[List.map_cons,List.sum_cons,Nat.mul_add]
    omega
theorem len_flat {α β:Type} (f:α→List β) (xs:List α):(xs.flatMap f).length=(xs.map fun x=>(f x).length).sum:=by rw[List.length_flatMap]
theorem allE_len (h:LabP s):(allE s).length≤7200:=by
 have h1:=sum_const (fun t=>(nuE t).length) 60 s.nums fun t ht=>by
  show (nuE t).length≤60
  unfold nuE;rw[List.length_map];exact (h.nl t ht).2
 have h2:=sum_const (fun t=>(teE t).length) 60 s.texts fun t ht=>by
  show (teE t).length≤60
  unfold teE;rw[List.length_map];exact (h.tl t ht).2.1
 have h3:=h.tlen
 have h4:=h.nlen
 unfold allE
 rw[List.length_append,len_flat,len_flat]
 omega
theorem sum_flat {α β:Type} (f:α→List β) (g:β→Nat):∀(xs:List α),((xs.flatMap f).map g).sum=(xs.map fun x=>((f x).map g).sum).sum
 |[]=>rfl
 |a::r=>by rw[List.flatMap_cons,List.map_append,List.sum_append,sum_flat f g r,List.map_cons,List.sum_cons]
theorem usE_nu {t:PNums} (h:t.list.length≤60):((nuE t).map usE).sum≤60*mNu t:=by
 have h1:=sum_const usE (t.key.size+1) (nuE t) fun e he=>by
  unfold nuE at he
  obtain ⟨n, -,rfl⟩:=List.mem_map.1 he
  exact Nat.le_refl _
 rw[show (nuE t).length=t.list.length from List.length_map ..]at h1
 unfold mNu
 exact Nat.le_trans h1 (Nat.mul_le_mul_right _ h)
theorem usE_te:∀(k:ByteArray) (l:List ByteArray),((l.map fun v=>((k,some v,0):LE)).map usE).sum=l.length*(k.size+1)+(l.map fun s=>s.size+1).sum
 |_,[]=>by simp
 |k,a::r=>by
    have h1:=usE_te k r
    simp only[List.map_cons,List.sum_cons,List.length_cons,Nat.succ_mul,h1,usE]
    omega
theorem usE_tx {t:PTexts} (h:t.list.length≤60):((teE t).map usE).sum≤60*mTx t:=by
 unfold teE mTx
 rw[usE_te]
 have:=Nat.mul_le_mul_right (t.key.size+1) h
 omega
theorem usS_le (h:LabP s):usS s≤60*mSm s:=by
 show ((allE s).map usE).sum≤_
 unfold allE mSm
 rw[List.map_append,List.sum_append,sum_flat,sum_flat]
 have h1:=sum_times (fun t=>((nuE t).map usE).sum) mNu 60 s.nums fun t ht=>usE_nu (h.nl t ht).2
 have h2:=sum_times (fun t=>((teE t).map usE).sum) mTx 60 s.texts fun t ht=>usE_tx (h.tl t ht).2.1
 omega
theorem usX_le {x:PProf} (h:WellP x):usX x≤60*mPf x:=by
 have h1:=sum_times usS mSm 60 x.samples fun s hs=>usS_le (h.samples s hs).2.2.2.1
 have e1:(x.types.map usTy).sum=(x.types.map mTy).sum:=rfl
 have e2:(x.mappings.map usMp).sum=(x.mappings.map mMp).sum:=rfl
 have e3:(x.funcs.map usFn).sum=(x.funcs.map mFn).sum:=congrArg List.sum (List.map_congr_left fun f _=>by simp only[usFn,mFn];omega)
 have e4:usTy x.per=mTy x.per:=rfl
 have e5:sumS x.comments=(x.comments.map fun s=>s.size+1).sum:=rfl
 unfold usX mPf
 rw[e1,e2,e3,e4,e5]
 omega
set_option maxHeartbeats 1000000 in
theorem root_read (w:World) (cs:List Value) (x:PProf) (wl:List Int) (wv:Value) (h:RProf w cs x) (hW:Lay (RInt .i64) 1 w wv wl) (hS:mPf x≤1048576):
  Calls Tryz.prog 3 #[.agg cs.toArray,wv] w (Ret fun v w'=>v=.bool true∧Fr 0 [] w w'):=by
 have hP:=h
 have hr:=RProf.rng h
 obtain ⟨la,ls,lm,ll,lf,lcm,rfl,hla,hls,hlm,hll,hlf,hlcm, -⟩:=h
 obtain ⟨pa,ca,rfl, -⟩:=hla.open
 obtain ⟨ps,c_s,rfl, -⟩:=hls.open
 obtain ⟨pm,c_m,rfl, -⟩:=hlm.open
 obtain ⟨pl,cl,rfl, -⟩:=hll.open
 obtain ⟨pf,cf,rfl, -⟩:=hlf.open
 obtain ⟨pc,cc,rfl, -⟩:=hlcm.open
 have hWP:=hW
 obtain ⟨pw,cw,rfl, -⟩:=hW.open
 refine startJ (args:=[_,_]) [(0,.agg (List.toArray [_,_,_,_,_,_,_,_,_,_,_,_,_,_])),(1,.slice _ _ _)] 0 [] [] func3 rfl ntmps3 rfl rfl .nil ?_
 refine sQ fun K1=>cj_reg (j_boxA (vs:=[_,_,_,_,_,_,_,_,_,_,_,_,_,_]) rfl rfl fun b2=>jA (k:=K1 (sQ fun K2=>sQ fun K3=>cj_reg ?_)))
 refine j_valw rfl (fun a w ha hH hf=>r_ldA (vs:=[_,_,_,_,_,_,_,_,_,_,_,_,_,_]) 0 rfl rfl ag31 so31 rfl rfl rfl ha hH) ?_
 refine j_callQ (φ:=fun v=>∃b,v=.bool b∧(b=true→x.mappings.length≤2147483647∧x.locs.length≤2147483647∧x.funcs.length≤2147483647)) call7 rfl rfl (fun w hH hf=>zzFits1_c w _ _ (RProf.keep (hf.keepAll (.inr rfl)) _ _ hP)) ?_
 rintro _ ⟨bf,rfl,hbf⟩
 refine jU (k:=jM (k:=?_))
 refine j_split (t:=10) rfl (fun hg10=>?_) (fun hg10=>?_)
 ·refine j_gf rfl rfl rfl rfl (j_gf rfl rfl rfl rfl (j_gf rfl rfl rfl rfl (jT (k:=K3 ?_))))
  refine cj_if_t rfl (sQ fun K4=>cj_reg (jA (k:=K4 (CJ.t [(4,_)] (k:=cj_ret ?_)))))
  first
  |exact ej_ret1 results3 rfl fun w' hH hf=>⟨rfl,hf⟩
  |exact ej_ret1 results3 rfl fun w' hH hf=>⟨rfl,frQ hfr4 hf⟩
 ·refine j_gt rfl rfl (jM (k:=?_))
  refine j_gt rfl rfl (jE ru32 (k:=?_))
  refine j_gt rfl rfl (jG (k:=jK (k:=K3 ?_)))
  refine cj_if rfl (fun h14=>?_) (fun h14=>?_)
  ·refine sQ fun K5=>cj_reg (jA (k:=K5 (cj_ret ?_)))
   first
   |exact ej_ret1 results3 rfl fun w' hH hf=>⟨rfl,hf⟩
   |exact ej_ret1 results3 rfl fun w' hH hf=>⟨rfl,frQ hfr4 hf⟩
  ·have hbf:=hbf (by simpa using hg10)
   have hwl:wl.length≤2147483647:=by simp at h14;omega
   refine cj_skip (K2 (sQ fun K6=>sQ fun K7=>cj_reg (j_valw rfl (fun a w ha hH hf=>r_ldA (vs:=[_,_,_,_,_,_,_,_,_,_,_,_,_,_]) 0 rfl rfl ag31 so31 rfl rfl rfl ha hH) ?_)))
   refine j_callQ (φ:=fun v=>∃b,v=.bool b∧(b=true→WellP x)) call8 rfl rfl (fun w hH hf=>well_c w _ _ (RProf.keep (hf.keepAll (.inr rfl)) _ _ hP) hbf.1 hbf.2.1 hbf.2.2) ?_
   rintro _ ⟨bw,rfl,hbw⟩
   refine jU (k:=jM (k:=?_))
   refine j_split (t:=18) rfl (fun hg18=>?_) (fun hg18=>?_)
   ·refine j_gf rfl rfl rfl rfl (j_gf rfl rfl rfl rfl (j_gf rfl rfl rfl rfl (jT (k:=K7 (CJ.t [(1,_),(2,_),(22,_)] (k:=?_))))))
    refine cj_if_t rfl (sQ fun K8=>cj_reg (jA (k:=K8 (cj_ret ?_))))
    first
    |exact ej_ret1 results3 rfl fun w' hH hf=>⟨rfl,hf⟩
    |exact ej_ret1 results3 rfl fun w' hH hf=>⟨rfl,frQ hfr4 hf⟩
   ·refine j_gt rfl rfl (jM (k:=?_))
    refine j_gt rfl rfl (jE ru32 (k:=?_))
    refine j_gt rfl rfl (jG (k:=jK (k:=K7 ?_)))
    refine cj_if rfl (fun h22=>?_) (fun h22=>?_)
    ·refine sQ fun K9=>cj_reg (jA (k:=K9 (cj_ret ?_)))
     first
     |exact ej_ret1 results3 rfl fun w' hH hf=>⟨rfl,hf⟩
     |exact ej_ret1 results3 rfl fun w' hH hf=>⟨rfl,frQ hfr4 hf⟩
    ·have hx:WellP x:=hbw (by simpa using hg18)
     have hwl2:wl.length≤65536:=by simp at h22;omega
     have hus:usX x≤64000000:=by have:=usX_le hx;omega
     refine cj_skip (K6 (sQ fun K10=>cj_reg (j_valw rfl (fun a w ha hH hf=>r_ldA (vs:=[_,_,_,_,_,_,_,_,_,_,_,_,_,_]) 0 rfl rfl ag31 so31 rfl rfl rfl ha hH) (jM (k:=?_)))))
     refine j_callE (R:=fun w1 v w2=>(∃T m,UInE x T m∧(mB m).length≤2000000000∧OS tU8 1 w2 v ((mB m).map bv))∧Fr 0 [] w1 w2) call10 rfl rfl (fun w1 hH hf=>encode_c w1 x wl _ _ (RProf.keep (hf.keepAll (.inr rfl)) _ _ hP) (hWP.keep (RInt.keep (hf.keepAll (.inr rfl))) (hf.keepAll (.inr rfl))) (by omega)
       hx.ntyp hx.nsam (by simpa using hx.tab.m.2.2) (by simpa using hx.tab.l.2.2) (by simpa using hx.tab.f.2.2) hx.ncom
       (fun s hs=>(hx.samples s hs).2.2.1) (fun s hs=>by rw[(hx.samples s hs).1];exact hx.ntyp) (fun s hs=>(hx.samples s hs).2.2.2.2) (fun s hs=>by have:=allE_len (hx.samples s hs).2.2.2.1;omega) (fun s hs t ht=>((hx.samples s hs).2.2.2.1.tl t ht).2.2)
       (fun l hl=>(hx.tab.locs l hl).2.1) (fun l hl n hn=>((hx.tab.locs l hl).2.2 n hn).2) (fun l hl=>(hx.tab.locs l hl).1.2) hus) fun w1 v w2 hH1 hf1 hR=>?_
     obtain ⟨⟨T,m,hUE,hml,hos⟩,hf2⟩:=hR
     have hI:UIn x T m:=hUE.to fun s hs=>⟨pw_nodup (hx.samples s hs).2.2.2.1.tpw,pw_nodup (hx.samples s hs).2.2.2.1.npw,by have:=allE_len (hx.samples s hs).2.2.2.1;omega⟩
     have hfr:Fr 0 [] w w2:=frQ hf1 hf2
     have hb1:=hf2.blk (hH1.get (i:=0) rfl rfl) (.inr (by simp))
     refine J.begin ⟨w2,0,[]⟩ [⟨b2,tIP,_,false,true,none⟩] ok_refl (Hp.add trivial hb1 (fun h=>by cases h) (by simp)) ?_
     refine j_callE (R:=fun w1 v w2=>(∃ds,v=.tuple #[.agg (List.toArray ds),.bool true]∧RProf w2 ds x)∧Fr 0 [] w1 w2) call9 rfl rfl (fun w3 hH hf=>implRead_c w3 x T hx hr v m hI (hos.mono fun b cs h=>hf.blk h (.inr (by simp)))) fun w3 v w4 hH3 hf3 hR=>?_
     obtain ⟨⟨ds,rfl,hRP⟩,hf4⟩:=hR
     have hfr4:Fr 0 [] w w4:=frQ hfr (frQ hf3 hf4)
     obtain ⟨la,ls,lm,ll,lf,lcm,rfl,hla,hls,hlm,hll,hlf,hlcm, -⟩:=id hRP
     obtain ⟨pa2,ca2,rfl, -⟩:=hla.open
     obtain ⟨ps2,cs2,rfl, -⟩:=hls.open
     obtain ⟨pm2,cm2,rfl, -⟩:=hlm.open
     obtain ⟨pl2,cl2,rfl, -⟩:=hll.open
     obtain ⟨pf2,cf2,rfl, -⟩:=hlf.open
     obtain ⟨pc2,cc2,rfl, -⟩:=hlcm.open
     have hb4:=hf4.blk (hH3.get (i:=0) rfl rfl) (.inr (by simp))
     refine J.begin ⟨w4,0,[]⟩ [⟨b2,tIP,_,false,true,none⟩] ok_refl (Hp.add trivial hb4 (fun h=>by cases h) (by simp)) ?_
     refine jM (k:=jX (k:=jX (k:=?_)))
     refine j_allocA (zs:=[(.slice none 0 0),(.string ⟨#[]⟩),(.slice none 0 0),(.slice none 0 0),(.slice none 0 0),(.slice none 0 0),(.slice none 0 0),(.string ⟨#[]⟩),(.string ⟨#[]⟩),(.int .i64 0),(.int .i64 0),(.int .i64 0),(.string ⟨#[]⟩),(.string ⟨#[]⟩)]) zv31 rfl fun b5=>jB [_,_,_,_,_,_,_,_,_,_,_,_,_,_] [_,_] 0 so31 (k:=jA (k:=K10 (CJ.t [(2,_),(5,_),(6,_)] (k:=sQ fun K11=>cj_reg (jM (k:=jM (k:=?_)))))))
     refine j_gt rfl rfl (j_valw rfl (fun a w ha hH hf=>r_ldA (vs:=[_,_,_,_,_,_,_,_,_,_,_,_,_,_]) 0 rfl rfl ag31 so31 rfl rfl rfl ha hH) (j_gt rfl rfl (j_valw rfl (fun a w ha hH hf=>r_ldA (vs:=[_,_,_,_,_,_,_,_,_,_,_,_,_,_]) 1 rfl rfl ag31 so31 rfl rfl rfl ha hH) (j_gt rfl rfl ?_))))
     refine j_callQ (φ:=fun v=>v=.bool true) call11 rfl rfl (fun w5 hH hf=>same_c w5 _ _ x (RProf.keep (hf.keepAll (.inr rfl)) _ _ hRP) (RProf.keep (Keep.trans (hfr4.keepAll (.inr rfl)) (hf.keepAll (.inr rfl))) _ _ hP)) fun v hv=>?_
     subst hv
     refine jT (k:=jA (k:=K11 (cj_ret ?_)))
     first
     |exact ej_ret1 results3 rfl fun w' hH hf=>⟨rfl,hf⟩
     |exact ej_ret1 results3 rfl fun w' hH hf=>⟨rfl,frQ hfr4 hf⟩
end Go.Proofs.YtifdadlhmlhfiaaGreatDoor
namespace Go.Proofs.YtifdadlhmlhfiaaGreatDoor.fnRead
open Go Go.Fw Go.Proofs Go.Proofs.YtifdadlhmlhfiaaGreatDoor Go.ChangeShapes Go.WideShapes Go.ChangeAt Go.RowKit
theorem own:ownKnob Tryz.prog.godebug=none:=by kernel_rfl
theorem laid:laidOutB Tryz.prog=true:=by kernel_rfl
theorem readP:Tryz.prog.readableRec 31=true:=by kernel_rfl
theorem readW:Tryz.prog.readableRec 32=true:=by kernel_rfl
theorem fr_below {W W':World} (h:Fr 0 [] W W'):Below W.heap.size W W':=⟨h.os,h.tape,h.output,h.size,fun k hk=>by
 rw[Array.getElem?_eq_getElem hk]
 exact h.keep k _ (Array.getElem?_eq_getElem hk) (.inr (by simp))⟩
noncomputable def low:Nat:=(World.holding Tryz.prog default ⟨#[], #[],[]⟩).heap.size
noncomputable def laidWorld (os:Os):World:=
 let w0:=World.holding Tryz.prog os ⟨#[.cells #[.string ⟨#[109,97,108,102,111,114,109,101,100,32,112,114,111,102,105,108,101,32,102,111,114,109,97,116]⟩] 211,.cells #[.string ⟨#[101,109,112,116,121,32,105,110,112,117,116,32,102,105,108,101]⟩] 211], #[],[]⟩
 { w0 with heap:=(((((w0.heap).modify 0 fun
    | .cells _ t frozen=>.cells #[.iface 209 (.pointer (some ⟨low+1,0,none⟩))] t frozen
    |o=>o).modify 1 fun
    | .cells _ t frozen=>.cells #[.iface 209 (.pointer (some ⟨low,0,none⟩))] t frozen
    |o=>o).modify 2 fun
    | .cells _ t frozen=>.cells #[.int .u64 1,.int .u64 10,.int .u64 100,.int .u64 1000,.int .u64 10000,.int .u64 100000,.int .u64 1000000,.int .u64 10000000,.int .u64 100000000,.int .u64 1000000000,.int .u64 10000000000,.int .u64 100000000000,.int .u64 1000000000000,.int .u64 10000000000000,.int .u64 100000000000000,.int .u64 1000000000000000,.int .u64 10000000000000000,.int .u64 100000000000000000,.int .u64 1000000000000000000,.int .u64 10000000000000000000] t frozen
    |o=>o).modify 3 fun
    | .cells _ t frozen=>.cells #[.int .u8 0,.int .u8 1,.int .u8 28,.int .u8 2,.int .u8 29,.int .u8 14,.int .u8 24,.int .u8 3,.int .u8 30,.int .u8 22,.int .u8 20,.int .u8 15,.int .u8 25,.int .u8 17,.int .u8 4,.int .u8 8,.int .u8 31,.int .u8 27,.int .u8 13,.int .u8 23,.int .u8 21,.int .u8 19,.int .u8 16,.int .u8 7,.int .u8 26,.int .u8 12,.int .u8 18,.int .u8 6,.int .u8 11,.int .u8 5,.int .u8 10,.int .u8 9] t frozen
    |o=>o).modify 4 fun
    | .cells _ t frozen=>.cells #[.int .u8 0,.int .u8 1,.int .u8 56,.int .u8 2,.int .u8 57,.int .u8 49,.int .u8 28,.int .u8 3,.int .u8 61,.int .u8 58,.int .u8 42,.int .u8 50,.int .u8 38,.int .u8 29,.int .u8 17,.int .u8 4,.int .u8 62,.int .u8 47,.int .u8 59,.int .u8 36,.int .u8 45,.int .u8 43,.int .u8 51,.int .u8 22,.int .u8 53,.int .u8 39,.int .u8 33,.int .u8 30,.int .u8 24,.int .u8 18,.int .u8 12,.int .u8 5,.int .u8 63,.int .u8 55,.int .u8 48,.int .u8 27,.int .u8 60,.int .u8 41,.int .u8 37,.int .u8 16,.int .u8 46,.int .u8 35,.int .u8 44,.int .u8 21,.int .u8 52,.int .u8 32,.int .u8 23,.int .u8 11,.int .u8 54,.int .u8 26,.int .u8 40,.int .u8 15,.int .u8 34,.int .u8 20,.int .u8 31,.int .u8 10,.int .u8 25,.int .u8 14,.int .u8 19,.int .u8 9,.int .u8 13,.int .u8 8,.int .u8 7,.int .u8 6] t frozen
    |o=>o }
abbrev arg0:Array Value:= #[.agg #[.slice none 0 0,.string ⟨#[]⟩,.slice none 0 0,.slice none 0 0,.slice none 0 0,.slice none 0 0,.slice none 0 0,.string ⟨#[]⟩,.string ⟨#[]⟩,.int .i64 0,.int .i64 0,.int .i64 0,.string ⟨#[]⟩,.string ⟨#[]⟩],.slice none 0 0]
theorem laid_met (os:Os):laidMet Tryz.prog Rows.fnReadRow.laid ((laidWorld os).forCall (fun _ _=>0) ⟨#[],arg0,[]⟩).memory:=
 laidMet_of_run' 8 (by kernel_rfl) (by kernel_rfl)
theorem reads (os:Os) {H:Type} (enc:TypeId×Value→H):∃places,DataW.whole enc Tryz.prog ((laidWorld os).forCall (fun _ _=>0) ⟨#[],arg0,[]⟩).memory Tryz.f3.params.toList Rows.fnReadSpec.vars false arg0.toList 8=some ([.agg [.nil,.lit (.string []),.nil,.nil,.nil,.nil,.nil,.lit (.string []),.lit (.string []),.lit (.int .i64 0),.lit (.int .i64 0),.lit (.int .i64 0),.agg [.lit (.string []),.lit (.string [])]],.nil],[.held (enc (209,.pointer (some ⟨low+1,0,none⟩))),.held (enc (209,.pointer (some ⟨low,0,none⟩)))],places):=
 ⟨[.cell 0 0,.cell 1 0],by kernel_rfl⟩
set_option maxRecDepth 100000 in
theorem lifted (os:Os) (started:os.Started) (H:Type) (enc:TypeId×Value→H) (F:Stop.Interp):
  ReturnsInHanded {} Tryz.checked os 3 .any ((Rows.OpenSpec.upto Rows.fnReadSpec).preRow enc Tryz.prog Tryz.f3 Rows.fnReadUptoRow.domain false Rows.fnReadUptoRow.laid) (((Rows.OpenSpec.upto Rows.fnReadSpec).at F).post enc Tryz.prog Tryz.f3 false true false false):=by
 obtain ⟨places,hx⟩:=reads os enc
 refine returnsInHanded_of_row (C:=Tryz.checked) (s:=Rows.OpenSpec.upto Rows.fnReadSpec) own started (by kernel_rfl) Tryz.func3
  (witness_row_at (enc:=enc) (C:=Tryz.checked) false (laidWorld os) arg0 rfl (by kernel_rfl) (by kernel_rfl) (by kernel_rfl)
   (OpenSpec.preRow_of_cond 8 hx (by kernel_rfl) (fun k hk=>by cases hk;kernel_rfl) (by kernel_rfl) (laid_met os))) ?_
 intro W base args ds gs before hval0 hW _ hbk _ hL _ _
 have hval:∀(j:Nat) t v,Tryz.f3.params[j]? =some t→args[j]? =some v→Value.okWide Tryz.prog W .any base t v:=hval0
 have hW':=hW
 obtain ⟨p,q,hA0,hV,rfl,hfz,hnd⟩:=hW
 have hA:DataW.TrodAll enc Tryz.prog W 0 (fun _=>true) true Tryz.f3.params.toList args.toList ds p:=hA0
 rw[Tryz.params3]at hA hval
 obtain ⟨v0,vs0,d0,ds0,p0,q0,hargs,rfl,rfl,h0,r0⟩:=trodAll_cons hA
 obtain ⟨v1,vs1,d1,ds1,p1,q1,rfl,rfl,rfl,h1,r1⟩:=trodAll_cons r0
 obtain ⟨rfl,rfl,rfl⟩:=trodAll_nil r1
 obtain rfl:args= #[v0,v1]:=by cases args;simp_all
 have hV1:DataW.TrodVars enc Tryz.prog W (fun _=>true) Rows.fnReadSpec.vars gs q:=hV
 have hv0:=hval 0 31 v0 rfl rfl
 unfold Value.okWide at hv0
 rw[ud31]at hv0
 obtain ⟨cs,rfl, -, -⟩:=hv0
 obtain ⟨fuel,h0'⟩:=id h0
 obtain ⟨x,hx,hm⟩:=rd_Profile _ _ _ h0'
 have hx:RProf W cs.toList x:=hx
 obtain ⟨a1,l1,c1,rfl⟩:=okWide_slice ud32 (hval 1 32 v1 rfl rfl)
 obtain ⟨fuel1,h1'⟩:=id h1
 obtain ⟨wl,⟨_,e1,hw⟩, -⟩:=rd_slice ud32 cellsOf3 (by decide) (rd_int ud3) _ _ _ h1'
 obtain rfl:=(List.cons.inj e1).1
 have hS:mPf x≤1048576:=by
  have h1:Rows.uptoBulkAll ([d0,d1]++gs)≤1048576:=of_decide_eq_true (hbk _ rfl)
  simp only[List.cons_append,List.nil_append,Rows.uptoBulkAll]at h1
  simp only at hm
  omega
 have hlt:=hW'.lt
 refine (root_read W cs.toList x wl _ hx hw hS).mono fun e W' he=>?_
 obtain ⟨v,rfl,rfl,hk⟩:∃v,e=.returned v∧v=.bool true∧Fr 0 [] W W':=by
  cases e with
  |returned v=>exact ⟨v,rfl,he⟩
  |panicked c=>exact he.elim
  |outgrown=>exact he.elim
 have hb:=fr_below hk
 obtain ⟨g1,g2,rfl⟩:∃g1 g2,gs=[g1,g2]:=by
  obtain ⟨_,_,_,_,d0,_,_,_,_,_,d1,_,h, -⟩:=trodVars_two hV1
  exact ⟨d0,d1,h⟩
 have hlt':∀p∈p0++(p1++[])++q,p.block<W.heap.size:=hlt
 refine ⟨_,rfl,[_,_],[g1,g2],_,[],p0++(p1++[]),q,hW',?_,?_,Below.trodVars laid hb (by kernel_rfl) hV1,keptOf hk _,fun h=>by cases h⟩
 ·exact trodAll_cons_mk (shut_bool ud4 _) trodAll_mk0
 ·refine trodAll_cons_mk (Below.trod laid readP (of_decide_eq_true (by kernel_rfl)) h0 hb fun p hp=>hlt' p (by simp[hp])) (trodAll_cons_mk (Below.trod laid readW (of_decide_eq_true (by kernel_rfl)) h1 hb fun p hp=>hlt' p (by simp[hp])) trodAll_mk0)
set_option maxHeartbeats 40000000 in
theorem closed:joinedFacts Tryz.pinned.checked.prog 3 Tryz.f3 (Rows.OpenSpec.upto Rows.fnReadSpec).bare Rows.fnReadUptoRow=true:=by
 simp only[joinedFacts,Bool.and_eq_true]
 repeat' apply And.intro
 all_goals (as_aux_lemma=>kernel_rfl)
set_option maxRecDepth 100000 in
theorem saidUpto:Rows.FnReadUptoSaid:=
 OpenClaim.holds_of_cond 3 Tryz.f3 rfl rfl rfl rfl rfl rfl rfl ⟨rfl,rfl,rfl,rfl,rfl⟩ rfl rfl rfl rfl rfl (by kernel_rfl) Tryz.func3 closed
  (of_decide_eq_true (by kernel_rfl)) (by unfold Func.isWrapper;first|(rw[if_pos (by decide+kernel)];kernel_rfl)|(rw[if_neg (by decide+kernel)];exact ⟨rfl,rfl⟩))
  (fun os started H enc _ F=>by rw[OpenClaim.pre_eq_preRow];exact lifted os started H enc F)
theorem plain (f:FuncId) (fn:Func) (hf:Tryz.pinned.checked.prog.funcNamed "loop.example/pub-profileroads/laws.FnRead" =some f) (hfn:Tryz.pinned.checked.prog.funcs[f]? =some fn):
  true=Tryz.pinned.checked.prog.looks []∧∀(j:Nat) t,fn.params[j]? =some t→Tryz.pinned.checked.prog.wantsStandIn t=false:=by
 obtain rfl:f=3:=Option.some.inj ((show Tryz.prog.funcNamed "loop.example/pub-profileroads/laws.FnRead" =some 3 by kernel_rfl).symm.trans hf)|>.symm
 obtain rfl:fn=Tryz.f3:=(Option.some.inj (Tryz.func3.symm.trans hfn)).symm
 refine ⟨by kernel_rfl,fun j t ht=>?_⟩
 rw[Tryz.params3]at ht
 have ht:=Array.mem_of_getElem? ht
 simp only[List.mem_toArray,List.mem_cons,List.not_mem_nil,or_false]at ht
 rcases ht with rfl|rfl
 ·exact (show Tryz.prog.wantsStandIn 31=false by kernel_rfl)
 ·exact (show Tryz.prog.wantsStandIn 32=false by kernel_rfl)
end Go.Proofs.YtifdadlhmlhfiaaGreatDoor.fnRead
namespace Go.Proofs.YtifdadlhmlhfiaaGreatDoor
theorem fnReadUpto_holds:Rows.FnReadUptoCardSaid:=
 Claim7.holds_tied_plain_at .later [] _ _ _ _ fnRead.saidUpto (fun _ h=>by cases h) (by kernel_rfl) (fun _ h=>by cases h) fnReadUpto_row_tie rfl ⟨rfl,rfl⟩ (by kernel_rfl) rfl fnRead.plain (by kernel_rfl)
#print axioms fnReadUpto_holds
end Go.Proofs.YtifdadlhmlhfiaaGreatDoor
