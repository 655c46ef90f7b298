/-
  Part 5 of the proof. Conditions: as each lemma states them.
-/
import Derived.Test.YtifdadlhmlhfiaaGreatDoorX4
import Derived.Laws.StructEq
namespace Go.Fw
open Go
variable {w:World}
section
variable {P:Program} {Q:Exit→Act→World→Prop} {n:Nat} {f:Fm} {e:Env} {H:Heap}
theorem ej_ret1C {fn:Func} {R:Value→World→Prop} {s T m:Nat} {b:Nat} {vs:List Value} (hres:fn.results= #[.cell s T]) (hag:∀w,(isAgg T).run P w=.ok true w) (hsz:∀w,(sizeOf T).run P w=.ok m w) (hvm:vs.length=m)
  (hs:look e s=some (.pointer (some ⟨b,0,none⟩))) (hb:∀w,Hp f w H→f.ok w→∃U,Blk w b U vs) (h:∀w,Hp f w H→f.ok w→R (.agg vs.toArray) w):
  EJ (bodyPost P fn (Ret R)) .ret n f e H:=fun w hH hf a ha=>by
 refine ⟨ha.defs,_,?_,h w hH hf⟩
 have h2:=ha.has s _ hs
 obtain ⟨U,hbk⟩:=hb w hH hf
 have h3:=run_loadCells (P:=P) (b:=b) w vs 0 hbk.cells
 simp only[results,hres]
 simp[Array.getD_eq_getD_getElem?,h2,asAddr,loadVar,hag,hsz, ← hvm,h3]
end
theorem Hp.sw2 {f:Fm} {a b c:Ent} {R:Heap} (h:Hp f w (a::b::c::R)):Hp f w (a::c::b::R):=Go.Proofs.YtifdadlhmlhfiaaGreatDoor.Hp.rot3 (Hp.swap h)
theorem Hp.head2 {f:Fm} {a b:Ent} {R:Heap} (h:Hp f w (a::b::R)):Hp f w [a,b]:=⟨h.1,h.2.1,fun he z hz hze=>h.2.2.1 he z (by simp at hz;subst hz;simp) hze,h.2.2.2.1,h.2.2.2.2.1,fun _ z hz=>(by cases hz),trivial⟩
theorem fr_all {B:Nat} {w':World} (h:Fr B [] w w'):Fr 0 [] w w':=⟨h.os,h.tape,h.output,h.size,fun b o hb _=>h.keep b o hb (.inr (by simp))⟩
theorem take_flat {α:Type} {xs:List α} {c:α→List Value} {k:Nat} (hk:k<xs.length):(xs.take (k+1)).flatMap c=(xs.take k).flatMap c++c xs[k]:=by
 rw[← List.take_append_getElem hk,List.flatMap_append];simp
end Go.Fw
namespace Go.Proofs.YtifdadlhmlhfiaaGreatDoor
open Go Go.Fw Go.Proofs Go.Proofs.Tryz
variable {g:G} {fs:List Fld} {W:List Nat} {B j k n:Nat} {s:PSample} {w w':World}
abbrev tIP:Nat:=31
abbrev tTy:Nat:=29
abbrev tMp:Nat:=73
abbrev tFn:Nat:=80
abbrev tLc:Nat:=77
abbrev tLn:Nat:=114
abbrev tInt:Nat:=3
abbrev tSm:Nat:=57
def cTyI (t:PType):List Value:=[.string t.ty,.string t.unit]
def cMpI (m:PMapping):List Value:=[.int .u64 m.id,.int .u64 m.start,.int .u64 m.limit,.int .u64 m.offset,.string m.file,.string m.build,.bool m.fu,.bool m.fi,.bool m.li,.bool m.inl]
def cFnI (f:PFunc):List Value:=[.int .u64 f.id,.string f.name,.string f.system,.string f.file,.int .i64 f.start]
def cLnI (n:PLine):List Value:=[.int .i64 n.fn,.int .i64 n.line]
def cLcI (q:PLoc×Value):List Value:=[.int .u64 q.1.id,.int .i64 q.1.mapping,.int .u64 q.1.addr,q.2]
structure SV where (st vs tx nu:Value)
def cSmI (q:PSample×SV):List Value:=[q.2.st,q.2.vs,q.2.tx,q.2.nu]
structure SmV (w:World) (q:PSample×SV):Prop where
 st:OS tInt 1 w q.2.st (q.1.stack.map (.int .i64))
 vs:OS tI64 1 w q.2.vs (q.1.values.map (.int .i64))
 tx:TxV w q.2.tx q.1
 nu:NuV w q.2.nu q.1
def LcsV (w:World) (qs:List (PLoc×Value)):Prop:=∀q∈qs,OS tLn 2 w q.2 (q.1.lines.flatMap cLnI)
def SmsV (w:World) (qs:List (PSample×SV)):Prop:=∀q∈qs,SmV w q
theorem SmV.mono {q:PSample×SV} (h:SmV w q) (k1:∀b cs,Blk w b tInt cs→Blk w' b tInt cs) (k2:∀b cs,Blk w b tI64 cs→Blk w' b tI64 cs) (k3:∀b cs,Blk w b tTx cs→Blk w' b tTx cs) (k4:∀b cs,Blk w b tStr cs→Blk w' b tStr cs) (k5:∀b cs,Blk w b tNu cs→Blk w' b tNu cs):SmV w' q:=
 ⟨h.st.mono k1,h.vs.mono k2,h.tx.mono k3 k4,h.nu.mono k5 k2⟩
def cOP (x:PProf) (vT vS vM vL vF vC:Value) (p:PType):List Value:=[vT,.string x.deflt,vS,vM,vL,vF,vC,.string x.drop,.string x.keep,.int .i64 x.time,.int .i64 x.dur,.int .i64 x.period,.string p.ty,.string p.unit]
abbrev vN:Value:=.slice none 0 0
abbrev zIP:List Value:=[.slice none 0 0,.string ⟨#[]⟩,.slice none 0 0,.slice none 0 0,.slice none 0 0,.slice none 0 0,.slice none 0 0,.string ⟨#[]⟩,.string ⟨#[]⟩,.int .i64 0,.int .i64 0,.int .i64 0,.string ⟨#[]⟩,.string ⟨#[]⟩]
abbrev eI (b T:Nat) (cs:List Value):Ent:=⟨b,T,cs,true,true,none⟩
structure PV (w:World) (x:PProf) (vT vM vF vL vC:Value):Prop where
 ty:OS tTy 2 w vT (x.types.flatMap cTyI)
 mp:OS tMp 10 w vM (x.mappings.flatMap cMpI)
 fn:OS tFn 5 w vF (x.funcs.flatMap cFnI)
 lc:∃lq:List (PLoc×Value),lq.map (·.1)=x.locs∧OS tLc 4 w vL (lq.flatMap cLcI)∧LcsV w lq
 co:OS tStr 1 w vC (x.comments.map .string)
theorem PV.fr {x:PProf} {vT vM vF vL vC:Value} (h:PV w x vT vM vF vL vC) (k:Fr B W w w') (hW:([tTy,tMp,tFn,tLc,tLn,tStr].all fun T=>W.all fun t=> !Nat.beq t T)=true):PV w' x vT vM vF vL vC:=by
 simp only[List.all_cons,List.all_nil,Bool.and_true,Bool.and_eq_true]at hW
 obtain ⟨h1,h2,h3,h4,h5,h6⟩:=hW
 obtain ⟨lq,e,h7,h8⟩:=h.lc
 exact ⟨h.ty.mono (fr_row k h1),h.mp.mono (fr_row k h2),h.fn.mono (fr_row k h3),⟨lq,e,h7.mono (fr_row k h4),fun q hq=>(h8 q hq).mono (fr_row k h5)⟩,h.co.mono (fr_row k h6)⟩
theorem SmsV.fr {qs:List (PSample×SV)} (h:SmsV w qs) (k:Fr B W w w') (hW:([tInt,tI64,tTx,tStr,tNu].all fun T=>W.all fun t=> !Nat.beq t T)=true):SmsV w' qs:=fun q hq=>by
 simp only[List.all_cons,List.all_nil,Bool.and_true,Bool.and_eq_true]at hW
 obtain ⟨h1,h2,h3,h4,h5⟩:=hW
 exact (h q hq).mono (fr_row k h1) (fr_row k h2) (fr_row k h3) (fr_row k h4) (fr_row k h5)
theorem Own.osM {T sz l c:Nat} {y:Ent} {p:Option Addr} {xs:List Value} {f:Fm} {H:Heap} (h:Own T sz y p l c xs) (hH:Hp f w H) (hy:y∈H):OS T sz w (.slice p l c) xs:=
 ⟨y,p,l,c,rfl,h,fun ho=>by have:=hH.blk hy ho;rw[h.hT]at this;exact this⟩
def GotP (w:World) (cs:List Value) (x:PProf):Prop:=∃vT vS vM vL vF vC sq,cs=cOP x vT vS vM vL vF vC x.per∧PV w x vT vM vF vL vC∧(sq:List (PSample×SV)).map (·.1)=x.samples∧OS tSm 4 w vS (sq.flatMap cSmI)∧SmsV w sq
set_option maxHeartbeats 4000000 in
theorem plain_c (B:Nat) (w:World) (x:PProf) (g:G) (hQ:OfQ B w x g) (hx:WellP x):Calls Tryz.prog 28 #[ptr g.pb] w (Ret fun v w'=>(∃cs,v=.agg (List.toArray cs)∧GotP w' cs x)∧Fr 0 [] w w'):=by
 obtain ⟨tyv,sav,mav,lov,fuv,cov,hpf,hty,hsa,hma,hlo,hfu,hco⟩:=hQ.prof
 obtain ⟨p1,l1,c1,rfl,hl1, -,hx1⟩:=hty.openF
 obtain ⟨p2,l2,c2,rfl,hl2, -,hx2⟩:=hsa.openF
 obtain ⟨p3,l3,c3,rfl,hl3, -,hx3⟩:=hma.openF
 obtain ⟨p4,l4,c4,rfl,hl4, -,hx4⟩:=hlo.openF
 obtain ⟨p5,l5,c5,rfl,hl5, -,hx5⟩:=hfu.openF
 obtain ⟨p6,l6,c6,rfl,hl6, -, -⟩:=hco.openF
 obtain rfl:l1=x.types.length:=by have:=hQ.types.1;simp at hl1;omega
 obtain rfl:l2=x.samples.length:=by have:=hQ.sams.1;simp at hl2;omega
 obtain rfl:l3=x.mappings.length:=by have:=hQ.maps.1;simp at hl3;omega
 obtain rfl:l4=x.locs.length:=by have:=hQ.locs.1;simp at hl4;omega
 obtain rfl:l5=x.funcs.length:=by have:=hQ.funs.1;simp at hl5;omega
 obtain rfl:l6=x.comments.length:=by simp at hl6;omega
 have hc0:=mc (f:=⟨w,w.heap.size,[]⟩) hpf rfl
 have hcp:=mc (f:=⟨w,w.heap.size,[]⟩) hQ.per rfl
 have hn1:=hx.ntyp
 have hn2:=hx.nsam
 have hn6:=hx.ncom
 have hn3:=hx.tab.m.2.2
 have hn5:=hx.tab.f.2.2
 have hn4:=hx.tab.l.2.2
 simp only[List.length_map]at hn3 hn4 hn5
 have hBm:∀b∈g.maps,∃cs,Blk w b tMap cs:=Each.all (hQ.maps.mono (ψ:=fun b _=>∃cs,Blk w b tMap cs) fun b m h=>⟨_,h⟩)
 have hBf:∀b∈g.funs,∃cs,Blk w b tFun cs:=Each.all (hQ.funs.mono (ψ:=fun b _=>∃cs,Blk w b tFun cs) fun b m h=>⟨_,h⟩)
 have hBl:∀b∈g.locs,∃cs,Blk w b tLoc cs:=Each.all (hQ.locs.mono (ψ:=fun b _=>∃cs,Blk w b tLoc cs) fun b m h=>by obtain ⟨ls,h1, -⟩:=h.ex;exact ⟨_,h1⟩)
 refine startJ (args:=[_]) [(0,_)] w.heap.size [] [] Tryz.func28 rfl Tryz.ntmps28 rfl rfl .nil ?_
 refine sQ fun K1=>cj_reg (j_allocA (zs:=[(.slice none 0 0),(.string ⟨#[]⟩),(.slice none 0 0),(.slice none 0 0),(.slice none 0 0),(.slice none 0 0),(.slice none 0 0),(.string ⟨#[]⟩),(.string ⟨#[]⟩),(.int .i64 0),(.int .i64 0),(.int .i64 0),(.string ⟨#[]⟩),(.string ⟨#[]⟩)]) zv31 rfl fun b2=>K1 ?_)
 refine cj_seqJ ((fun s:{q:Nat×Ent×Option Addr×Nat//Own tStr 1 q.2.1 q.2.2.1 x.comments.length q.2.2.2 (x.comments.map .string)}=>[(0,ptr g.pb),(2,ptr b2),(3,ptr s.1.1)])) ((fun s=>[eI s.1.1 tIP (cOP x vN vN vN vN vN (.slice s.1.2.2.1 x.comments.length s.1.2.2.2) ⟨eB,eB⟩),eI b2 tIP zIP,s.1.2.1])) (fun KJ hKJ=>?_) (fun b3=>?_)
 ·refine cj_drawF 33 31 (lts [0,1,2,3,5,6,7,8,10,11,12,13,14,15,16,17,18,19,20,21,22,23,24,25,26,27,28,29]++(4,false)::((9,false)::(lts [30]++(31,false)::(32,false)::[]))) [] rfl (by kernel_rfl) (by kernel_rfl) ?_
  refine df_val rfl rfl (sub_of [] rfl) (fun _ _ h=>r_move rfl h) (df_val rfl rfl (sub_of [] rfl) (fun _ _ h=>r_nil rfl h) (df_val rfl rfl (sub_of [] rfl) (fun _ _ h=>r_fl (q:=1) (ft:=9) ru125 rfl so9 rfl h) (df_ld rfl rfl (sub_of [] rfl) (fun a w ha hS=>r_load ag9 rfl (hc0 w (hS.2) 1 _ rfl) ha) (df_val rfl rfl (sub_of [] rfl) (fun _ _ h=>r_move rfl h) (df_val rfl rfl (sub_of [] rfl) (fun _ _ h=>r_nil rfl h) (df_val rfl rfl (sub_of [] rfl) (fun _ _ h=>r_fl (q:=6) (ft:=27) ru125 rfl so27 rfl h) (df_ld rfl rfl (sub_of [] rfl) (fun a w ha hS=>r_load ag27 rfl (hc0 w (hS.2) 6 _ rfl) ha) (df_val rfl rfl (sub_of [] rfl) (fun _ _ h=>r_move rfl h) (df_val rfl rfl (sub_of [] rfl) (fun _ _ h=>r_nil rfl h) (df_val rfl rfl (sub_of [] rfl) (fun _ _ h=>r_fl (q:=7) (ft:=9) ru125 rfl so9 rfl h) (df_ld rfl rfl (sub_of [] rfl) (fun a w ha hS=>r_load ag9 rfl (hc0 w (hS.2) 7 _ rfl) ha) (df_val rfl rfl (sub_of [] rfl) (fun _ _ h=>r_move rfl h) (df_val rfl rfl (sub_of [] rfl) (fun _ _ h=>r_nil rfl h) ?_)))))))))))))
  refine df_val rfl rfl (sub_of [] rfl) (fun _ _ h=>r_fl (q:=8) (ft:=9) ru125 rfl so9 rfl h) (df_ld rfl rfl (sub_of [] rfl) (fun a w ha hS=>r_load ag9 rfl (hc0 w (hS.2) 8 _ rfl) ha) (df_val rfl rfl (sub_of [] rfl) (fun _ _ h=>r_move rfl h) (df_val rfl rfl (sub_of [] rfl) (fun _ _ h=>r_nil rfl h) (df_val rfl rfl (sub_of [] rfl) (fun _ _ h=>r_fl (q:=9) (ft:=2) ru125 rfl so2 rfl h) (df_ld rfl rfl (sub_of [] rfl) (fun a w ha hS=>r_load ag2 rfl (hc0 w (hS.2) 9 _ rfl) ha) (df_val rfl rfl (sub_of [] rfl) (fun _ _ h=>r_move rfl h) (df_val rfl rfl (sub_of [] rfl) (fun _ _ h=>r_nil rfl h) (df_val rfl rfl (sub_of [] rfl) (fun _ _ h=>r_fl (q:=10) (ft:=2) ru125 rfl so2 rfl h) (df_ld rfl rfl (sub_of [] rfl) (fun a w ha hS=>r_load ag2 rfl (hc0 w (hS.2) 10 _ rfl) ha) (df_val rfl rfl (sub_of [] rfl) (fun _ _ h=>r_move rfl h) (df_val rfl rfl (sub_of [] rfl) (fun _ _ h=>r_nil rfl h) (df_val rfl rfl (sub_of [] rfl) (fun _ _ h=>r_fl (q:=12) (ft:=2) ru125 rfl so2 rfl h) (df_ld rfl rfl (sub_of [] rfl) (fun a w ha hS=>r_load ag2 rfl (hc0 w (hS.2) 12 _ rfl) ha) ?_)))))))))))))
  refine df_fork rfl rfl rfl (fun K2 hK2=>?_) (fun K2 hK2=>?_)
  ·refine j_allocA (zs:=[(.slice none 0 0),(.string ⟨#[]⟩),(.slice none 0 0),(.slice none 0 0),(.slice none 0 0),(.slice none 0 0),(.slice none 0 0),(.string ⟨#[]⟩),(.string ⟨#[]⟩),(.int .i64 0),(.int .i64 0),(.int .i64 0),(.string ⟨#[]⟩),(.string ⟨#[]⟩)]) zv31 rfl fun b3=>j_nil (ej_then (hK2 _ _ (sub_of [] rfl) ?_));clear hK2 K2
   refine dE (h:=fun Kd=>j_bslice0 ru27 so9 rfl fun b24=>Kd (sb []) (dE (h:=fun Kd=>?_)))
   first|refine j_appS 0 rfl Own.empty ru27 el9 rfl rfl rfl hco rfl (fun z hz=>by obtain ⟨u, -,rfl⟩:=List.mem_map.1 hz;rfl) (by omega) rfl fun y29 p29 c29 hO29=>?_|refine j_appS 1 rfl Own.empty ru27 el9 rfl rfl rfl hco rfl (fun z hz=>by obtain ⟨u, -,rfl⟩:=List.mem_map.1 hz;rfl) (by omega) rfl fun y29 p29 c29 hO29=>?_
   refine Kd (sb []) ?_
   rw[Nat.zero_add,List.nil_append]at hO29
   first|refine dj_eqv (u:=.slice p29 x.comments.length c29) (by rw[Nat.zero_add]) ?_|refine df_eqv (u:=.slice p29 x.comments.length c29) (by rw[Nat.zero_add]) ?_
   refine dj_val rfl rfl (sub_of [] rfl) (fun _ _ h=>r_build (cs:=[(.slice none 0 0),_,(.slice none 0 0),(.slice none 0 0),(.slice none 0 0),(.slice none 0 0),_,_,_,_,_,_,(.string ⟨#[]⟩),(.string ⟨#[]⟩)]) bt31 rfl rfl h) (dE (h:=fun Kd=>jB [_,_,_,_,_,_,_,_,_,_,_,_,_,_] (_::_::_::_) 1 so31 (k:=Kd (sb []) (dj_end ?_))))
   first
    |exact ej_then (hKJ ⟨(b3,y29,p29,c29),hO29⟩ _ _ ⟨rfl,rfl,rfl,trivial⟩ fun w h=>Hp.sw2 h)
    |exact ej_then (hKJ ⟨(b3,y29,p29,c29),hO29⟩ _ _ ⟨rfl,rfl,rfl,trivial⟩ fun w h=>Hp.rot3 h)
  ·refine j_bslice0 ru27 so9 rfl fun b24=>j_nil (ej_then (hK2 _ _ (sub_of [] rfl) ?_));clear hK2 K2
   refine df_fork rfl rfl rfl (fun K2 hK2=>?_) (fun K2 hK2=>?_)
   ·refine j_allocA (zs:=[(.slice none 0 0),(.string ⟨#[]⟩),(.slice none 0 0),(.slice none 0 0),(.slice none 0 0),(.slice none 0 0),(.slice none 0 0),(.string ⟨#[]⟩),(.string ⟨#[]⟩),(.int .i64 0),(.int .i64 0),(.int .i64 0),(.string ⟨#[]⟩),(.string ⟨#[]⟩)]) zv31 rfl fun b3=>j_nil (ej_then (hK2 _ _ (sub_of [] rfl) ?_));clear hK2 K2
    refine dE (h:=fun Kd=>?_)
    first|refine j_appS 0 rfl Own.empty ru27 el9 rfl rfl rfl hco rfl (fun z hz=>by obtain ⟨u, -,rfl⟩:=List.mem_map.1 hz;rfl) (by omega) rfl fun y29 p29 c29 hO29=>?_|refine j_appS 1 rfl Own.empty ru27 el9 rfl rfl rfl hco rfl (fun z hz=>by obtain ⟨u, -,rfl⟩:=List.mem_map.1 hz;rfl) (by omega) rfl fun y29 p29 c29 hO29=>?_
    refine Kd (sb []) ?_
    rw[Nat.zero_add,List.nil_append]at hO29
    first|refine dj_eqv (u:=.slice p29 x.comments.length c29) (by rw[Nat.zero_add]) ?_|refine df_eqv (u:=.slice p29 x.comments.length c29) (by rw[Nat.zero_add]) ?_
    refine dj_val rfl rfl (sub_of [] rfl) (fun _ _ h=>r_build (cs:=[(.slice none 0 0),_,(.slice none 0 0),(.slice none 0 0),(.slice none 0 0),(.slice none 0 0),_,_,_,_,_,_,(.string ⟨#[]⟩),(.string ⟨#[]⟩)]) bt31 rfl rfl h) (dE (h:=fun Kd=>jB [_,_,_,_,_,_,_,_,_,_,_,_,_,_] (_::_::_::_) 0 so31 (k:=Kd (sb []) (dj_end ?_))))
    first
     |exact ej_then (hKJ ⟨(b3,y29,p29,c29),hO29⟩ _ _ ⟨rfl,rfl,rfl,trivial⟩ fun w h=>Hp.sw2 h)
     |exact ej_then (hKJ ⟨(b3,y29,p29,c29),hO29⟩ _ _ ⟨rfl,rfl,rfl,trivial⟩ fun w h=>Hp.rot3 h)
   ·first|refine j_appS 0 rfl Own.empty ru27 el9 rfl rfl rfl hco rfl (fun z hz=>by obtain ⟨u, -,rfl⟩:=List.mem_map.1 hz;rfl) (by omega) rfl fun y29 p29 c29 hO29=>?_|refine j_appS 1 rfl Own.empty ru27 el9 rfl rfl rfl hco rfl (fun z hz=>by obtain ⟨u, -,rfl⟩:=List.mem_map.1 hz;rfl) (by omega) rfl fun y29 p29 c29 hO29=>?_
    refine j_nil (ej_then (hK2 _ _ (sub_of [] rfl) ?_));clear hK2 K2
    rw[Nat.zero_add,List.nil_append]at hO29
    first|refine dj_eqv (u:=.slice p29 x.comments.length c29) (by rw[Nat.zero_add]) ?_|refine df_eqv (u:=.slice p29 x.comments.length c29) (by rw[Nat.zero_add]) ?_
    refine df_val rfl rfl (sub_of [] rfl) (fun _ _ h=>r_build (cs:=[(.slice none 0 0),_,(.slice none 0 0),(.slice none 0 0),(.slice none 0 0),(.slice none 0 0),_,_,_,_,_,_,(.string ⟨#[]⟩),(.string ⟨#[]⟩)]) bt31 rfl rfl h) ?_
    refine df_al rfl fun K2 hK2=>?_
    refine j_allocA (zs:=[(.slice none 0 0),(.string ⟨#[]⟩),(.slice none 0 0),(.slice none 0 0),(.slice none 0 0),(.slice none 0 0),(.slice none 0 0),(.string ⟨#[]⟩),(.string ⟨#[]⟩),(.int .i64 0),(.int .i64 0),(.int .i64 0),(.string ⟨#[]⟩),(.string ⟨#[]⟩)]) zv31 rfl fun b3=>j_nil (ej_then (hK2 _ _ (sub_of [] rfl) ?_));clear hK2 K2
    refine dE (h:=fun Kd=>jB [_,_,_,_,_,_,_,_,_,_,_,_,_,_] (_::_::_::_) 0 so31 (k:=Kd (sb []) (dj_end ?_)))
    first
     |exact ej_then (hKJ ⟨(b3,y29,p29,c29),hO29⟩ _ _ ⟨rfl,rfl,rfl,trivial⟩ fun w h=>Hp.sw2 h)
     |exact ej_then (hKJ ⟨(b3,y29,p29,c29),hO29⟩ _ _ ⟨rfl,rfl,rfl,trivial⟩ fun w h=>Hp.rot3 h)
 ·obtain ⟨⟨b3,yC,pC,cC⟩,hOC⟩:=b3
  replace hOC:Own tStr 1 yC pC x.comments.length cC (x.comments.map .string):=hOC
  refine cj_seqF fun K2 hK2=>sQ fun K3=>cj_reg (jM (k:=jN (k:=jF 11 ru125 so123 (k:=jL ag123 hc0 11 (k:=?_)))))
  refine j_val rfl (fun _ _ h=>r_pnneq ud123 rfl h) (K3 (CJ.t [(0,_),(2,_),(3,_),(55,_)] (k:=?_)))
  refine cj_if_t rfl (cj_drawI 17 (lts [0,1,2,3,4,5,6,7,8,9,10,11,12,13,14,15]++(16,false)::[]) [] rfl (by kernel_rfl) (by kernel_rfl) (dM [] (k:=dN [] (k:=dF [] 11 ru125 so123 (k:=dL [] ag123 hc0 11 (k:=dN [] (k:=dF [] 0 ru127 so9 (k:=dL [] ag9 hcp 0 (k:=dM [] (k:=dN [] (k:=dF [] 11 ru125 so123 (k:=dL [] ag123 hc0 11 (k:=dN [] (k:=?_))))))))))))))
  refine dF [] 1 ru127 so9 (k:=dL [] ag9 hcp 1 (k:=?_))
  refine dj_val rfl rfl (sub_of [] rfl) (fun _ _ h=>r_build (cs:=[_,_]) bt29 rfl rfl h) (dF [] 12 ru31 so29 (k:=dE (h:=fun Kd=>jB [_,_,_,_,_,_,_,_,_,_,_,_,_,_] (_::_::_::_) 0 so29 (k:=Kd (sb []) (dj_end (ej_then (hK2 _ _ _ (CJ.t [(0,_),(2,_),(3,_)] (k:=sQ fun K4=>sQ fun K5=>cj_reg (jM (k:=jN (k:=jF 0 ru125 so118 (k:=?_)))))))))))))
  refine jL ag118 hc0 0 (k:=jE ru118 (k:=jM (k:=K5 (cj_block ?_))))
  refine cj_loop (σ:=Nat×Ent×Option Addr×Nat) (fun s=>[(0,ptr g.pb),(2,ptr b2),(3,ptr b3),(75,.slice p1 x.types.length c1),(76,.int .i64 (x.types.length:Nat)),(77,.int .i64 (s.1:Nat))])
   (fun s=>s.2.1::eI b3 tIP (cOP x (.slice s.2.2.1 s.1 s.2.2.2) (vN) (vN) (vN) (vN) (.slice pC x.comments.length cC) x.per)::eI b2 tIP zIP::[yC])
   (fun s _=>s.1≤x.types.length∧Own tTy 2 s.2.1 s.2.2.1 s.1 s.2.2.2 ((x.types.take s.1).flatMap cTyI)) (fun s=>x.types.length - s.1)
   (0,nilE tTy,none,0) sR (fun w' hH hf=>⟨Hp.off hH,Nat.zero_le _,Own.nil⟩) ?_
  rintro ⟨k1,y1,q1,d1⟩ w1 ⟨hk1,hO1⟩ hf1 hH1 KL1 hKL1
  try dsimp only at hk1 hO1
  refine C.begin _ _ hf1 hH1 ?_
  try dsimp only
  refine sQ fun K6=>cj_reg (jS (k:=K6 (sQ fun K7=>?_)))
  refine cj_dec rfl (fun h78=>?_) (fun h78=>?_)
  ·have hk':k1<x.types.length:=by omega
   obtain ⟨bq,rfl,hsq⟩:=hx1 (by omega)
   have hkb:k1<g.types.length:=by rw[hQ.types.1];exact hk'
   have hst:=hQ.types.2 _ _ _ (List.getElem?_eq_getElem hkb) (List.getElem?_eq_getElem hk')
   have hcell:∀w',Fm.ok ⟨w,w.heap.size,[]⟩ w'→w'.cell? ⟨bq,0+k1*1,none⟩=some (ptr g.types[k1]):=fun w' hf=>by
    have h:=hsq ⟨w,w.heap.size,[]⟩ rfl rfl w' hf k1 (ptr g.types[k1]) (by rw[List.getElem?_map,List.getElem?_eq_getElem hkb];rfl)
    simpa using h
   have hcm:=mc (f:=⟨w,w.heap.size,[]⟩) (T:=tVT) hst rfl
   refine cj_skip (K7 (sQ fun K8=>cj_block (sQ fun K9=>cj_reg (jJ ru118 so123 (k:=?_)))))
   refine j_valw rfl (fun a w ha hH hf=>r_load ag123 rfl (hcell w hf) ha) (jA (k:=K9 ?_))
   refine cj_drawI 14 (lts [0,1,2,3,4,5,6,7,8,9,10]++(11,false)::((12,false)::(lts [13]++(14,false)::[]))) [1] rfl (by kernel_rfl) (by kernel_rfl) (dF [1] 0 ru31 so22 (k:=dH [1] 0 ag22 (k:=dM [1] (k:=dN [1] (k:=dF [1] 0 ru127 so9 (k:=dL [1] ag9 hcm 0 (k:=dM [1] (k:=dN [1] (k:=dF [1] 1 ru127 so9 (k:=dL [1] ag9 hcm 1 (k:=?_)))))))))))
   refine dj_val rfl rfl (sub_of [1] rfl) (fun _ _ h=>r_build (cs:=[_,_]) bt29 rfl rfl h) (dE (h:=fun Kd=>j_bslice1 ru22 so29 zv29 rfl rfl rfl rfl rfl fun b92=>Kd (sb [2]) (dE (h:=fun Kd=>?_))))
   refine j_appO 0 rfl hO1 ru22 el29 rfl rfl rfl rfl rfl (by omega) rfl fun y93 p93 c93 hO93=>?_
   refine Kd (sb [1]) (dF [1] 0 ru31 so22 (k:=dE (h:=fun Kd=>jB [_,_,_,_,_,_,_,_,_,_,_,_,_,_] (_::_::_) 1 so22 (k:=Kd (.inl rfl) (K8 (CJ.t [(0,_),(2,_),(3,_),(75,_),(76,_),(77,_)] (k:=cj_reg (jI (k:=jM (k:=j_nil (ej_then ?_)))))))))))
   exact fun w' hH hf=>hKL1 (k1+1,y93,p93,c93) _ w' ⟨hk',by rw[take_flat hk'];exact hO93⟩ hf hH (by simp only;omega) sR
  ·have hke1:k1=x.types.length:=by omega
   rw[List.take_of_length_le (by omega)]at hO1
   refine cj_exit (K4 (sQ fun K10=>sQ fun K11=>cj_reg (jM (k:=jN (k:=jF 3 ru125 so120 (k:=jL ag120 hc0 3 (k:=jE ru120 (k:=jM (k:=K11 (cj_block ?_))))))))))
   refine cj_loop (σ:=Nat×Ent×Option Addr×Nat) (fun s=>[(0,ptr g.pb),(2,ptr b2),(3,ptr b3),(99,.slice p3 x.mappings.length c3),(100,.int .i64 (x.mappings.length:Nat)),(101,.int .i64 (s.1:Nat))])
    (fun s=>s.2.1::eI b3 tIP (cOP x (.slice q1 k1 d1) (vN) (.slice s.2.2.1 s.1 s.2.2.2) (vN) (vN) (.slice pC x.comments.length cC) x.per)::eI b2 tIP zIP::y1::[yC])
    (fun s _=>s.1≤x.mappings.length∧Own tMp 10 s.2.1 s.2.2.1 s.1 s.2.2.2 ((x.mappings.take s.1).flatMap cMpI)) (fun s=>x.mappings.length - s.1)
    (0,nilE tMp,none,0) sR (fun w' hH hf=>⟨Hp.off (Hp.rot3 hH),Nat.zero_le _,Own.nil⟩) ?_
   rintro ⟨k3,y3,q3,d3⟩ w3 ⟨hk3,hO3⟩ hf3 hH3 KL3 hKL3
   try dsimp only at hk3 hO3
   refine C.begin _ _ hf3 hH3 ?_
   try dsimp only
   refine sQ fun K12=>cj_reg (jS (k:=K12 (sQ fun K13=>?_)))
   refine cj_dec rfl (fun h102=>?_) (fun h102=>?_)
   ·have hk':k3<x.mappings.length:=by omega
    obtain ⟨bq,rfl,hsq⟩:=hx3 (by omega)
    have hkb:k3<g.maps.length:=by rw[hQ.maps.1];exact hk'
    have hst:=hQ.maps.2 _ _ _ (List.getElem?_eq_getElem hkb) (List.getElem?_eq_getElem hk')
    have hcell:∀w',Fm.ok ⟨w,w.heap.size,[]⟩ w'→w'.cell? ⟨bq,0+k3*1,none⟩=some (ptr g.maps[k3]):=fun w' hf=>by
     have h:=hsq ⟨w,w.heap.size,[]⟩ rfl rfl w' hf k3 (ptr g.maps[k3]) (by rw[List.getElem?_map,List.getElem?_eq_getElem hkb];rfl)
     simpa using h
    have hcm:=mc (f:=⟨w,w.heap.size,[]⟩) (T:=tMap) hst rfl
    refine cj_skip (K13 (sQ fun K14=>cj_block (sQ fun K15=>cj_reg (jJ ru120 so128 (k:=?_)))))
    refine j_valw rfl (fun a w ha hH hf=>r_load ag128 rfl (hcell w hf) ha) (jA (k:=K15 ?_))
    refine cj_drawI 46 (lts [0,1,2,3,4,5,6,7,8,9,10,11,12,13,14,15,16,17,18,19,20,21,22,23,24,25,26,27,28,29,30,31,32,33,34,35,36,37,38,39,40,41,42]++(43,false)::((44,false)::(lts [45]++(46,false)::[]))) [1] rfl (by kernel_rfl) (by kernel_rfl) (dF [1] 3 ru31 so24 (k:=dH [1] 0 ag24 (k:=dM [1] (k:=dN [1] (k:=dF [1] 0 ru130 so71 (k:=dL [1] ag71 hcm 0 (k:=dM [1] (k:=dN [1] (k:=dF [1] 1 ru130 so71 (k:=dL [1] ag71 hcm 1 (k:=dM [1] (k:=dN [1] (k:=dF [1] 2 ru130 so71 (k:=?_))))))))))))))
    refine dL [1] ag71 hcm 2 (k:=dM [1] (k:=dN [1] (k:=dF [1] 3 ru130 so71 (k:=dL [1] ag71 hcm 3 (k:=dM [1] (k:=dN [1] (k:=dF [1] 4 ru130 so9 (k:=dL [1] ag9 hcm 4 (k:=dM [1] (k:=dN [1] (k:=dF [1] 5 ru130 so9 (k:=dL [1] ag9 hcm 5 (k:=dM [1] (k:=?_))))))))))))))
    refine dN [1] (k:=dF [1] 6 ru130 so4 (k:=dL [1] ag4 hcm 6 (k:=dM [1] (k:=dN [1] (k:=dF [1] 7 ru130 so4 (k:=dL [1] ag4 hcm 7 (k:=dM [1] (k:=dN [1] (k:=dF [1] 8 ru130 so4 (k:=dL [1] ag4 hcm 8 (k:=dM [1] (k:=dN [1] (k:=dF [1] 9 ru130 so4 (k:=?_))))))))))))))
    refine dL [1] ag4 hcm 9 (k:=?_)
    refine dj_val rfl rfl (sub_of [1] rfl) (fun _ _ h=>r_build (cs:=[_,_,_,_,_,_,_,_,_,_]) bt73 rfl rfl h) (dE (h:=fun Kd=>j_bslice1 ru24 so73 zv73 rfl rfl rfl rfl rfl fun b148=>Kd (sb [2]) (dE (h:=fun Kd=>?_))))
    refine j_appO 0 rfl hO3 ru24 el73 rfl rfl rfl rfl rfl (by omega) rfl fun y149 p149 c149 hO149=>?_
    refine Kd (sb [1]) (dF [1] 3 ru31 so24 (k:=dE (h:=fun Kd=>jB [_,_,_,_,_,_,_,_,_,_,_,_,_,_] (_::_::_) 1 so24 (k:=Kd (.inl rfl) (K14 (CJ.t [(0,_),(2,_),(3,_),(99,_),(100,_),(101,_)] (k:=cj_reg (jI (k:=jM (k:=j_nil (ej_then ?_)))))))))))
    exact fun w' hH hf=>hKL3 (k3+1,y149,p149,c149) _ w' ⟨hk',by rw[take_flat hk'];exact hO149⟩ hf hH (by simp only;omega) sR
   ·have hke3:k3=x.mappings.length:=by omega
    rw[List.take_of_length_le (by omega)]at hO3
    refine cj_exit (K10 (sQ fun K16=>sQ fun K17=>cj_reg (jM (k:=jN (k:=jF 5 ru125 so122 (k:=jL ag122 hc0 5 (k:=jE ru122 (k:=jM (k:=K17 (cj_block ?_))))))))))
    refine cj_loop (σ:=Nat×Ent×Option Addr×Nat) (fun s=>[(0,ptr g.pb),(2,ptr b2),(3,ptr b3),(155,.slice p5 x.funcs.length c5),(156,.int .i64 (x.funcs.length:Nat)),(157,.int .i64 (s.1:Nat))])
     (fun s=>s.2.1::eI b3 tIP (cOP x (.slice q1 k1 d1) (vN) (.slice q3 k3 d3) (vN) (.slice s.2.2.1 s.1 s.2.2.2) (.slice pC x.comments.length cC) x.per)::eI b2 tIP zIP::y3::y1::[yC])
     (fun s _=>s.1≤x.funcs.length∧Own tFn 5 s.2.1 s.2.2.1 s.1 s.2.2.2 ((x.funcs.take s.1).flatMap cFnI)) (fun s=>x.funcs.length - s.1)
     (0,nilE tFn,none,0) sR (fun w' hH hf=>⟨Hp.off (Hp.rot3 hH),Nat.zero_le _,Own.nil⟩) ?_
    rintro ⟨k5,y5,q5,d5⟩ w5 ⟨hk5,hO5⟩ hf5 hH5 KL5 hKL5
    try dsimp only at hk5 hO5
    refine C.begin _ _ hf5 hH5 ?_
    try dsimp only
    refine sQ fun K18=>cj_reg (jS (k:=K18 (sQ fun K19=>?_)))
    refine cj_dec rfl (fun h158=>?_) (fun h158=>?_)
    ·have hk':k5<x.funcs.length:=by omega
     obtain ⟨bq,rfl,hsq⟩:=hx5 (by omega)
     have hkb:k5<g.funs.length:=by rw[hQ.funs.1];exact hk'
     have hst:=hQ.funs.2 _ _ _ (List.getElem?_eq_getElem hkb) (List.getElem?_eq_getElem hk')
     have hcell:∀w',Fm.ok ⟨w,w.heap.size,[]⟩ w'→w'.cell? ⟨bq,0+k5*1,none⟩=some (ptr g.funs[k5]):=fun w' hf=>by
      have h:=hsq ⟨w,w.heap.size,[]⟩ rfl rfl w' hf k5 (ptr g.funs[k5]) (by rw[List.getElem?_map,List.getElem?_eq_getElem hkb];rfl)
      simpa using h
     have hcm:=mc (f:=⟨w,w.heap.size,[]⟩) (T:=tFun) hst rfl
     refine cj_skip (K19 (sQ fun K20=>cj_block (sQ fun K21=>cj_reg (jJ ru122 so131 (k:=?_)))))
     refine j_valw rfl (fun a w ha hH hf=>r_load ag131 rfl (hcell w hf) ha) (jA (k:=K21 ?_))
     refine cj_drawI 26 (lts [0,1,2,3,4,5,6,7,8,9,10,11,12,13,14,15,16,17,18,19,20,21,22]++(23,false)::((24,false)::(lts [25]++(26,false)::[]))) [1] rfl (by kernel_rfl) (by kernel_rfl) (dF [1] 5 ru31 so26 (k:=dH [1] 0 ag26 (k:=dM [1] (k:=dN [1] (k:=dF [1] 0 ru133 so71 (k:=dL [1] ag71 hcm 0 (k:=dM [1] (k:=dN [1] (k:=dF [1] 1 ru133 so9 (k:=dL [1] ag9 hcm 1 (k:=dM [1] (k:=dN [1] (k:=dF [1] 2 ru133 so9 (k:=?_))))))))))))))
     refine dL [1] ag9 hcm 2 (k:=dM [1] (k:=dN [1] (k:=dF [1] 3 ru133 so9 (k:=dL [1] ag9 hcm 3 (k:=dM [1] (k:=dN [1] (k:=dF [1] 4 ru133 so2 (k:=dL [1] ag2 hcm 4 (k:=?_)))))))))
     refine dj_val rfl rfl (sub_of [1] rfl) (fun _ _ h=>r_build (cs:=[_,_,_,_,_]) bt80 rfl rfl h) (dE (h:=fun Kd=>j_bslice1 ru26 so80 zv80 rfl rfl rfl rfl rfl fun b184=>Kd (sb [2]) (dE (h:=fun Kd=>?_))))
     refine j_appO 0 rfl hO5 ru26 el80 rfl rfl rfl rfl rfl (by omega) rfl fun y185 p185 c185 hO185=>?_
     refine Kd (sb [1]) (dF [1] 5 ru31 so26 (k:=dE (h:=fun Kd=>jB [_,_,_,_,_,_,_,_,_,_,_,_,_,_] (_::_::_) 1 so26 (k:=Kd (.inl rfl) (K20 (CJ.t [(0,_),(2,_),(3,_),(155,_),(156,_),(157,_)] (k:=cj_reg (jI (k:=jM (k:=j_nil (ej_then ?_)))))))))))
     exact fun w' hH hf=>hKL5 (k5+1,y185,p185,c185) _ w' ⟨hk',by rw[take_flat hk'];exact hO185⟩ hf hH (by simp only;omega) sR
    ·have hke5:k5=x.funcs.length:=by omega
     rw[List.take_of_length_le (by omega)]at hO5
     refine cj_exit (K16 (sQ fun K22=>sQ fun K23=>cj_reg (jM (k:=jN (k:=jF 4 ru125 so121 (k:=jL ag121 hc0 4 (k:=jE ru121 (k:=jM (k:=K23 (cj_block ?_))))))))))
     refine cj_loop (σ:=Nat×Ent×Option Addr×Nat×List (PLoc×Value)×Heap) (fun s=>[(0,ptr g.pb),(2,ptr b2),(3,ptr b3),(191,.slice p4 x.locs.length c4),(192,.int .i64 (x.locs.length:Nat)),(193,.int .i64 (s.1:Nat))])
      (fun s=>s.2.1::eI b3 tIP (cOP x (.slice q1 k1 d1) (vN) (.slice q3 k3 d3) (.slice s.2.2.1 s.1 s.2.2.2.1) (.slice q5 k5 d5) (.slice pC x.comments.length cC) x.per)::eI b2 tIP zIP::s.2.2.2.2.2)
      (fun s _=>s.1≤x.locs.length∧s.2.2.2.2.1.map (·.1)=x.locs.take s.1∧Own tLc 4 s.2.1 s.2.2.1 s.1 s.2.2.2.1 (s.2.2.2.2.1.flatMap cLcI)∧(∀q∈s.2.2.2.2.1,∃z∈s.2.2.2.2.2,∃p c,q.2=.slice p q.1.lines.length c∧Own tLn 2 z p q.1.lines.length c (q.1.lines.flatMap cLnI))∧∀z∈[y5,y3,y1,yC],z∈s.2.2.2.2.2) (fun s=>x.locs.length - s.1)
      (0,nilE tLc,none,0,[],[y5,y3,y1,yC]) sR (fun w' hH hf=>⟨Hp.off (Hp.rot3 hH),Nat.zero_le _,rfl,Own.nil,fun q hq=>(by cases hq),fun z hz=>hz⟩) ?_
     rintro ⟨k4,y4,q4,d4,lq,RL⟩ w4 ⟨hk4,hlq,hO4,hLQ,hRL⟩ hf4 hH4 KL4 hKL4
     try dsimp only at hk4 hlq hO4 hLQ hRL
     refine C.begin _ _ hf4 hH4 ?_
     try dsimp only
     refine sQ fun K24=>cj_reg (jS (k:=K24 (sQ fun K25=>?_)))
     refine cj_dec rfl (fun h194=>?_) (fun h194=>?_)
     ·have hk':k4<x.locs.length:=by omega
      obtain ⟨bq,rfl,hsq⟩:=hx4 (by omega)
      have hkb:k4<g.locs.length:=by rw[hQ.locs.1];exact hk'
      obtain ⟨lsv,hst,hls⟩:=(hQ.locs.2 _ _ _ (List.getElem?_eq_getElem hkb) (List.getElem?_eq_getElem hk')).ex
      obtain ⟨pL,lL,cL,rfl,hlL, -,hLx⟩:=hls.openF
      obtain rfl:lL=x.locs[k4].lines.length:=by rw[flatMap_len (c:=cLine g.funs) (sz:=3) (fun _=>rfl)]at hlL;omega
      have hcell:∀w',Fm.ok ⟨w,w.heap.size,[]⟩ w'→w'.cell? ⟨bq,0+k4*1,none⟩=some (ptr g.locs[k4]):=fun w' hf=>by
       have h:=hsq ⟨w,w.heap.size,[]⟩ rfl rfl w' hf k4 (ptr g.locs[k4]) (by rw[List.getElem?_map,List.getElem?_eq_getElem hkb];rfl)
       simpa using h
      have hcl:=mc (f:=⟨w,w.heap.size,[]⟩) (T:=tLoc) hst rfl
      obtain ⟨⟨hm1,hm2⟩,hl60,hln⟩:=hx.tab.locs _ (List.getElem_mem hk')
      refine cj_skip (K25 (sQ fun K26=>cj_block (sQ fun K27=>cj_reg (jJ ru121 so134 (k:=?_)))))
      refine j_valw rfl (fun a w ha hH hf=>r_load ag134 rfl (hcell w hf) ha) (jA (k:=K27 ?_))
      refine cj_seqJ ((fun b12:Nat=>[(0,ptr g.pb),(2,ptr b2),(3,ptr b3),(11,ptr g.locs[k4]),(12,ptr b12),(191,.slice (some ⟨bq,0,none⟩) x.locs.length c4),(192,.int .i64 (x.locs.length:Nat)),(193,.int .i64 (k4:Nat))])) ((fun b12:Nat=>eI b12 tLc [.int .u64 x.locs[k4].id,.int .i64 x.locs[k4].mapping,.int .u64 x.locs[k4].addr,vN]::y4::eI b3 tIP (cOP x (.slice q1 k1 d1) (vN) (.slice q3 k3 d3) (.slice q4 k4 d4) (.slice q5 k5 d5) (.slice pC x.comments.length cC) x.per)::eI b2 tIP zIP::RL)) (fun KJ hKJ=>?_) (fun b12=>?_)
      ·refine cj_drawF 20 18 (lts [0,1,2,3,4,5,6,7,8,9,10,11,13,14,15,16]++(12,false)::(lts [17]++(18,false)::(19,false)::[])) [] rfl (by kernel_rfl) (by kernel_rfl) ?_
       refine df_val rfl rfl (sub_of [] rfl) (fun _ _ h=>r_move rfl h) (df_val rfl rfl (sub_of [] rfl) (fun _ _ h=>r_nil rfl h) (df_val rfl rfl (sub_of [] rfl) (fun _ _ h=>r_fl (q:=0) (ft:=71) ru137 rfl so71 rfl h) (df_ld rfl rfl (sub_of [] rfl) (fun a w ha hS=>r_load ag71 rfl (hcl w (hS.2) 0 _ rfl) ha) (df_val rfl rfl (sub_of [] rfl) (fun _ _ h=>r_move rfl h) (df_val rfl rfl (sub_of [] rfl) (fun _ _ h=>r_nil rfl h) (df_val rfl rfl (sub_of [] rfl) (fun _ _ h=>r_fl (q:=3) (ft:=120) ru125 rfl so120 rfl h) (df_ld rfl rfl (sub_of [] rfl) (fun a w ha hS=>r_load ag120 rfl (hc0 w (hS.2) 3 _ rfl) ha) (df_val rfl rfl (sub_of [] rfl) (fun _ _ h=>r_move rfl h) (df_val rfl rfl (sub_of [] rfl) (fun _ _ h=>r_nil rfl h) (df_val rfl rfl (sub_of [] rfl) (fun _ _ h=>r_fl (q:=1) (ft:=128) ru137 rfl so128 rfl h) (df_ld rfl rfl (sub_of [] rfl) (fun a w ha hS=>r_load ag128 rfl (hcl w (hS.2) 1 _ rfl) ha) (df_val rfl rfl (sub_of [] rfl) (fun _ _ h=>r_move rfl h) (df_val rfl rfl (sub_of [] rfl) (fun _ _ h=>r_nil rfl h) ?_)))))))))))))
       refine df_val rfl rfl (sub_of [] rfl) (fun _ _ h=>r_fl (q:=2) (ft:=71) ru137 rfl so71 rfl h) (df_ld rfl rfl (sub_of [] rfl) (fun a w ha hS=>r_load ag71 rfl (hcl w (hS.2) 2 _ rfl) ha) ?_)
       refine df_fork rfl rfl rfl (fun K2 hK2=>?_) (fun K2 hK2=>?_)
       ·refine j_allocA (zs:=[(.int .u64 0),(.int .i64 0),(.int .u64 0),(.slice none 0 0)]) zv77 rfl fun b12=>j_nil (ej_then (hK2 _ _ (sub_of [] rfl) ?_));clear hK2 K2
        refine dE (h:=fun Kd=>?_)
        refine j_callQ (φ:=fun v=>v=.int .i64 x.locs[k4].mapping) Tryz.call66 rfl rfl (fun w3 hH hf=>idxM_c w3 g.maps _ x.locs[k4].mapping (hma.mono (fr_row hf rfl)) (fun b hb=>by obtain ⟨cs,h⟩:=hBm b hb;exact ⟨cs,fr_row hf rfl _ _ h⟩) hQ.nmaps hm1 (by rw[hQ.maps.1];exact hm2) (by rw[hQ.maps.1];omega)) fun v hv=>?_
        subst hv
        refine Kd (sb []) (dj_val rfl rfl (sub_of [] rfl) (fun _ _ h=>r_build (cs:=[_,_,_,(.slice none 0 0)]) bt77 rfl rfl h) (dE (h:=fun Kd=>jB [_,_,_,_] (_::_::_::_::_) 0 so77 (k:=Kd (sb []) (dj_end ?_)))))
        exact ej_then (hKJ b12 _ _ ⟨rfl,rfl,rfl,rfl,rfl,rfl,rfl,rfl,trivial⟩ fun w h=>h)
       ·refine j_callQ (φ:=fun v=>v=.int .i64 x.locs[k4].mapping) Tryz.call66 rfl rfl (fun w3 hH hf=>idxM_c w3 g.maps _ x.locs[k4].mapping (hma.mono (fr_row hf rfl)) (fun b hb=>by obtain ⟨cs,h⟩:=hBm b hb;exact ⟨cs,fr_row hf rfl _ _ h⟩) hQ.nmaps hm1 (by rw[hQ.maps.1];exact hm2) (by rw[hQ.maps.1];omega)) fun v hv=>?_
        subst hv
        refine j_nil (ej_then (hK2 _ _ (sub_of [] rfl) ?_));clear hK2 K2
        refine df_val rfl rfl (sub_of [] rfl) (fun _ _ h=>r_build (cs:=[_,_,_,(.slice none 0 0)]) bt77 rfl rfl h) ?_
        refine df_al rfl fun K2 hK2=>?_
        refine j_allocA (zs:=[(.int .u64 0),(.int .i64 0),(.int .u64 0),(.slice none 0 0)]) zv77 rfl fun b12=>j_nil (ej_then (hK2 _ _ (sub_of [] rfl) ?_));clear hK2 K2
        refine dE (h:=fun Kd=>jB [_,_,_,_] (_::_::_::_::_) 0 so77 (k:=Kd (sb []) (dj_end ?_)))
        exact ej_then (hKJ b12 _ _ ⟨rfl,rfl,rfl,rfl,rfl,rfl,rfl,rfl,trivial⟩ fun w h=>h)
      ·refine sQ fun K28=>sQ fun K29=>cj_reg (jM (k:=jN (k:=jF 3 ru137 so135 (k:=jL ag135 hcl 3 (k:=jE ru135 (k:=jM (k:=K29 (CJ.t [(0,_),(2,_),(3,_),(12,_),(191,_),(192,_),(193,_),(218,_),(219,_),(220,_)] (k:=cj_block ?_)))))))))
       refine cj_loop (σ:=Nat×Ent×Option Addr×Nat) (fun s=>[(0,ptr g.pb),(2,ptr b2),(3,ptr b3),(12,ptr b12),(191,.slice (some ⟨bq,0,none⟩) x.locs.length c4),(192,.int .i64 (x.locs.length:Nat)),(193,.int .i64 (k4:Nat)),(218,.slice pL x.locs[k4].lines.length cL),(219,.int .i64 (x.locs[k4].lines.length:Nat)),(220,.int .i64 (s.1:Nat))])
        (fun s=>s.2.1::eI b12 tLc [.int .u64 x.locs[k4].id,.int .i64 x.locs[k4].mapping,.int .u64 x.locs[k4].addr,.slice s.2.2.1 s.1 s.2.2.2]::y4::eI b3 tIP (cOP x (.slice q1 k1 d1) (vN) (.slice q3 k3 d3) (.slice q4 k4 d4) (.slice q5 k5 d5) (.slice pC x.comments.length cC) x.per)::eI b2 tIP zIP::RL)
        (fun s _=>s.1≤x.locs[k4].lines.length∧Own tLn 2 s.2.1 s.2.2.1 s.1 s.2.2.2 ((x.locs[k4].lines.take s.1).flatMap cLnI)) (fun s=>x.locs[k4].lines.length - s.1)
        (0,nilE tLn,none,0) sR (fun w' hH hf=>⟨Hp.off hH,Nat.zero_le _,Own.nil⟩) ?_
       rintro ⟨j,yj,qj,dj⟩ wj ⟨hj,hOj⟩ hfj hHj KLj hKLj
       try dsimp only at hj hOj
       refine C.begin _ _ hfj hHj ?_
       try dsimp only
       refine sQ fun K30=>cj_reg (jS (k:=K30 (sQ fun K31=>?_)))
       refine cj_dec rfl (fun h221=>?_) (fun h221=>?_)
       ·have hj':j<x.locs[k4].lines.length:=by omega
        obtain ⟨bl,rfl,hlc⟩:=hLx (by omega)
        obtain ⟨hfn1,hfn2⟩:=hln _ (List.getElem_mem hj')
        have hcr:∀w',Fm.ok ⟨w,w.heap.size,[]⟩ w'→∀(i:Nat) (u:Value),(cLine g.funs x.locs[k4].lines[j])[i]? =some u→w'.cell? ⟨bl,0+j*3+i,none⟩=some u:=fun w' hf i u hu=>by rw[Nat.zero_add];exact hlc ⟨w,w.heap.size,[]⟩ rfl rfl w' hf _ _ (flatMap_get (c:=cLine g.funs) (sz:=3) (fun _=>rfl) (List.getElem?_eq_getElem hj') i u hu)
        refine cj_skip (K31 (sQ fun K32=>cj_block (sQ fun K33=>cj_reg (jJ ru135 so140 (k:=?_)))))
        refine j_valw rfl (fun a w ha hH hf=>r_loadA (vs:=cLine g.funs x.locs[k4].lines[j]) ag140 so140 rfl rfl (hcr w hf) ha) (j_allocA (zs:=[(.pointer none),(.int .i64 0),(.int .u64 0)]) zv140 rfl fun b14=>jB [_,_,_] (_::_::_::_::_::_::_) 0 so140 (k:=K33 ?_))
        refine cj_drawI 15 (lts [0,1,2,3,4,5,6,7,9,10]++(8,false)::(lts [11]++(12,false)::((13,false)::(lts [14]++(15,false)::[])))) [2,0] rfl (by kernel_rfl) (by kernel_rfl) (dF [2,0] 3 ru77 so75 (k:=dH [2,0] 0 ag75 (k:=dM [2,0] (k:=dN [2,0] (k:=dF [2,0] 5 ru125 so122 (k:=dL [2,0] ag122 hc0 5 (k:=dF [2,0] 0 ru140 so131 (k:=dH [2,0] 1 ag131 (k:=dF [2,0] 1 ru140 so2 (k:=dH [2,0] 1 ag2 (k:=dE (h:=fun Kd=>?_))))))))))))
        refine j_callQ (φ:=fun v=>v=.int .i64 x.locs[k4].lines[j].fn) Tryz.call67 rfl rfl (fun w3 hH hf=>idxF_c w3 g.funs _ x.locs[k4].lines[j].fn (hfu.mono (fr_row hf rfl)) (fun b hb=>by obtain ⟨cs,h⟩:=hBf b hb;exact ⟨cs,fr_row hf rfl _ _ h⟩) hQ.nfuns hfn1 (by rw[hQ.funs.1];exact hfn2) (by rw[hQ.funs.1];omega)) fun v hv=>?_
        subst hv
        refine Kd (sb [2,0]) (dj_val rfl rfl (sub_of [2,0] rfl) (fun _ _ h=>r_build (cs:=[_,_]) bt114 rfl rfl h) (dE (h:=fun Kd=>j_bslice1 ru75 so114 zv114 rfl rfl rfl rfl rfl fun b236=>Kd (sb [3,1]) (dE (h:=fun Kd=>?_)))))
        refine j_appO 1 rfl hOj ru75 el114 rfl rfl rfl rfl rfl (by omega) rfl fun y237 p237 c237 hO237=>?_
        refine Kd (sb [2,0]) (dF [2,0] 3 ru77 so75 (k:=dE (h:=fun Kd=>jB [_,_,_,_] (_::_::_::_::_::_::_) 2 so75 (k:=Kd (.inl rfl) (K32 (CJ.t [(0,_),(2,_),(3,_),(12,_),(191,_),(192,_),(193,_),(218,_),(219,_),(220,_)] (k:=cj_reg (jI (k:=jM (k:=j_nil (ej_then ?_)))))))))))
        exact fun w' hH hf=>hKLj (j+1,y237,p237,c237) _ w' ⟨hj',by rw[take_flat hj'];exact hO237⟩ hf (hH.drop 0) (by simp only;omega) sR
       ·have hje:j=x.locs[k4].lines.length:=by omega
        subst hje
        rw[List.take_of_length_le (Nat.le_refl _)]at hOj
        clear hKLj hj h221
        refine cj_exit (K28 (cj_reg (jF 4 ru31 so25 (k:=jH 3 ag25 (k:=?_)))))
        refine j_valw rfl (fun a w ha hH hf=>r_ldA (vs:=[_,_,_,_]) 1 rfl rfl ag77 so77 rfl rfl rfl ha hH) (j_bslice1 ru25 so77 zv77 rfl rfl rfl rfl rfl fun b243=>?_)
        refine j_appO 2 rfl hO4 ru25 el77 rfl rfl rfl rfl rfl (by omega) rfl fun y244 p244 c244 hO244=>?_
        refine jF 4 ru31 so25 (k:=jB [_,_,_,_,_,_,_,_,_,_,_,_,_,_] (_::_::_::_::_::_) 3 so25 (k:=K26 (cj_reg (jI (k:=jM (k:=j_nil (ej_then ?_)))))))
        exact fun w' hH hf=>hKL4 (k4+1,y244,p244,c244,lq++[(x.locs[k4],.slice qj x.locs[k4].lines.length dj)],yj::RL) _ w' ⟨hk',by rw[List.map_append,hlq, ← List.take_append_getElem hk'];rfl,by rw[List.flatMap_append];exact hO244,fun q hq=>by
          rcases List.mem_append.1 hq with hq|hq
          ·obtain ⟨z,hz,h⟩:=hLQ q hq
           exact ⟨z,List.mem_cons_of_mem _ hz,h⟩
          ·simp at hq;subst hq
           exact ⟨yj,List.Mem.head _,qj,dj,rfl,hOj⟩,fun z hz=>List.mem_cons_of_mem _ (hRL z hz)⟩ hf (Hp.rot4 (hH.drop 1)) (by simp only;omega) ⟨rfl,rfl,rfl,rfl,rfl,rfl,trivial⟩
     ·have hke4:k4=x.locs.length:=by omega
      subst hke4
      rw[List.take_of_length_le (Nat.le_refl _)]at hlq
      clear hKL4 hk4 h194
      refine cj_exit (K22 (CJ.t [(0,_),(2,_),(3,_)] (k:=sQ fun K34=>sQ fun K35=>cj_reg (jM (k:=jN (k:=jF 2 ru125 so119 (k:=jL ag119 hc0 2 (k:=jE ru119 (k:=jM (k:=K35 (cj_block ?_)))))))))))
      intro v5 hH5' hf5'
      have hPV:PV v5 x (.slice q1 k1 d1) (.slice q3 k3 d3) (.slice q5 k5 d5) (.slice q4 x.locs.length d4) (.slice pC x.comments.length cC):=⟨?h1,?h2,?h3,⟨lq,hlq,hO4.os hH5' (i:=0) rfl,fun q hq=>?h4⟩,?h5⟩
      case h1=>exact Own.osM hO1 hH5' (by simp only[List.mem_cons];exact .inr (.inr (.inr (hRL y1 (by simp)))))
      case h2=>exact Own.osM hO3 hH5' (by simp only[List.mem_cons];exact .inr (.inr (.inr (hRL y3 (by simp)))))
      case h3=>exact Own.osM hO5 hH5' (by simp only[List.mem_cons];exact .inr (.inr (.inr (hRL y5 (by simp)))))
      case h4=>
       obtain ⟨z,hz,p,c,e,h⟩:=hLQ q hq
       rw[e]
       exact Own.osM h hH5' (by simp only[List.mem_cons];exact .inr (.inr (.inr hz)))
      case h5=>exact Own.osM hOC hH5' (by simp only[List.mem_cons];exact .inr (.inr (.inr (hRL yC (by simp)))))
      refine c_loop (σ:=Nat×List (PSample×SV)×Ent×Option Addr×Nat) (fun s=>[(0,ptr g.pb),(2,ptr b2),(3,ptr b3),(250,.slice p2 x.samples.length c2),(251,.int .i64 (x.samples.length:Nat)),(252,.int .i64 (s.1:Nat))])
       (fun s w'=>s.1≤x.samples.length∧Hp ⟨w,w.heap.size,[]⟩ w' [s.2.2.1,eI b3 tIP (cOP x (.slice q1 k1 d1) (.slice s.2.2.2.1 s.1 s.2.2.2.2) (.slice q3 k3 d3) (.slice q4 x.locs.length d4) (.slice q5 k5 d5) (.slice pC x.comments.length cC) x.per),eI b2 tIP zIP]∧Fm.ok ⟨w,w.heap.size,[]⟩ w'∧PV w' x (.slice q1 k1 d1) (.slice q3 k3 d3) (.slice q5 k5 d5) (.slice q4 x.locs.length d4) (.slice pC x.comments.length cC)∧s.2.1.map (·.1)=x.samples.take s.1∧Own tSm 4 s.2.2.1 s.2.2.2.1 s.1 s.2.2.2.2 (s.2.1.flatMap cSmI)∧SmsV w' s.2.1) (fun s=>x.samples.length - s.1)
       (0,[],nilE tSm,none,0) sR ⟨Nat.zero_le _,Hp.off (Hp.head2 (hH5'.drop 0)),hf5',hPV,rfl,Own.nil,fun q hq=>(by cases hq)⟩ ?_
      clear hPV hH5' hf5'
      rintro ⟨k2,sq,y2,q2,d2⟩ u2 ⟨hk2,hHu,hfu,hPV,hsq2,hO2,hSM⟩ KL2 hKL2
      try dsimp only at hk2 hHu hfu hPV hsq2 hO2 hSM
      have hsz:w.heap.size≤u2.heap.size:=hfu.size
      have hc0:=mc (f:=⟨u2,w.heap.size,[tSm,tIP]⟩) (fr_row hfu rfl _ _ hpf) rfl
      refine C.begin ⟨u2,w.heap.size,[tSm,tIP]⟩ [y2,eI b3 tIP (cOP x (.slice q1 k1 d1) (.slice q2 k2 d2) (.slice q3 k3 d3) (.slice q4 x.locs.length d4) (.slice q5 k5 d5) (.slice pC x.comments.length cC) x.per),eI b2 tIP zIP] ok_refl (Hp.again (Nat.le_refl _) hHu (TagOK.own (.row (.row .nil rfl) rfl) hO2 rfl)) ?_
      try dsimp only
      refine sQ fun K36=>cj_reg (jS (k:=K36 (sQ fun K37=>?_)))
      refine cj_dec rfl (fun h253=>?_) (fun h253=>?_)
      ·have hk':k2<x.samples.length:=by omega
       obtain ⟨bq,rfl,hsq⟩:=hx2 (by omega)
       have hkb:k2<g.sams.length:=by rw[hQ.sams.1];exact hk'
       have hSQ:=hQ.sams.2 _ _ _ (List.getElem?_eq_getElem hkb) (List.getElem?_eq_getElem hk')
       have hSQu:SamQ u2 g.locs g.sams[k2] x.samples[k2]:=hSQ.mono (fun cs=>fr_row hfu rfl _ cs) (fr_row hfu rfl) (fr_row hfu rfl) (fr_row hfu rfl) fun b es ck h=>fr_mapE hfu rfl es ck h
       obtain ⟨ls,vs,lm,nm,iv,xv,hst,hls,hvs, -⟩:=id hSQu
       obtain ⟨pS,lS,cS,rfl,hlS, -,hSx⟩:=hls.openF
       obtain rfl:lS=x.samples[k2].stack.length:=by simpa using hlS.symm
       obtain ⟨pV,lV,cV,rfl,hlV, -, -⟩:=hvs.openF
       obtain rfl:lV=x.samples[k2].values.length:=by simpa using hlV.symm
       obtain ⟨hval, -,hs60,hLab,hsk⟩:=hx.samples _ (List.getElem_mem hk')
       have hcell:∀w',Fm.ok ⟨u2,w.heap.size,[tSm,tIP]⟩ w'→w'.cell? ⟨bq,0+k2*1,none⟩=some (ptr g.sams[k2]):=fun w' hf=>by
        have hfw:Fm.ok ⟨w,w.heap.size,[tSm,tIP]⟩ w':=Fr.trans (hfu.mono (.inl (Nat.le_refl _))) hf (.inl (Nat.le_refl _))
        have h:=hsq ⟨w,w.heap.size,[tSm,tIP]⟩ rfl rfl w' hfw k2 (ptr g.sams[k2]) (by rw[List.getElem?_map,List.getElem?_eq_getElem hkb];rfl)
        simpa using h
       have hcs:=mc (f:=⟨u2,w.heap.size,[tSm,tIP]⟩) (T:=tSam) hst rfl
       have hloU:OS pLoc 1 u2 _ (g.locs.map ptr):=hlo.mono (fr_row hfu rfl)
       have hBlU:∀b∈g.locs,∃cs,Blk u2 b tLoc cs:=fun b hb=>by obtain ⟨cs,h⟩:=hBl b hb;exact ⟨cs,fr_row hfu rfl _ _ h⟩
       refine cj_skip (K37 (sQ fun K38=>cj_block (sQ fun K39=>cj_reg (jJ ru119 so142 (k:=?_)))))
       refine j_valw rfl (fun a w ha hH hf=>r_load ag142 rfl (hcell w hf) ha) (jA (k:=K39 (sQ fun K40=>cj_reg ?_)))
       refine j_bslice0 ru53 so2 rfl fun b256=>jM (k:=jN (k:=jF 1 ru147 so53 (k:=jL ag53 hcs 1 (k:=?_))))
       refine j_appS 0 rfl Own.empty ru53 el2 rfl rfl rfl hvs rfl (fun z hz=>by obtain ⟨u, -,rfl⟩:=List.mem_map.1 hz;rfl) (by omega) rfl fun y261 p261 c261 hO261=>?_
       rw[Nat.zero_add,List.nil_append]at hO261
       refine j_eqv (u:=.slice p261 x.samples[k2].values.length c261) (by rw[Nat.zero_add]) ?_
       refine j_val rfl (fun _ _ h=>r_build (cs:=[(.slice none 0 0),_,(.slice none 0 0),(.slice none 0 0)]) bt57 rfl rfl h) (j_allocA (zs:=[(.slice none 0 0),(.slice none 0 0),(.slice none 0 0),(.slice none 0 0)]) zv57 rfl fun b17=>jB [_,_,_,_] (_::_::_::_::_::_) 0 so57 (k:=K40 (CJ.t [(0,_),(2,_),(3,_),(16,_),(17,_),(250,_),(251,_),(252,_)] (k:=sQ fun K41=>sQ fun K42=>cj_reg (jM (k:=jN (k:=jF 0 ru147 so121 (k:=jL ag121 hcs 0 (k:=jE ru121 (k:=jM (k:=?_)))))))))))
       refine K42 (cj_block ?_)
       refine cj_loop (σ:=Nat×Ent×Option Addr×Nat) (fun s=>[(0,ptr g.pb),(2,ptr b2),(3,ptr b3),(16,ptr g.sams[k2]),(17,ptr b17),(250,.slice (some ⟨bq,0,none⟩) x.samples.length c2),(251,.int .i64 (x.samples.length:Nat)),(252,.int .i64 (k2:Nat)),(266,.slice pS x.samples[k2].stack.length cS),(267,.int .i64 (x.samples[k2].stack.length:Nat)),(268,.int .i64 (s.1:Nat))])
        (fun s=>s.2.1::eI b17 tSm [.slice s.2.2.1 s.1 s.2.2.2,.slice p261 x.samples[k2].values.length c261,vN,vN]::y261::y2::eI b3 tIP (cOP x (.slice q1 k1 d1) (.slice q2 k2 d2) (.slice q3 k3 d3) (.slice q4 x.locs.length d4) (.slice q5 k5 d5) (.slice pC x.comments.length cC) x.per)::[eI b2 tIP zIP])
        (fun s _=>s.1≤x.samples[k2].stack.length∧Own tInt 1 s.2.1 s.2.2.1 s.1 s.2.2.2 ((x.samples[k2].stack.take s.1).map (.int .i64))) (fun s=>x.samples[k2].stack.length - s.1)
        (0,nilE tInt,none,0) sR (fun w' hH hf=>⟨Hp.off hH,Nat.zero_le _,Own.nil⟩) ?_
       rintro ⟨m,ym,qm,dm⟩ wm ⟨hm,hOm⟩ hfm hHm KLm hKLm
       try dsimp only at hm hOm
       refine C.begin _ _ hfm hHm ?_
       try dsimp only
       refine sQ fun K43=>cj_reg (jS (k:=K43 (sQ fun K44=>?_)))
       refine cj_dec rfl (fun h269=>?_) (fun h269=>?_)
       ·have hm':m<x.samples[k2].stack.length:=by omega
        obtain ⟨bi,rfl,hcx⟩:=hSx (by omega)
        obtain ⟨hz0,hzl⟩:=hsk _ (List.getElem_mem hm')
        have hci1:∀w',Fm.ok ⟨u2,w.heap.size,[tSm,tIP]⟩ w'→w'.cell? ⟨bi,0+m*1,none⟩=some (ptrAt g.locs x.samples[k2].stack[m]):=fun w' hf=>by
         have h:=hcx ⟨u2,w.heap.size,[tSm,tIP]⟩ rfl rfl w' hf m (ptrAt g.locs x.samples[k2].stack[m]) (by rw[List.getElem?_map,List.getElem?_eq_getElem hm'];rfl)
         simpa using h
        refine cj_skip (K44 (sQ fun K45=>cj_block (sQ fun K46=>cj_reg (jJ ru121 so134 (k:=?_)))))
        refine j_valw rfl (fun a w ha hH hf=>r_load ag134 rfl (hci1 w hf) ha) (jA (k:=K46 ?_))
        refine cj_drawI 11 (lts [0,1,2,3,4,5,6]++(7,false)::((8,false)::((9,false)::(lts [10]++(11,false)::[])))) [1] rfl (by kernel_rfl) (by kernel_rfl) (dF [1] 0 ru57 so32 (k:=dH [1] 0 ag32 (k:=dM [1] (k:=dN [1] (k:=dF [1] 4 ru125 so121 (k:=dL [1] ag121 hc0 4 (k:=dM [1] (k:=dE (h:=fun Kd=>?_)))))))))
        refine j_callQ (φ:=fun v=>v=.int .i64 x.samples[k2].stack[m]) Tryz.call68 rfl rfl (fun w3 hH hf=>idxL_c w3 g.locs _ x.samples[k2].stack[m] (hloU.mono (fr_row hf rfl)) (fun b hb=>by obtain ⟨cs,h⟩:=hBlU b hb;exact ⟨cs,fr_row hf rfl _ _ h⟩) hQ.nlocs (by omega) (by rw[hQ.locs.1];exact hzl) (by rw[hQ.locs.1];omega)) fun v hv=>?_
        subst hv
        refine Kd (sb [1]) (dE (h:=fun Kd=>j_bslice1 ru32 so3 zv3 rfl rfl rfl rfl rfl fun b280=>Kd (sb [2]) (dE (h:=fun Kd=>?_))))
        refine j_appO 0 rfl hOm ru32 el3 rfl rfl rfl rfl rfl (by omega) rfl fun y281 p281 c281 hO281=>?_
        refine Kd (sb [1]) (dF [1] 0 ru57 so32 (k:=dE (h:=fun Kd=>jB [_,_,_,_] (_::_::_::_::_::_::_) 1 so32 (k:=Kd (.inl rfl) (K45 (CJ.t [(0,_),(2,_),(3,_),(16,_),(17,_),(250,_),(251,_),(252,_),(266,_),(267,_),(268,_)] (k:=cj_reg (jI (k:=jM (k:=j_nil (ej_then ?_)))))))))))
        exact fun w' hH hf=>hKLm (m+1,y281,p281,c281) _ w' ⟨hm',by rw[← List.take_append_getElem hm',List.map_append];exact hO281⟩ hf hH (by simp only;omega) sR
       ·have hme:m=x.samples[k2].stack.length:=by omega
        subst hme
        rw[List.take_of_length_le (Nat.le_refl _)]at hOm
        clear hKLm hm h269
        refine cj_exit (K41 (sQ fun K47=>cj_reg (jM (k:=?_))))
        refine j_callE (R:=fun w1 v w2=>(∃vt vn,v=.tuple #[vt,vn]∧TxV w2 vt x.samples[k2]∧NuV w2 vn x.samples[k2])∧Fr 0 [] w1 w2) Tryz.call69 rfl rfl (fun w1 hH hf=>labels_c w1 g.locs g.sams[k2] x.samples[k2] (hSQu.mono (fun cs=>fr_row hf rfl _ cs) (fr_row hf rfl) (fr_row hf rfl) (fr_row hf rfl) fun b es ck h=>fr_mapE hf rfl es ck h) hLab) fun w1 v w2 hH1 hf1 hR=>?_
        obtain ⟨⟨vt,vn,rfl,hTx,hNu⟩,hf12⟩:=hR
        obtain ⟨pt9,lt9,ct9,rfl⟩:∃p l c,vt=.slice p l c:=by obtain ⟨_,⟨_,p,l,c,e,_⟩,_⟩:=hTx;exact ⟨p,l,c,e⟩
        obtain ⟨pn9,ln9,cn9,rfl⟩:∃p l c,vn=.slice p l c:=by obtain ⟨_,⟨_,p,l,c,e,_⟩,_⟩:=hNu;exact ⟨p,l,c,e⟩
        have hH2:=hH1.fr hf12
        have hfu2:Fm.ok ⟨u2,w.heap.size,[tSm,tIP]⟩ w2:=hf1.fr hf12
        have hst4:OS tInt 1 w2 (.slice qm x.samples[k2].stack.length dm) (x.samples[k2].stack.map (.int .i64)):=hOm.os hH2 (i:=0) rfl
        have hvs4:OS tI64 1 w2 (.slice p261 x.samples[k2].values.length c261) (x.samples[k2].values.map (.int .i64)):=hO261.os hH2 (i:=2) rfl
        refine J.begin ⟨w2,w.heap.size,[tSm,tIP]⟩ [eI b17 tSm [.slice qm x.samples[k2].stack.length dm,.slice p261 x.samples[k2].values.length c261,vN,vN],y2,eI b3 tIP (cOP x (.slice q1 k1 d1) (.slice q2 k2 d2) (.slice q3 k3 d3) (.slice q4 x.locs.length d4) (.slice q5 k5 d5) (.slice pC x.comments.length cC) x.per),eI b2 tIP zIP] ok_refl (Hp.again hsz ((hH2.drop 0).drop 1) (TagOK.row (TagOK.own (.row (.row .nil rfl) rfl) hO2 rfl) rfl)) ?_
        refine jM (k:=jX (k:=jX (k:=jF 2 ru57 so54 (k:=jB [_,_,_,_] (_::_::_::_::_) 0 so54 (k:=jF 3 ru57 so55 (k:=jB [_,_,_,_] (_::_::_::_::_) 0 so55 (k:=K47 (cj_reg (jF 2 ru31 so23 (k:=jH 2 ag23 (k:=?_)))))))))))
        refine j_valw rfl (fun a w ha hH hf=>r_ldA (vs:=[_,_,_,_]) 0 rfl rfl ag57 so57 rfl rfl rfl ha hH) (j_bslice1 ru23 so57 zv57 rfl rfl rfl rfl rfl fun b294=>?_)
        refine j_appO 1 rfl hO2 ru23 el57 rfl rfl rfl rfl rfl (by omega) rfl fun y295 p295 c295 hO295=>?_
        refine jF 2 ru31 so23 (k:=jB [_,_,_,_,_,_,_,_,_,_,_,_,_,_] (_::_::_::_::_) 2 so23 (k:=K38 (CJ.t [(0,_),(2,_),(3,_),(250,_),(251,_),(252,_)] (k:=cj_reg (jI (k:=jM (k:=j_nil (ej_then ?_))))))))
        intro w9 hH hf
        have hsz2:w.heap.size≤w2.heap.size:=Nat.le_trans hsz hfu2.size
        have hfr29:Fr w.heap.size [tSm,tIP] u2 w9:=Fr.trans hfu2 hf (.inr ⟨Nat.le_refl _,fun _ h=>h⟩)
        have hfw:Fm.ok ⟨w,w.heap.size,[]⟩ w9:=ok_back (W0:=[]) hfu (.inl (Nat.le_refl _)) hfr29
        exact hKL2 (k2+1,sq++[(x.samples[k2],⟨.slice qm x.samples[k2].stack.length dm,.slice p261 x.samples[k2].values.length c261,.slice pt9 lt9 ct9,.slice pn9 ln9 cn9⟩)],y295,p295,c295) _ w9 ⟨hk',Hp.back hsz2 (.inl (Nat.le_refl _)) (hH.drop 0),hfw,hPV.fr hfr29 rfl,by rw[List.map_append,hsq2, ← List.take_append_getElem hk'];rfl,by rw[List.flatMap_append];exact hO295,fun q hq=>by
          rcases List.mem_append.1 hq with hq|hq
          ·exact hSM.fr hfr29 rfl q hq
          ·simp at hq;subst hq
           exact ⟨hst4.mono (fr_row hf rfl),hvs4.mono (fr_row hf rfl),hTx.mono (fr_row hf rfl) (fr_row hf rfl),hNu.mono (fr_row hf rfl) (fr_row hf rfl)⟩⟩ (by simp only;omega) ⟨rfl,rfl,rfl,rfl,rfl,rfl,trivial⟩
      ·have hke2:k2=x.samples.length:=by omega
       subst hke2
       rw[List.take_of_length_le (Nat.le_refl _)]at hsq2
       refine cj_exit (K34 (sQ fun K48=>cj_reg (j_valw rfl (fun a w ha hH hf=>r_ldA (vs:=[_,_,_,_,_,_,_,_,_,_,_,_,_,_]) 1 rfl rfl ag31 so31 rfl rfl rfl ha hH) ?_)))
       refine j_storeW 2 rfl rfl rfl rfl so31 rfl rfl rfl rfl rfl ?_
       refine K48 (cj_ret ?_)
       exact ej_ret1C Tryz.results28 ag31 so31 rfl rfl (fun w' hH hf=>⟨_,hH.get (i:=2) rfl rfl⟩) fun w' hH hf=>⟨⟨_,rfl,_,_,_,_,_,_,sq,rfl,hPV.fr hf rfl,hsq2,hO2.os hH (i:=0) rfl,hSM.fr hf rfl⟩,fr_all (ok_back (W0:=[]) hfu (.inl (Nat.le_refl _)) hf)⟩
section
variable {B B0 bb:Nat} {w0 u:World} {x:PProf} {g:G} {T:List ByteArray}
theorem labE_len (h:LabP s):(labE s).length≤7200:=by
 have h0:(s.texts.flatMap labE1).length≤60*s.texts.length:=flatMap_bound fun t ht=>by
  simp only[labE1,List.length_map]
  exact (h.tl t ht).2.1
 have h1:(s.nums.flatMap labE2).length≤60*s.nums.length:=flatMap_bound fun t ht=>by
  simp only[labE2,List.length_map]
  exact (h.nl t ht).2
 have h3:=h.nlen
 have h4:=h.tlen
 simp only[labE,List.length_append]
 omega
end
theorem All2.all {α:Type} {xs:List α} {Ms:List (List Nat)} {R:α→List Nat→Prop} {φ:List Nat→Prop} (h:All2 xs Ms R) (hp:∀a M,a∈xs→R a M→φ M):∀M∈Ms,φ M:=by
 intro M hM
 obtain ⟨i,hi⟩:=List.mem_iff_getElem?.1 hM
 have hl:=(List.getElem?_eq_some_iff.1 hi).1
 have ha:xs[i]? =some (xs[i]'(by rw[← h.1];exact hl)):=List.getElem?_eq_getElem _
 exact hp _ M (List.mem_of_getElem? ha) (h.2 i _ M ha hi)
section
variable {B B0 bb:Nat} {w0 u:World} {x:PProf} {g:G} {T:List ByteArray} {q:PIn}
end
theorem OfP.keep' {x:PProf} (h:OfP B w x g) (k:Fr 0 [] w w'):OfP B w' x g:=by
 have kr:=fun (b T:Nat) (cs:List Value) (hb:Blk w b T cs)=>k.blk hb (.inr (by simp))
 have km:=fun (b:Nat) es ck (hb:w.heap[b]? =some (.map es ck))=>k.keep _ _ hb (.inr (by simp))
 obtain ⟨ty,sa,ma,lo,fu,co,h1,h2,h3,h4,h5,h6,h7⟩:=h.prof
 exact { prof:=⟨ty,sa,ma,lo,fu,co,kr _ _ _ h1,h2.mono fun b cs=>kr _ _ cs,h3.mono fun b cs=>kr _ _ cs,h4.mono fun b cs=>kr _ _ cs,h5.mono fun b cs=>kr _ _ cs,h6.mono fun b cs=>kr _ _ cs,h7.mono fun b cs=>kr _ _ cs⟩
         per:=kr _ _ _ h.per
         types:=h.types.mono fun b t=>kr _ _ _
         maps:=h.maps.mono fun b t=>kr _ _ _
         funs:=h.funs.mono fun b t=>kr _ _ _
         locs:=h.locs.mono fun b l hl=>hl.mono (fun b cs=>kr _ _ cs) (fun b cs=>kr _ _ cs)
         sams:=h.sams.mono fun b l hl=>hl.mono (fun b cs=>kr _ _ cs) (fun b cs=>kr _ _ cs) (fun b cs=>kr _ _ cs) (fun b cs=>kr _ _ cs) (fun b es ck=>km _ _ _)
         ntypes:=h.ntypes
         nmaps:=h.nmaps
         nfuns:=h.nfuns
         nlocs:=h.nlocs
         nsams:=h.nsams
         fresh:=h.fresh
         rows:=fun b hb=>(h.rows b hb).mono fun b cs=>kr _ _ cs }
def cM (fs:List Fld):Msg:=fs.map fun f=>(.fld f,encF f)
theorem mB_cM (fs:List Fld):mB (cM fs)=encFs fs:=by simp[mB,cM,encFs,List.flatMap_map]
theorem flds_cM (fs:List Fld):flds (cM fs)=fs:=by
 unfold flds cM
 rw[List.filterMap_map]
 exact List.filterMap_some
def WfT (tb:Nat→Nat) (f:Fld):Prop:=match f with
 | .num k n=>k<1048576∧n<18446744073709551616∧tb k≠2
 | .bys k _=>k<1048576∧tb k≠1
abbrev Wft (tb:Nat→Nat) (gs:List Fld):Prop:=∀f∈gs,WfT tb f
theorem Wft.app {tb:Nat→Nat} {a b:List Fld} (h:Wft tb a) (k:Wft tb b):Wft tb (a++b):=fun f hf=>(List.mem_append.1 hf).elim (h f) (k f)
theorem Wft.opt {tb:Nat→Nat} (hk:k<1048576) (hn:n<18446744073709551616) (ht:tb k≠2):Wft tb (numOpt k n):=fun f hf=>by
 unfold numOpt at hf
 split at hf
 ·cases hf
 ·simp at hf;subst hf;exact ⟨hk,hn,ht⟩
theorem encF_two (f:Fld):(fbytes f).length+2≤(encF f).length:=by
 cases f with
 |num k n=>have:=vint_pos (8*k);have:=vint_pos n;simp only[encF,fbytes,List.length_append,List.length_nil];omega
 |bys k b=>have:=vint_pos (8*k+2);have:=vint_pos b.length;simp only[encF,fbytes,List.length_append];omega
theorem encFs_mem:∀{f:Fld},f∈fs→(fbytes f).length≤(encFs fs).length:=by
 induction fs with
 |nil=>intro f h;cases h
 |cons a r ih=>
  intro f hf
  rw[encFs_cons,List.length_append]
  rcases List.mem_cons.1 hf with rfl|hf
  ·have:=encF_two f;omega
  ·have:=ih hf;omega
theorem MOK.canon {tb:Nat→Nat} (h:Wft tb fs) (hl:(encFs fs).length≤2000000000):MOK tb (cM fs):=by
 refine ⟨fun g hg=>?_,fun g hg=>?_,by rw[mB_cM];exact hl⟩
 ·obtain ⟨f,hf,rfl⟩:=List.mem_map.1 hg
  have h1:=h f hf
  have h2:=encFs_mem hf
  cases f with
  |num k n=>exact ⟨_,_,rfl,VEnc.canon (by have:=h1.1;omega),VEnc.canon h1.2.1,h1.1,h1.2.1⟩
  |bys k B=>
   simp only[fbytes]at h2
   exact ⟨_,_,by simp only[encF,List.append_assoc],VEnc.canon (by have:=h1.1;omega),VEnc.canon (by omega),h1.1,by omega⟩
 ·obtain ⟨f,hf,rfl⟩:=List.mem_map.1 hg
  have h1:=h f hf
  cases f with
  |num k n=>exact h1.2.2
  |bys k B=>exact h1.2
theorem oneF_ne {s:Nat}:∀{fs:List Fld},(∀f∈fs,fkey f≠k)→oneF k s fs=s
 |[],_=>rfl
 |a::r,h=>by
    have h1:=h a (by simp)
    show oneF k (if fkey a=k then fnum a else s) r=s
    rw[if_neg h1]
    exact oneF_ne fun f hf=>h f (by simp[hf])
theorem oneF_opt (k j n s:Nat):oneF k s (numOpt j n)=if j=k then (if n=0 then s else n) else s:=by
 unfold numOpt oneF
 by_cases hn:n=0
 ·simp[hn]
 ·by_cases hj:j=k<;>simp[hn,hj,fkey,fnum]
theorem ite_zero_self (n:Nat):(if n=0 then 0 else n)=n:=by split<;>omega
abbrev msF (k:Nat) (Ms:List (List Nat)):List Fld:=Ms.map (.bys k)
theorem key_ms {Ms:List (List Nat)}:∀f∈msF k Ms,fkey f=k:=fun f hf=>by
 obtain ⟨M, -,rfl⟩:=List.mem_map.1 hf;rfl
theorem key_opt:∀f∈numOpt k n,fkey f=k:=fun f hf=>by
 unfold numOpt at hf;split at hf
 ·cases hf
 ·simp at hf;subst hf;rfl
theorem key_num {ns:List Nat}:∀f∈ns.map (Fld.num k),fkey f=k:=fun f hf=>by
 obtain ⟨M, -,rfl⟩:=List.mem_map.1 hf;rfl
theorem oneF_of {s:Nat} (h:∀f∈fs,fkey f=j) (hj:j≠k):oneF k s fs=s:=oneF_ne fun f hf=>by rw[h f hf];exact hj
theorem flt_of (h:∀f∈fs,fkey f=j) (hj:j≠k):(fs.filter fun f=>fkey f=k)=[]:=List.filter_eq_nil_iff.2 fun f hf=>by rw[h f hf];simpa using hj
theorem flt_self (h:∀f∈fs,fkey f=k):(fs.filter fun f=>fkey f=k)=fs:=List.filter_eq_self.2 fun f hf=>by simp[h f hf]
theorem fb_ms (k:Nat) (Ms:List (List Nat)):(msF k Ms).map fbytes=Ms:=by simp[msF,Function.comp_def,fbytes]
theorem enc_opt (k n:Nat):encFs (numOpt k n)=optB k n:=by
 unfold numOpt optB numB
 split<;>simp[encFs,encF]
theorem enc_ms (k:Nat) (Ms:List (List Nat)):encFs (msF k Ms)=msB k Ms:=List.flatMap_map ..
theorem GMny.app {a b:List Fld} {na nb:List (List Nat)} (h:GMny k a na) (g:GMny k b nb):GMny k (a++b) (na++nb):=by
 refine ⟨by simp[h.len,g.len],fun i f ns hf hn=>?_⟩
 by_cases hi:i<a.length
 ·rw[List.getElem?_append_left hi]at hf
  rw[List.getElem?_append_left (by rw[h.len];exact hi)]at hn
  exact h.at_ i f ns hf hn
 ·rw[List.getElem?_append_right (by omega)]at hf
  rw[List.getElem?_append_right (by rw[h.len];omega),h.len]at hn
  exact g.at_ _ f ns hf hn
theorem GMny.none {a:List Fld} (h:∀f∈a,fkey f≠k):GMny k a (a.map fun _=>[]):=by
 refine ⟨by simp,fun i f ns hf hn=>?_⟩
 rw[if_neg (h f (List.mem_of_getElem? hf))]
 rw[List.getElem?_map,hf]at hn
 simpa using hn.symm
theorem GMny.nums (k:Nat) (ns:List Nat) (h:∀n∈ns,n<18446744073709551616):GMny k (ns.map (.num k)) (ns.map fun n=>[n]):=by
 refine ⟨by simp,fun i f ms hf hn=>?_⟩
 rw[List.getElem?_map]at hf hn
 obtain ⟨n,h1,rfl⟩:=Option.map_eq_some_iff.1 hf
 rw[h1]at hn
 simp at hn
 rw[if_pos (show fkey (Fld.num k n)=k from rfl)]
 exact ⟨hn.symm,h n (List.mem_of_getElem? h1)⟩
theorem GMny.one {f:Fld} {ns:List Nat} (hk:fkey f=k) (hv:GV f ns):GMny k [f] [ns]:=⟨rfl,fun i g ms hf hn=>by
 cases i with
 |zero=>simp at hf hn;subst hf;subst hn;rw[if_pos hk];exact hv
 |succ i=>simp at hf⟩
theorem flat_none (a:List Fld):(a.map fun _=>([]:List Nat)).flatten=[]:=by
 induction a with
 |nil=>rfl
 |cons x r ih=>simp
theorem flat_single:∀ns:List Nat,(ns.map fun n=>[n]).flatten=ns
 |[]=>rfl
 |a::r=>by have:=flat_single r;simp only[List.map_cons,List.flatten_cons,this];rfl
theorem Vs.canon:∀(ns:List Nat),(∀n∈ns,n<18446744073709551616)→Vs ns (ns.flatMap vint)
 |[],_=>rfl
 |n::r,h=>⟨_,_,by rw[List.flatMap_cons],VEnc.canon (h n (by simp)),h n (by simp),Vs.canon r fun m hm=>h m (by simp[hm])⟩
def usF (k:Nat) (ns:List Nat):List Fld:=if 2<ns.length then [.bys k (ns.flatMap vint)] else ns.map (.num k)
theorem enc_us (k:Nat) (ns:List Nat):encFs (usF k ns)=usB k ns:=by
 unfold usF usB
 split
 ·simp[encFs]
 ·rw[encFs,List.flatMap_map];rfl
theorem key_us {ns:List Nat}:∀f∈usF k ns,fkey f=k:=fun f hf=>by
 unfold usF at hf;split at hf
 ·simp at hf;subst hf;rfl
 ·exact key_num f hf
theorem GMny.us (k:Nat) (ns:List Nat) (h:∀n∈ns,n<18446744073709551616):∃nss,GMny k (usF k ns) nss∧nss.flatten=ns:=by
 unfold usF
 split
 ·exact ⟨_,GMny.one rfl (Vs.canon ns h),by simp⟩
 ·exact ⟨_,GMny.nums k ns h,flat_single ns⟩
theorem All2.choose {α:Type} {S:α→List Fld→Prop} {R:α→List Nat→Prop}:∀{xs:List α} {ys:List (List Nat)},All2 xs ys R→(∀M∈ys,M.length≤2000000000)→(∀a∈xs,∀M,M.length≤2000000000→R a M→∃gs,encFs gs=M∧S a gs)→∃gss:List (List Fld),gss.map encFs=ys∧All2 xs gss S
 |[],[],_,_,_=>⟨[],rfl,rfl,by simp⟩
 |[],_::_,h,_,_=>by have:=h.1;simp at this
 |_::_,[],h,_,_=>by have:=h.1;simp at this
 |a::xs,M::ys,h,hb,hp=>by
    obtain ⟨gss,h1,h3⟩:=All2.choose (S:=S) (R:=R) (xs:=xs) (ys:=ys) ⟨by have:=h.1;simpa using this,fun i a' M' ha hM=>h.2 (i+1) a' M' (by simpa using ha) (by simpa using hM)⟩ (fun M hM=>hb M (by simp[hM])) fun a' ha=>hp a' (by simp[ha])
    obtain ⟨g,h4,h6⟩:=hp a (by simp) M (hb M (by simp)) (h.2 0 a M rfl rfl)
    refine ⟨g::gss,by simp[h1,h4],by simp[h3.1],fun i a' g' ha hg=>?_⟩
    cases i with
    |zero=>simp at ha hg;subst ha;subst hg;exact h6
    |succ i=>exact h3.2 i a' g' (by simpa using ha) (by simpa using hg)
theorem GSub.of {α:Type} {xs:List α} {gss:List (List Fld)} {S:α→Msg→Prop} (he:(fs.filter fun f=>fkey f=k).map fbytes=gss.map encFs) (h:All2 xs gss fun a gs=>S a (cM gs)):(gss.map cM).length=xs.length∧GSub k fs (gss.map cM) fun i q=>∀t,xs[i]? =some t→S t q:=
 ⟨by simpa using h.1,by rw[he,List.map_map];exact List.map_congr_left fun g _=>(mB_cM g).symm,fun i m hm t ht=>by
  rw[List.getElem?_map]at hm
  obtain ⟨g,h1,rfl⟩:=Option.map_eq_some_iff.1 hm
  exact h.2 i t g ht h1⟩
theorem u64_nat (h:k<18446744073709551616):u64 (k:Int)=k:=by
 have:=u64_cast (k:Int)
 rw[wrapU h]at this
 omega
theorem At.u64 {T:List ByteArray} {n:Int} {s:ByteArray} (h:At T n s) (hl:T.length≤100000000):T[u64 n]? =some s:=by
 obtain ⟨k,rfl,hk⟩:=h
 have:=(List.getElem?_eq_some_iff.1 hk).1
 rw[u64_nat (by omega)];exact hk
theorem wrap_u64 {z:Int} (h:IntKind.i64.wrap z=z):IntKind.i64.wrap ((Go.Proofs.YtifdadlhmlhfiaaGreatDoor.u64 z:Nat):Int)=z:=by
 rw[u64_cast]
 simp[IntKind.wrap,IntKind.bits,IntKind.signed]at h⊢
 omega
def tyF (n m:Int):List Fld:=numOpt 1 (Go.Proofs.YtifdadlhmlhfiaaGreatDoor.u64 n)++numOpt 2 (Go.Proofs.YtifdadlhmlhfiaaGreatDoor.u64 m)
theorem tyF_enc (n m:Int):encFs (tyF n m)=vtB n m:=by simp[tyF,vtB,encFs_append,enc_opt]
theorem tyF_ok {T:List ByteArray} {t:PType} {n m:Int} (hl:T.length≤100000000) (hb:(vtB n m).length≤2000000000) (h1:At T n t.ty) (h2:At T m t.unit):TyM T t (cM (tyF n m)):=by
 refine ⟨.canon ((Wft.opt (by omega) (u64_lt _) (by decide)).app (Wft.opt (by omega) (u64_lt _) (by decide))) (by rw[tyF_enc];exact hb),?_,?_⟩
 ·rw[flds_cM];unfold tyF oneN;simp only[oneF_append,oneF_opt,ite_zero_self, ↓reduceIte,Nat.reduceEqDiff];exact h1.u64 hl
 ·rw[flds_cM];unfold tyF oneN;simp only[oneF_append,oneF_opt,ite_zero_self, ↓reduceIte,Nat.reduceEqDiff];exact h2.u64 hl
theorem MT.go {T:List ByteArray} {t:PType} {M:List Nat} (hl:T.length≤100000000) (hb:M.length≤2000000000) (h:MT T t M):∃gs,encFs gs=M∧TyM T t (cM gs):=by
 obtain ⟨n,m,rfl,h1,h2⟩:=h
 exact ⟨tyF n m,tyF_enc n m,tyF_ok hl hb h1 h2⟩
theorem bnat_lt64 (b:Bool):bnat b<18446744073709551616:=by cases b<;>simp[bnat]
theorem bnat_ne (b:Bool):decide (bnat b≠0)=b:=by cases b<;>simp[bnat]
theorem MM.go {T:List ByteArray} {m:PMapping} {M:List Nat} (hl:T.length≤100000000) (hb:M.length≤2000000000) (hr:IntKind.u64.wrap m.id=m.id∧IntKind.u64.wrap m.start=m.start∧IntKind.u64.wrap m.limit=m.limit∧IntKind.u64.wrap m.offset=m.offset) (h:MM T m M):∃gs,encFs gs=M∧MpM T m (cM gs):=by
 obtain ⟨n,k,rfl,h1,h2⟩:=h
 obtain ⟨r1,r2,r3,r4⟩:=hr
 have r1:=u64_range r1
 have r2:=u64_range r2
 have r3:=u64_range r3
 have r4:=u64_range r4
 have he:encFs (numOpt 1 m.id.toNat++(numOpt 2 m.start.toNat++(numOpt 3 m.limit.toNat++(numOpt 4 m.offset.toNat++(numOpt 5 (Go.Proofs.YtifdadlhmlhfiaaGreatDoor.u64 n)++(numOpt 6 (Go.Proofs.YtifdadlhmlhfiaaGreatDoor.u64 k)++(numOpt 7 (bnat m.fu)++(numOpt 8 (bnat m.fi)++(numOpt 9 (bnat m.li)++numOpt 10 (bnat m.inl))))))))))=mpB m.id.toNat m.start.toNat m.limit.toNat m.offset.toNat n k m.fu m.fi m.li m.inl:=by simp[mpB,encFs_append,enc_opt]
 refine ⟨_,he,?_⟩
 constructor
 ·exact .canon ((Wft.opt (by omega) (by omega) (by decide)).app ((Wft.opt (by omega) (by omega) (by decide)).app ((Wft.opt (by omega) (by omega) (by decide)).app ((Wft.opt (by omega) (by omega) (by decide)).app ((Wft.opt (by omega) (u64_lt _) (by decide)).app ((Wft.opt (by omega) (u64_lt _) (by decide)).app ((Wft.opt (by omega) (bnat_lt64 _) (by decide)).app ((Wft.opt (by omega) (bnat_lt64 _) (by decide)).app ((Wft.opt (by omega) (bnat_lt64 _) (by decide)).app (Wft.opt (by omega) (bnat_lt64 _) (by decide))))))))))) (by rw[he];exact hb)
 ·rw[flds_cM];unfold oneN;simp only[oneF_append,oneF_opt,ite_zero_self, ↓reduceIte,Nat.reduceEqDiff];omega
 ·rw[flds_cM];unfold oneN;simp only[oneF_append,oneF_opt,ite_zero_self, ↓reduceIte,Nat.reduceEqDiff];omega
 ·rw[flds_cM];unfold oneN;simp only[oneF_append,oneF_opt,ite_zero_self, ↓reduceIte,Nat.reduceEqDiff];omega
 ·rw[flds_cM];unfold oneN;simp only[oneF_append,oneF_opt,ite_zero_self, ↓reduceIte,Nat.reduceEqDiff];omega
 ·rw[flds_cM];unfold oneN;simp only[oneF_append,oneF_opt,ite_zero_self, ↓reduceIte,Nat.reduceEqDiff];exact h1.u64 hl
 ·rw[flds_cM];unfold oneN;simp only[oneF_append,oneF_opt,ite_zero_self, ↓reduceIte,Nat.reduceEqDiff];exact h2.u64 hl
 ·rw[flds_cM];unfold oneN;simp only[oneF_append,oneF_opt,ite_zero_self, ↓reduceIte,Nat.reduceEqDiff];exact bnat_ne m.fu
 ·rw[flds_cM];unfold oneN;simp only[oneF_append,oneF_opt,ite_zero_self, ↓reduceIte,Nat.reduceEqDiff];exact bnat_ne m.fi
 ·rw[flds_cM];unfold oneN;simp only[oneF_append,oneF_opt,ite_zero_self, ↓reduceIte,Nat.reduceEqDiff];exact bnat_ne m.li
 ·rw[flds_cM];unfold oneN;simp only[oneF_append,oneF_opt,ite_zero_self, ↓reduceIte,Nat.reduceEqDiff];exact bnat_ne m.inl
theorem MF.go {T:List ByteArray} {f:PFunc} {M:List Nat} (hl:T.length≤100000000) (hb:M.length≤2000000000) (hr:IntKind.u64.wrap f.id=f.id∧IntKind.i64.wrap f.start=f.start) (h:MF T f M):∃gs,encFs gs=M∧FnM T f (cM gs):=by
 obtain ⟨n,k,i,rfl,h1,h2,h3⟩:=h
 have r1:=u64_range hr.1
 have he:encFs (numOpt 1 f.id.toNat++(numOpt 2 (Go.Proofs.YtifdadlhmlhfiaaGreatDoor.u64 n)++(numOpt 3 (Go.Proofs.YtifdadlhmlhfiaaGreatDoor.u64 k)++(numOpt 4 (Go.Proofs.YtifdadlhmlhfiaaGreatDoor.u64 i)++numOpt 5 (Go.Proofs.YtifdadlhmlhfiaaGreatDoor.u64 f.start)))))=fnB f.id.toNat n k i f.start:=by simp[fnB,encFs_append,enc_opt]
 refine ⟨_,he,?_⟩
 constructor
 ·exact .canon ((Wft.opt (by omega) (by omega) (by decide)).app ((Wft.opt (by omega) (u64_lt _) (by decide)).app ((Wft.opt (by omega) (u64_lt _) (by decide)).app ((Wft.opt (by omega) (u64_lt _) (by decide)).app (Wft.opt (by omega) (u64_lt _) (by decide)))))) (by rw[he];exact hb)
 ·rw[flds_cM];unfold oneN;simp only[oneF_append,oneF_opt,ite_zero_self, ↓reduceIte,Nat.reduceEqDiff];omega
 ·rw[flds_cM];unfold oneN;simp only[oneF_append,oneF_opt,ite_zero_self, ↓reduceIte,Nat.reduceEqDiff];exact h1.u64 hl
 ·rw[flds_cM];unfold oneN;simp only[oneF_append,oneF_opt,ite_zero_self, ↓reduceIte,Nat.reduceEqDiff];exact h2.u64 hl
 ·rw[flds_cM];unfold oneN;simp only[oneF_append,oneF_opt,ite_zero_self, ↓reduceIte,Nat.reduceEqDiff];exact h3.u64 hl
 ·rw[flds_cM];unfold oneN;simp only[oneF_append,oneF_opt,ite_zero_self, ↓reduceIte,Nat.reduceEqDiff];exact wrap_u64 hr.2
theorem msF_wft {tb:Nat→Nat} {Ms:List (List Nat)} (hk:k<1048576) (ht:tb k≠1):Wft tb (msF k Ms):=fun f hf=>by
 obtain ⟨M, -,rfl⟩:=List.mem_map.1 hf
 exact ⟨hk,ht⟩
theorem ML.go {x:PProf} {l:PLoc} {M:List Nat} (hr:Rng x) (hlx:l∈x.locs) (hb:M.length≤2000000000) (h:ML x l M):∃gs,encFs gs=M∧LcM x l (cM gs):=by
 unfold ML at h
 obtain ⟨r1,r2,r3⟩:=hr.locs l hlx
 have r1:=u64_range r1
 have r2:=u64_range r2
 have rm:=hr.mid l.mapping
 have hf:∀n:PLine,(fnid x n.fn).toNat<18446744073709551616:=fun n=>by have:=hr.fnid n.fn;omega
 obtain ⟨g,hg⟩:∃g,g=l.lines.map fun n=>numOpt 1 (fnid x n.fn).toNat++numOpt 2 (Go.Proofs.YtifdadlhmlhfiaaGreatDoor.u64 n.line):=⟨_,rfl⟩
 have hge:g.map encFs=l.lines.map fun n=>lnB (fnid x n.fn).toNat n.line:=by rw[hg];simp[Function.comp_def,encFs_append,enc_opt,lnB]
 obtain ⟨gs,hgs⟩:∃gs,gs=numOpt 1 l.id.toNat++(numOpt 2 (mid x l.mapping).toNat++(numOpt 3 l.addr.toNat++msF 4 (g.map encFs))):=⟨_,rfl⟩
 have henc:encFs gs=M:=by rw[h,hgs];simp only[encFs_append,enc_opt,enc_ms,hge]
 have hk4:∀f∈msF 4 (g.map encFs),fkey f=4:=key_ms
 have hlen:∀a∈g,(encFs a).length≤2000000000:=fun a ha=>by
  have h1:Fld.bys 4 (encFs a)∈gs:=by
   rw[hgs];simp only[List.mem_append]
   exact .inr (.inr (.inr (List.mem_map_of_mem (List.mem_map_of_mem ha))))
  have h2:=encFs_mem h1
  rw[henc]at h2
  exact Nat.le_trans h2 hb
 refine ⟨gs,henc,?_⟩
 constructor
 ·refine .canon ?_ (by rw[henc];exact hb)
  rw[hgs]
  exact (Wft.opt (by omega) (by omega) (by decide)).app ((Wft.opt (by omega) (by omega) (by decide)).app ((Wft.opt (by omega) (by omega) (by decide)).app (msF_wft (by omega) (by decide))))
 ·rw[flds_cM];unfold oneN;rw[hgs];simp only[oneF_append];rw[oneF_of hk4 (by decide)];simp only[oneF_append,oneF_opt,ite_zero_self, ↓reduceIte,Nat.reduceEqDiff];omega
 ·rw[flds_cM];unfold oneN;rw[hgs];simp only[oneF_append];rw[oneF_of hk4 (by decide)];simp only[oneF_append,oneF_opt,ite_zero_self, ↓reduceIte,Nat.reduceEqDiff];omega
 ·rw[flds_cM];unfold oneN;rw[hgs];simp only[oneF_append];rw[oneF_of hk4 (by decide)];simp only[oneF_append,oneF_opt,ite_zero_self, ↓reduceIte,Nat.reduceEqDiff];omega
 ·rw[flds_cM]
  obtain ⟨h1,h2⟩:=GSub.of (k:=4) (fs:=gs) (xs:=l.lines) (gss:=g) (S:=LnM x) (by
   rw[hgs];simp only[List.filter_append]
   rw[flt_of key_opt (by decide),flt_of key_opt (by decide),flt_of key_opt (by decide),flt_self hk4]
   simp only[List.nil_append,fb_ms]) (by
   refine ⟨by rw[hg];simp,fun i n a hn ha=>?_⟩
   have hla:=hlen a (List.mem_of_getElem? ha)
   rw[hg,List.getElem?_map,hn]at ha
   simp only[Option.map_some,Option.some.injEq]at ha
   subst ha
   have hnl:=List.mem_of_getElem? hn
   refine ⟨.canon ((Wft.opt (by omega) (hf n) (by decide)).app (Wft.opt (by omega) (u64_lt _) (by decide))) hla,?_,?_⟩
   ·rw[flds_cM];unfold oneN;simp only[oneF_append,oneF_opt,ite_zero_self, ↓reduceIte,Nat.reduceEqDiff]
    have:=hr.fnid n.fn
    omega
   ·rw[flds_cM];unfold oneN;simp only[oneF_append,oneF_opt,ite_zero_self, ↓reduceIte,Nat.reduceEqDiff];exact wrap_u64 (r3 n hnl))
  exact ⟨_,h1,h2⟩
theorem At.zero {T:List ByteArray} {n:Int} {s:ByteArray} (h:At T n s) (hz:T[0]? =some eB) (hn:n=0):s=eB:=by
 obtain ⟨k,rfl,hk⟩:=h
 obtain rfl:k=0:=by omega
 rw[hz]at hk
 exact (Option.some.inj hk).symm
theorem keyT_app (a b:List LE) (k:ByteArray):keyT (a++b) k=keyT a k++keyT b k:=List.filterMap_append
theorem keyN_app (a b:List LE) (k:ByteArray):keyN (a++b) k=keyN a k++keyN b k:=List.filterMap_append
theorem keyT_1 (t:PTexts) (k:ByteArray):keyT (labE1 t) k=if t.key=k then t.list else []:=by
 unfold keyT labE1
 rw[List.filterMap_map]
 split
 ·next h=>rw[show ((fun e:LE=>if e.1=k then e.2.1 else none)∘fun v=>(t.key,some v,(0:Int)))=some from by funext v;simp[h]];exact List.filterMap_some
 ·next h=>rw[show ((fun e:LE=>if e.1=k then e.2.1 else none)∘fun v=>(t.key,some v,(0:Int)))=fun _=>none from by funext v;simp[h]];simp
theorem keyT_2 (t:PNums) (k:ByteArray):keyT (labE2 t) k=[]:=by
 unfold keyT labE2
 rw[List.filterMap_map,List.filterMap_eq_nil_iff]
 intro v _
 simp
theorem keyN_1 (t:PTexts) (k:ByteArray):keyN (labE1 t) k=[]:=by
 unfold keyN labE1
 rw[List.filterMap_map,List.filterMap_eq_nil_iff]
 intro v _
 simp
theorem keyN_2 (t:PNums) (k:ByteArray):keyN (labE2 t) k=if t.key=k then t.list else []:=by
 unfold keyN labE2
 rw[List.filterMap_map]
 split
 ·next h=>rw[show ((fun e:LE=>if e.1=k∧e.2.1=none then some e.2.2 else none)∘fun v=>(t.key,none,v))=some from by funext v;simp[h]];exact List.filterMap_some
 ·next h=>rw[show ((fun e:LE=>if e.1=k∧e.2.1=none then some e.2.2 else none)∘fun v=>(t.key,none,v))=fun _=>none from by funext v;simp[h]];simp
theorem flat_key {α β:Type} {f:α→List β} {k:α→ByteArray} {l:α→List β} (hf:∀a c,k a≠c→True):∀{xs:List α} {a:α},(xs.map k).Nodup→a∈xs→(∀b∈xs,f b=if k b=k a then l b else [])→xs.flatMap f=l a
 |[],_,_,h,_=>by cases h
 |b::r,a,hn,h,hl=>by
    have hn':=List.nodup_cons.1 (by simpa using hn:(k b::r.map k).Nodup)
    rw[List.flatMap_cons,hl b (by simp)]
    rcases List.mem_cons.1 h with rfl|h
    ·rw[if_pos rfl]
     have:r.flatMap f=[]:=List.flatMap_eq_nil_iff.2 fun c hc=>by
      rw[hl c (by simp[hc]),if_neg]
      intro e;exact hn'.1 (by rw[← e];exact List.mem_map_of_mem hc)
     rw[this,List.append_nil]
    ·rw[if_neg (fun e=>hn'.1 (by rw[e];exact List.mem_map_of_mem h)),List.nil_append]
     exact flat_key (fun _ _ _=>trivial) hn'.2 h fun c hc=>hl c (by simp[hc])
theorem keyT_flat {α:Type} (g:α→List LE) (k:ByteArray):∀xs:List α,keyT (xs.flatMap g) k=xs.flatMap fun a=>keyT (g a) k
 |[]=>rfl
 |a::r=>by rw[List.flatMap_cons,keyT_app,keyT_flat g k r,List.flatMap_cons]
theorem keyN_flat {α:Type} (g:α→List LE) (k:ByteArray):∀xs:List α,keyN (xs.flatMap g) k=xs.flatMap fun a=>keyN (g a) k
 |[]=>rfl
 |a::r=>by rw[List.flatMap_cons,keyN_app,keyN_flat g k r,List.flatMap_cons]
theorem LabP.lbs (hT:(s.texts.map (·.key)).Nodup) (hN:(s.nums.map (·.key)).Nodup):LbsS (labE s) s:=by
 refine ⟨fun t ht=>?_,fun t ht=>?_,fun e he v hv=>?_,fun e he hv=>?_⟩
 ·unfold labE
  rw[keyT_app,keyT_flat,keyT_flat,show s.nums.flatMap (fun a=>keyT (labE2 a) t.key)=[] from List.flatMap_eq_nil_iff.2 fun c _=>keyT_2 c _,List.append_nil]
  exact flat_key (k:=(·.key)) (l:=(·.list)) (fun _ _ _=>trivial) hT ht fun b _=>keyT_1 b _
 ·unfold labE
  rw[keyN_app,keyN_flat,keyN_flat,show s.texts.flatMap (fun a=>keyN (labE1 a) t.key)=[] from List.flatMap_eq_nil_iff.2 fun c _=>keyN_1 c _,List.nil_append]
  exact flat_key (k:=(·.key)) (l:=(·.list)) (fun _ _ _=>trivial) hN ht fun b _=>keyN_2 b _
 ·unfold labE at he
  rcases List.mem_append.1 he with he|he
  ·obtain ⟨u,hu,he⟩:=List.mem_flatMap.1 he
   obtain ⟨c,hc,rfl⟩:=List.mem_map.1 he
   exact List.mem_map_of_mem hu
  ·obtain ⟨u,hu,he⟩:=List.mem_flatMap.1 he
   obtain ⟨c,hc,rfl⟩:=List.mem_map.1 he
   cases hv
 ·unfold labE at he
  rcases List.mem_append.1 he with he|he
  ·obtain ⟨u,hu,he⟩:=List.mem_flatMap.1 he
   obtain ⟨c,hc,rfl⟩:=List.mem_map.1 he
   cases hv
  ·obtain ⟨u,hu,he⟩:=List.mem_flatMap.1 he
   obtain ⟨c,hc,rfl⟩:=List.mem_map.1 he
   exact List.mem_map_of_mem hu
def lbF (q:Int×Int×Int):List Fld:=numOpt 1 (Go.Proofs.YtifdadlhmlhfiaaGreatDoor.u64 q.1)++(numOpt 2 (Go.Proofs.YtifdadlhmlhfiaaGreatDoor.u64 q.2.1)++numOpt 3 (Go.Proofs.YtifdadlhmlhfiaaGreatDoor.u64 q.2.2))
theorem lbF_enc (q:Int×Int×Int):encFs (lbF q)=lbB q.1 q.2.1 q.2.2:=by simp[lbF,lbB,encFs_append,enc_opt]
theorem lbF_ok {T:List ByteArray} {q:Int×Int×Int} {e:LE} (hb:(encFs (lbF q)).length≤2000000000) (hl:T.length≤100000000) (hz:T[0]? =some eB) (hne:∀t,e.2.1=some t→t≠eB) (hw:e.2.1=none→IntKind.i64.wrap e.2.2=e.2.2) (h:LbOK T q e):LbM T e (cM (lbF q)):=by
 obtain ⟨h1,h2⟩:=h
 have e1:oneN 1 (lbF q)=Go.Proofs.YtifdadlhmlhfiaaGreatDoor.u64 q.1:=by unfold lbF oneN;simp only[oneF_append,oneF_opt,ite_zero_self, ↓reduceIte,Nat.reduceEqDiff]
 have e2:oneN 2 (lbF q)=Go.Proofs.YtifdadlhmlhfiaaGreatDoor.u64 q.2.1:=by unfold lbF oneN;simp only[oneF_append,oneF_opt,ite_zero_self, ↓reduceIte,Nat.reduceEqDiff]
 have e3:oneN 3 (lbF q)=Go.Proofs.YtifdadlhmlhfiaaGreatDoor.u64 q.2.2:=by unfold lbF oneN;simp only[oneF_append,oneF_opt,ite_zero_self, ↓reduceIte,Nat.reduceEqDiff]
 refine ⟨.canon ((Wft.opt (by omega) (u64_lt _) (by decide)).app ((Wft.opt (by omega) (u64_lt _) (by decide)).app (Wft.opt (by omega) (u64_lt _) (by decide)))) hb,by rw[flds_cM,e1];exact h1.u64 hl,?_⟩
 rw[flds_cM]
 cases hc:e.2.1 with
 |some t=>
  rw[hc]at h2
  simp only at h2⊢
  have h3:=h2.1.u64 hl
  rw[e2]
  refine ⟨fun h0=>?_,h3⟩
  rw[h0,hz]at h3
  exact hne t hc (Option.some.inj h3).symm
 |none=>
  rw[hc]at h2
  simp only at h2⊢
  rw[e2,e3,h2.1,h2.2]
  exact ⟨by rw[← Int.ofNat_zero];exact u64_nat (by omega),wrap_u64 (hw hc)⟩
theorem pw_nodup {ks:List ByteArray} (h:ks.Pairwise fun x y=>ltB x y=true):ks.Nodup:=h.imp fun {a b} h e=>by subst e;rw[ltB_irrefl]at h;cases h
theorem MS.go {x:PProf} {T:List ByteArray} {M:List Nat} (hx:WellP x) (hr:Rng x) (hl:T.length≤100000000) (hz:T[0]? =some eB) (hsx:s∈x.samples) (hb:M.length≤2000000000) (h:MS T x s M):∃gs,encFs gs=M∧SmM x T s (cM gs):=by
 obtain ⟨lbs,hlb,hM⟩:=h
 obtain ⟨hv1,hv2,hst,hLab,hsk⟩:=hx.samples s hsx
 have hid:∀n∈s.stack.map fun z=>(lid x z).toNat,n<18446744073709551616:=fun n hn=>by
  obtain ⟨z, -,rfl⟩:=List.mem_map.1 hn
  have:=hr.lid z
  omega
 obtain ⟨g,hg⟩:∃g,g=lbs.map lbF:=⟨_,rfl⟩
 have hge:g.map encFs=lbs.map fun q=>lbB q.1 q.2.1 q.2.2:=by rw[hg,List.map_map];exact List.map_congr_left fun q _=>lbF_enc q
 obtain ⟨vs,hvs⟩:∃vs,vs=(s.values.map Go.Proofs.YtifdadlhmlhfiaaGreatDoor.u64).map (Fld.num 2):=⟨_,rfl⟩
 have hk2:∀f∈vs,fkey f=2:=by rw[hvs];exact key_num
 have hk3:∀f∈msF 3 (g.map encFs),fkey f=3:=key_ms
 obtain ⟨gs,hgs⟩:∃gs,gs=usF 1 (s.stack.map fun z=>(lid x z).toNat)++(vs++msF 3 (g.map encFs)):=⟨_,rfl⟩
 have henc:encFs gs=M:=by
  rw[hM,hgs,smB,encFs_append,encFs_append,enc_us,enc_ms,hge]
  congr 2
  rw[hvs,encFs,List.flatMap_map,List.flatMap_map];rfl
 have hlen:∀a∈g,(encFs a).length≤2000000000:=fun a ha=>by
  have h1:Fld.bys 3 (encFs a)∈gs:=by
   rw[hgs];simp only[List.mem_append]
   exact .inr (.inr (List.mem_map_of_mem (List.mem_map_of_mem ha)))
  have h2:=encFs_mem h1
  rw[henc]at h2
  exact Nat.le_trans h2 hb
 refine ⟨gs,henc,?_⟩
 constructor
 ·refine .canon ?_ (by rw[henc];exact hb)
  rw[hgs]
  refine Wft.app (fun f hf=>?_) (Wft.app (fun f hf=>?_) (msF_wft (by omega) (by decide)))
  ·unfold usF at hf
   split at hf
   ·simp only[List.mem_singleton]at hf
    subst hf
    exact ⟨by omega,by decide⟩
   ·obtain ⟨n,hn,rfl⟩:=List.mem_map.1 hf
    exact ⟨by omega,hid n hn,by decide⟩
  ·rw[hvs]at hf
   obtain ⟨n,hn,rfl⟩:=List.mem_map.1 hf
   obtain ⟨z, -,rfl⟩:=List.mem_map.1 hn
   exact ⟨by omega,u64_lt z,by decide⟩
 ·obtain ⟨ns1,hn1,hn1f⟩:=GMny.us 1 (s.stack.map fun z=>(lid x z).toNat) hid
  refine ⟨ns1++((vs++msF 3 (g.map encFs)).map fun _=>[]),?_,?_⟩
  ·rw[flds_cM,hgs]
   exact hn1.app (GMny.none fun f hf=>by
    rcases List.mem_append.1 hf with hf|hf
    ·rw[hk2 f hf];decide
    ·rw[hk3 f hf];decide)
  ·rw[List.flatten_append,flat_none,List.append_nil,hn1f,List.map_map]
   refine List.map_congr_left fun z _=>?_
   have:=hr.lid z
   simp only[Function.comp_apply]
   omega
 ·refine ⟨((usF 1 (s.stack.map fun z=>(lid x z).toNat)).map fun _=>[])++(((s.values.map Go.Proofs.YtifdadlhmlhfiaaGreatDoor.u64).map fun n=>[n])++((msF 3 (g.map encFs)).map fun _=>[])),?_,?_⟩
  ·rw[flds_cM,hgs,hvs]
   exact (GMny.none fun f hf=>by rw[key_us f hf];decide).app (GMny.app (GMny.nums 2 _ fun n hn=>by
    obtain ⟨z, -,rfl⟩:=List.mem_map.1 hn
    exact u64_lt z) (GMny.none fun f hf=>by rw[hk3 f hf];decide))
  ·rw[List.flatten_append,List.flatten_append,flat_none,flat_none,List.append_nil,List.nil_append,flat_single,List.map_map]
   conv=>rhs;rw[← List.map_id s.values]
   refine List.map_congr_left fun z hz=>?_
   exact wrap_u64 (hr.vals s hsx z hz)
 ·obtain ⟨h1,h2⟩:=GSub.of (k:=3) (fs:=gs) (xs:=labE s) (gss:=g) (S:=LbM T) (by
   rw[hgs];simp only[List.filter_append]
   rw[flt_of key_us (by decide),flt_of hk2 (by decide),flt_self hk3]
   simp only[List.nil_append,fb_ms]) (by
   refine ⟨by rw[hg,List.length_map];exact hlb.1,fun i e a hei ha=>?_⟩
   have hla:=hlen a (List.mem_of_getElem? ha)
   rw[hg,List.getElem?_map]at ha
   obtain ⟨q,hq,rfl⟩:=Option.map_eq_some_iff.1 ha
   refine lbF_ok hla hl hz (fun t ht he=>?_) (fun hn=>?_) (hlb.2 i q e hq hei)
   ·have hm:=List.mem_of_getElem? hei
    unfold labE at hm
    rcases List.mem_append.1 hm with hm|hm
    ·obtain ⟨u,hu,hm⟩:=List.mem_flatMap.1 hm
     obtain ⟨v,hv,rfl⟩:=List.mem_map.1 hm
     simp at ht
     subst ht;subst he
     exact (hLab.tl u hu).2.2 hv
    ·obtain ⟨u,hu,hm⟩:=List.mem_flatMap.1 hm
     obtain ⟨v,hv,rfl⟩:=List.mem_map.1 hm
     cases ht
   ·have hm:=List.mem_of_getElem? hei
    unfold labE at hm
    rcases List.mem_append.1 hm with hm|hm
    ·obtain ⟨u,hu,hm⟩:=List.mem_flatMap.1 hm
     obtain ⟨v,hv,rfl⟩:=List.mem_map.1 hm
     cases hn
    ·obtain ⟨u,hu,hm⟩:=List.mem_flatMap.1 hm
     obtain ⟨v,hv,rfl⟩:=List.mem_map.1 hm
     exact hr.nums s hsx u hu v hv)
  rw[flds_cM]
  exact ⟨_,labE s,h1,h2,LabP.lbs (pw_nodup hLab.tpw) (pw_nodup hLab.npw),by have:=labE_len hLab;omega⟩
theorem RawP.le {B':Nat} {T:List ByteArray} {x:PProf} {vp:Value} (h:RawP B T x g vp w) (hB:B'≤B):RawP B' T x g vp w:=by
 obtain ⟨f1,f2,f3,f4,f5⟩:=h.fresh
 have lo:∀{n:Nat},B≤n→B'≤n:=fun h=>Nat.le_trans hB h
 exact { h with
  per:=h.per.imp id fun ⟨e1,e2,e3,e4⟩=>⟨e1,e2,lo e3,e4⟩
  locs:=h.locs.mono fun b t hh=>hh.mono (fun _ h=>h) fun b cs hb hk=>⟨hk,lo hb.1,hb.2⟩
  sams:=h.sams.mono fun b t hh=>hh.mono (fun _ h=>h) (fun b cs hb hk=>⟨hk,lo hb⟩) (fun b cs hb hk=>⟨hk,lo hb⟩) (fun b cs hb hk=>⟨hk,lo hb⟩)
  fresh:=⟨fun b hb=>lo (f1 b hb),fun b hb=>lo (f2 b hb),fun b hb=>lo (f3 b hb),fun b hb=>lo (f4 b hb),fun b hb=>lo (f5 b hb)⟩ }
theorem OfQ.fr {x:PProf} (h:OfQ B w x g) (k:Fr 0 [] w w'):OfQ B w' x g:=by
 have kr:=fun (b T:Nat) (cs:List Value) (hb:Blk w b T cs)=>k.blk hb (.inr (by simp))
 have km:∀(b:Nat) (es:Array MapEntry) (ck:Nat),w.heap[b]? =some (.map es ck)→w'.heap[b]? =some (.map es ck):=fun b es ck hb=>k.keep _ _ hb (.inr (by simp))
 obtain ⟨ty,sa,ma,lo,fu,co,h1,h2,h3,h4,h5,h6,h7⟩:=h.prof
 exact { prof:=⟨ty,sa,ma,lo,fu,co,kr _ _ _ h1,h2.mono fun b cs=>kr _ _ cs,h3.mono fun b cs=>kr _ _ cs,h4.mono fun b cs=>kr _ _ cs,h5.mono fun b cs=>kr _ _ cs,h6.mono fun b cs=>kr _ _ cs,h7.mono fun b cs=>kr _ _ cs⟩
         per:=kr _ _ _ h.per
         types:=h.types.mono fun b t=>kr _ _ _
         maps:=h.maps.mono fun b t=>kr _ _ _
         funs:=h.funs.mono fun b t=>kr _ _ _
         locs:=h.locs.mono fun b l hl=>hl.mono (fun b cs=>kr _ _ cs) (fun b cs=>kr _ _ cs)
         sams:=h.sams.mono fun b l hl=>hl.mono (fun cs=>kr _ _ cs) (fun b cs=>kr _ _ cs) (fun b cs=>kr _ _ cs) (fun b cs=>kr _ _ cs) km
         ntypes:=h.ntypes
         nmaps:=h.nmaps
         nfuns:=h.nfuns
         nlocs:=h.nlocs
         nsams:=h.nsams
         fresh:=h.fresh
         rows:=fun b hb=>(h.rows b hb).mono fun b cs=>kr _ _ cs }
end Go.Proofs.YtifdadlhmlhfiaaGreatDoor
namespace Go.Fw
open Go
variable {a:Act} {t t':Nat} {x:Operand} {w:World}
section
variable {P:Program} {n:Nat} {e:Env} {d ty:Nat} {pos:String} {af:Array Edge}
theorem r_neqA {y:Operand} {xs:Array Value} (he:∀w,(Op.equalIn 10000 t (.agg xs) (.agg xs)).run P w=.ok true w) (hm:P.eqGuardType P.depth t=false) (hx:ev e x=some (.agg xs)) (hy:ev e y=some (.agg xs)) (ha:Sat n e a):
  (execOp a.eval ⟨some d,.binOp .neq t x y t',ty,pos,af,none⟩).run P w=.ok (.value (.bool false)) w:=by
 have h:(binOp .neq t (.agg xs) (.agg xs)).run P w=.ok (.bool false) w:=by
  simp only[binOp]
  simp[Op.equal,Op.maxDepth,he w]
 simp only[execOp,ha.ev hx,ha.ev hy]
 simp[run_eqGuard_agg (hm:=hm),h]
theorem r_eqlA {y:Operand} {xs:Array Value} (he:∀w,(Op.equalIn 10000 t (.agg xs) (.agg xs)).run P w=.ok true w) (hm:P.eqGuardType P.depth t=false) (hx:ev e x=some (.agg xs)) (hy:ev e y=some (.agg xs)) (ha:Sat n e a):
  (execOp a.eval ⟨some d,.binOp .eql t x y t',ty,pos,af,none⟩).run P w=.ok (.value (.bool true)) w:=by
 have h:(binOp .eql t (.agg xs) (.agg xs)).run P w=.ok (.bool true) w:=by
  simp only[binOp]
  simp[Op.equal,Op.maxDepth,he w]
 simp only[execOp,ha.ev hx,ha.ev hy]
 simp[run_eqGuard_agg (hm:=hm),h]
end
end Go.Fw
namespace Go.Proofs.YtifdadlhmlhfiaaGreatDoor
open Go Go.Fw Go.Proofs Go.Proofs.Tryz
theorem egTy:Tryz.prog.eqGuardType Tryz.prog.depth tTy=false:=by kernel_rfl
theorem shTy:Tryz.prog.stoodInHeld tTy=false:=by kernel_rfl
theorem eqTy (a b:ByteArray) (w:World):(Op.equalIn 10000 tTy (.agg #[.string a,.string b]) (.agg #[.string a,.string b])).run Tryz.prog w=.ok true w:=by
 have h1:Tryz.prog.underlying tTy=some (.struct (Tryz.prog.fieldsOf tTy)):=by simp[Program.fieldsOf,ud29]
 have h2:=run_equalIn_agg (P:=Tryz.prog) w 9999 tTy #[.string a,.string b] #[.string a,.string b] h1 shTy
 simp only[Nat.reduceAdd]at h2
 rw[h2]
 have hs:=fun (a:ByteArray) (w:World)=>run_equalIn_string (P:=Tryz.prog) w 9998 9 a a ud9
 simp only[Nat.reduceAdd]at hs
 simp[Program.fieldsOf,ud29,Op.eqFields,part,ag9,hs]
theorem egMp:Tryz.prog.eqGuardType Tryz.prog.depth tMp=false:=by kernel_rfl
theorem shMp:Tryz.prog.stoodInHeld tMp=false:=by kernel_rfl
theorem eqMp (a b c d:Int) (e f:ByteArray) (g h i j:Bool) (w:World):(Op.equalIn 10000 tMp (.agg #[.int .u64 a,.int .u64 b,.int .u64 c,.int .u64 d,.string e,.string f,.bool g,.bool h,.bool i,.bool j]) (.agg #[.int .u64 a,.int .u64 b,.int .u64 c,.int .u64 d,.string e,.string f,.bool g,.bool h,.bool i,.bool j])).run Tryz.prog w=.ok true w:=by
 have h1:Tryz.prog.underlying tMp=some (.struct (Tryz.prog.fieldsOf tMp)):=by simp[Program.fieldsOf,ud73]
 have h2:=run_equalIn_agg (P:=Tryz.prog) w 9999 tMp #[.int .u64 a,.int .u64 b,.int .u64 c,.int .u64 d,.string e,.string f,.bool g,.bool h,.bool i,.bool j] #[.int .u64 a,.int .u64 b,.int .u64 c,.int .u64 d,.string e,.string f,.bool g,.bool h,.bool i,.bool j] h1 shMp
 simp only[Nat.reduceAdd]at h2
 rw[h2]
 have hs:=fun (a:ByteArray) (w:World)=>run_equalIn_string (P:=Tryz.prog) w 9998 9 a a ud9
 have huint64:=fun (a:Int) (w:World)=>run_equalIn_int (P:=Tryz.prog) w 9998 71 .u64 .u64 a a ud71
 have hb:=fun (a:Bool) (w:World)=>run_equalIn_bool (P:=Tryz.prog) (w:=w) 9998 4 a a ud4
 simp only[Nat.reduceAdd]at hs huint64 hb
 simp[Program.fieldsOf,ud73,Op.eqFields,part,ag9,ag71,ag4,hs,huint64,hb]
theorem egFn:Tryz.prog.eqGuardType Tryz.prog.depth tFn=false:=by kernel_rfl
theorem shFn:Tryz.prog.stoodInHeld tFn=false:=by kernel_rfl
theorem eqFn (a:Int) (b c d:ByteArray) (e:Int) (w:World):(Op.equalIn 10000 tFn (.agg #[.int .u64 a,.string b,.string c,.string d,.int .i64 e]) (.agg #[.int .u64 a,.string b,.string c,.string d,.int .i64 e])).run Tryz.prog w=.ok true w:=by
 have h1:Tryz.prog.underlying tFn=some (.struct (Tryz.prog.fieldsOf tFn)):=by simp[Program.fieldsOf,ud80]
 have h2:=run_equalIn_agg (P:=Tryz.prog) w 9999 tFn #[.int .u64 a,.string b,.string c,.string d,.int .i64 e] #[.int .u64 a,.string b,.string c,.string d,.int .i64 e] h1 shFn
 simp only[Nat.reduceAdd]at h2
 rw[h2]
 have hs:=fun (a:ByteArray) (w:World)=>run_equalIn_string (P:=Tryz.prog) w 9998 9 a a ud9
 have huint64:=fun (a:Int) (w:World)=>run_equalIn_int (P:=Tryz.prog) w 9998 71 .u64 .u64 a a ud71
 have hint64:=fun (a:Int) (w:World)=>run_equalIn_int (P:=Tryz.prog) w 9998 2 .i64 .i64 a a ud2
 simp only[Nat.reduceAdd]at hs huint64 hint64
 simp[Program.fieldsOf,ud80,Op.eqFields,part,ag9,ag71,ag2,hs,huint64,hint64]
theorem egLn:Tryz.prog.eqGuardType Tryz.prog.depth tLn=false:=by kernel_rfl
theorem shLn:Tryz.prog.stoodInHeld tLn=false:=by kernel_rfl
theorem eqLn (a b:Int) (w:World):(Op.equalIn 10000 tLn (.agg #[.int .i64 a,.int .i64 b]) (.agg #[.int .i64 a,.int .i64 b])).run Tryz.prog w=.ok true w:=by
 have h1:Tryz.prog.underlying tLn=some (.struct (Tryz.prog.fieldsOf tLn)):=by simp[Program.fieldsOf,ud114]
 have h2:=run_equalIn_agg (P:=Tryz.prog) w 9999 tLn #[.int .i64 a,.int .i64 b] #[.int .i64 a,.int .i64 b] h1 shLn
 simp only[Nat.reduceAdd]at h2
 rw[h2]
 have hint:=fun (a:Int) (w:World)=>run_equalIn_int (P:=Tryz.prog) w 9998 3 .i64 .i64 a a ud3
 have hint64:=fun (a:Int) (w:World)=>run_equalIn_int (P:=Tryz.prog) w 9998 2 .i64 .i64 a a ud2
 simp only[Nat.reduceAdd]at hint hint64
 simp[Program.fieldsOf,ud114,Op.eqFields,part,ag3,ag2,hint,hint64]
theorem slTy_c (w:World) (v u:Value) (xs:List PType) (hv:Lay RType 2 w v xs) (hu:Lay RType 2 w u xs):Calls Tryz.prog 38 #[v,u] w (Ret fun r w'=>r=.bool true∧Fr 0 [] w w'):=by
 obtain ⟨p,c,rfl,hl,hx⟩:=hv.open
 obtain ⟨q,c2,rfl, -,hy⟩:=hu.open
 refine startJ (args:=[_,_]) [(0,_),(1,_)] 0 [] [] Tryz.func38 rfl Tryz.ntmps38 rfl rfl .nil ?_
 refine sQ fun K1=>cj_reg (jA (k:=K1 (sQ fun K2=>sQ fun K3=>cj_reg (jM (k:=jE ru22 (k:=jM (k:=jE ru22 (k:=?_))))))))
 refine j_val rfl (fun _ _ h=>r_neq rfl rfl h) ?_
 refine j_eqv (u:=.bool false) (congrArg Value.bool (by simp)) ?_
 refine K3 (cj_if_f rfl (cj_skip (K2 (sQ fun K4=>sQ fun K5=>cj_reg (jM (k:=jE ru22 (k:=jM (k:=K5 (cj_block ?_)))))))))
 refine cj_loop (σ:=Nat) (fun k=>[(0,.slice p xs.length c),(1,.slice q xs.length c2),(12,.int .i64 (xs.length:Nat)),(13,.int .i64 (k:Nat))]) (fun _=>[]) (fun k _=>k≤xs.length) (fun k=>xs.length - k) 0 sR (fun w hH hf=>⟨.nil,Nat.zero_le _⟩) ?_
 rintro k w1 hk hf1 hH1 KL hKL
 refine C.begin _ [] hf1 .nil ?_
 try dsimp only
 refine sQ fun K6=>cj_reg (jS (k:=K6 (sQ fun K7=>?_)))
 refine cj_dec rfl (fun h14=>?_) (fun h14=>?_)
 ·have hk':k<xs.length:=by omega
  obtain ⟨b,o,cs,rfl, -,hR,hcell⟩:=hx k xs[k] (List.getElem?_eq_getElem hk')
  obtain ⟨b2,o2,cs2,rfl, -,hR2,hcell2⟩:=hy k xs[k] (List.getElem?_eq_getElem hk')
  unfold RType at hR hR2
  subst hR;subst hR2
  refine cj_skip (K7 (sQ fun K8=>cj_block (sQ fun K9=>cj_reg (jM (k:=jA (k:=K9 (sQ fun K10=>?_)))))))
  refine cj_drawI 9 (lts [0,1,2,3,4,5,6,7,8]) [] rfl (by kernel_rfl) (by kernel_rfl) (dM [] (k:=dM [] (k:=?_)))
  refine dj_val rfl rfl (sub_of [] rfl) (fun _ _ h=>r_idx ru22 so29 rfl rfl (by omega) h) (dj_ld rfl rfl (sub_of [] rfl) (fun a w ha hS=>r_loadA ag29 so29 rfl rfl (hcell w (hS.2.keepAll (.inr rfl))) ha) (dM [] (k:=dM [] (k:=?_))))
  refine dj_val rfl rfl (sub_of [] rfl) (fun _ _ h=>r_idx ru22 so29 rfl rfl (by omega) h) (dj_ld rfl rfl (sub_of [] rfl) (fun a w ha hS=>r_loadA ag29 so29 rfl rfl (hcell2 w (hS.2.keepAll (.inr rfl))) ha) (dj_val rfl rfl (sub_of [] rfl) (fun _ _ h=>r_neqA (eqTy _ _) egTy rfl rfl h) (K10 (CJ.t [(0,_),(1,_),(12,_),(13,_),(24,_)] (k:=?_)))))
  refine cj_if_f rfl (cj_skip (K8 (cj_reg (jI (k:=jM (k:=j_nil (ej_then ?_)))))))
  exact fun w' hH hf=>hKL (k+1) _ w' hk' hf .nil (by omega) sR
 ·refine cj_exit (K4 (sQ fun K11=>cj_reg (jA (k:=K11 (cj_ret ?_)))))
  exact ej_ret1 Tryz.results38 rfl fun w' hH hf=>⟨rfl,hf⟩
theorem slMp_c (w:World) (v u:Value) (xs:List PMapping) (hv:Lay RMapping 10 w v xs) (hu:Lay RMapping 10 w u xs):Calls Tryz.prog 41 #[v,u] w (Ret fun r w'=>r=.bool true∧Fr 0 [] w w'):=by
 obtain ⟨p,c,rfl,hl,hx⟩:=hv.open
 obtain ⟨q,c2,rfl, -,hy⟩:=hu.open
 refine startJ (args:=[_,_]) [(0,_),(1,_)] 0 [] [] Tryz.func41 rfl Tryz.ntmps41 rfl rfl .nil ?_
 refine sQ fun K1=>cj_reg (jA (k:=K1 (sQ fun K2=>sQ fun K3=>cj_reg (jM (k:=jE ru24 (k:=jM (k:=jE ru24 (k:=?_))))))))
 refine j_val rfl (fun _ _ h=>r_neq rfl rfl h) ?_
 refine j_eqv (u:=.bool false) (congrArg Value.bool (by simp)) ?_
 refine K3 (cj_if_f rfl (cj_skip (K2 (sQ fun K4=>sQ fun K5=>cj_reg (jM (k:=jE ru24 (k:=jM (k:=K5 (cj_block ?_)))))))))
 refine cj_loop (σ:=Nat) (fun k=>[(0,.slice p xs.length c),(1,.slice q xs.length c2),(12,.int .i64 (xs.length:Nat)),(13,.int .i64 (k:Nat))]) (fun _=>[]) (fun k _=>k≤xs.length) (fun k=>xs.length - k) 0 sR (fun w hH hf=>⟨.nil,Nat.zero_le _⟩) ?_
 rintro k w1 hk hf1 hH1 KL hKL
 refine C.begin _ [] hf1 .nil ?_
 try dsimp only
 refine sQ fun K6=>cj_reg (jS (k:=K6 (sQ fun K7=>?_)))
 refine cj_dec rfl (fun h14=>?_) (fun h14=>?_)
 ·have hk':k<xs.length:=by omega
  obtain ⟨b,o,cs,rfl, -,hR,hcell⟩:=hx k xs[k] (List.getElem?_eq_getElem hk')
  obtain ⟨b2,o2,cs2,rfl, -,hR2,hcell2⟩:=hy k xs[k] (List.getElem?_eq_getElem hk')
  obtain ⟨rfl, -⟩:=hR
  obtain ⟨rfl, -⟩:=hR2
  refine cj_skip (K7 (sQ fun K8=>cj_block (sQ fun K9=>cj_reg (jM (k:=jA (k:=K9 (sQ fun K10=>?_)))))))
  refine cj_drawI 9 (lts [0,1,2,3,4,5,6,7,8]) [] rfl (by kernel_rfl) (by kernel_rfl) (dM [] (k:=dM [] (k:=?_)))
  refine dj_val rfl rfl (sub_of [] rfl) (fun _ _ h=>r_idx ru24 so73 rfl rfl (by omega) h) (dj_ld rfl rfl (sub_of [] rfl) (fun a w ha hS=>r_loadA ag73 so73 rfl rfl (hcell w (hS.2.keepAll (.inr rfl))) ha) (dM [] (k:=dM [] (k:=?_))))
  refine dj_val rfl rfl (sub_of [] rfl) (fun _ _ h=>r_idx ru24 so73 rfl rfl (by omega) h) (dj_ld rfl rfl (sub_of [] rfl) (fun a w ha hS=>r_loadA ag73 so73 rfl rfl (hcell2 w (hS.2.keepAll (.inr rfl))) ha) (dj_val rfl rfl (sub_of [] rfl) (fun _ _ h=>r_neqA (eqMp _ _ _ _ _ _ _ _ _ _) egMp rfl rfl h) (K10 (CJ.t [(0,_),(1,_),(12,_),(13,_),(24,_)] (k:=?_)))))
  refine cj_if_f rfl (cj_skip (K8 (cj_reg (jI (k:=jM (k:=j_nil (ej_then ?_)))))))
  exact fun w' hH hf=>hKL (k+1) _ w' hk' hf .nil (by omega) sR
 ·refine cj_exit (K4 (sQ fun K11=>cj_reg (jA (k:=K11 (cj_ret ?_)))))
  exact ej_ret1 Tryz.results41 rfl fun w' hH hf=>⟨rfl,hf⟩
theorem slFn_c (w:World) (v u:Value) (xs:List PFunc) (hv:Lay RFunc 5 w v xs) (hu:Lay RFunc 5 w u xs):Calls Tryz.prog 44 #[v,u] w (Ret fun r w'=>r=.bool true∧Fr 0 [] w w'):=by
 obtain ⟨p,c,rfl,hl,hx⟩:=hv.open
 obtain ⟨q,c2,rfl, -,hy⟩:=hu.open
 refine startJ (args:=[_,_]) [(0,_),(1,_)] 0 [] [] Tryz.func44 rfl Tryz.ntmps44 rfl rfl .nil ?_
 refine sQ fun K1=>cj_reg (jA (k:=K1 (sQ fun K2=>sQ fun K3=>cj_reg (jM (k:=jE ru26 (k:=jM (k:=jE ru26 (k:=?_))))))))
 refine j_val rfl (fun _ _ h=>r_neq rfl rfl h) ?_
 refine j_eqv (u:=.bool false) (congrArg Value.bool (by simp)) ?_
 refine K3 (cj_if_f rfl (cj_skip (K2 (sQ fun K4=>sQ fun K5=>cj_reg (jM (k:=jE ru26 (k:=jM (k:=K5 (cj_block ?_)))))))))
 refine cj_loop (σ:=Nat) (fun k=>[(0,.slice p xs.length c),(1,.slice q xs.length c2),(12,.int .i64 (xs.length:Nat)),(13,.int .i64 (k:Nat))]) (fun _=>[]) (fun k _=>k≤xs.length) (fun k=>xs.length - k) 0 sR (fun w hH hf=>⟨.nil,Nat.zero_le _⟩) ?_
 rintro k w1 hk hf1 hH1 KL hKL
 refine C.begin _ [] hf1 .nil ?_
 try dsimp only
 refine sQ fun K6=>cj_reg (jS (k:=K6 (sQ fun K7=>?_)))
 refine cj_dec rfl (fun h14=>?_) (fun h14=>?_)
 ·have hk':k<xs.length:=by omega
  obtain ⟨b,o,cs,rfl, -,hR,hcell⟩:=hx k xs[k] (List.getElem?_eq_getElem hk')
  obtain ⟨b2,o2,cs2,rfl, -,hR2,hcell2⟩:=hy k xs[k] (List.getElem?_eq_getElem hk')
  obtain ⟨rfl, -⟩:=hR
  obtain ⟨rfl, -⟩:=hR2
  refine cj_skip (K7 (sQ fun K8=>cj_block (sQ fun K9=>cj_reg (jM (k:=jA (k:=K9 (sQ fun K10=>?_)))))))
  refine cj_drawI 9 (lts [0,1,2,3,4,5,6,7,8]) [] rfl (by kernel_rfl) (by kernel_rfl) (dM [] (k:=dM [] (k:=?_)))
  refine dj_val rfl rfl (sub_of [] rfl) (fun _ _ h=>r_idx ru26 so80 rfl rfl (by omega) h) (dj_ld rfl rfl (sub_of [] rfl) (fun a w ha hS=>r_loadA ag80 so80 rfl rfl (hcell w (hS.2.keepAll (.inr rfl))) ha) (dM [] (k:=dM [] (k:=?_))))
  refine dj_val rfl rfl (sub_of [] rfl) (fun _ _ h=>r_idx ru26 so80 rfl rfl (by omega) h) (dj_ld rfl rfl (sub_of [] rfl) (fun a w ha hS=>r_loadA ag80 so80 rfl rfl (hcell2 w (hS.2.keepAll (.inr rfl))) ha) (dj_val rfl rfl (sub_of [] rfl) (fun _ _ h=>r_neqA (eqFn _ _ _ _ _) egFn rfl rfl h) (K10 (CJ.t [(0,_),(1,_),(12,_),(13,_),(24,_)] (k:=?_)))))
  refine cj_if_f rfl (cj_skip (K8 (cj_reg (jI (k:=jM (k:=j_nil (ej_then ?_)))))))
  exact fun w' hH hf=>hKL (k+1) _ w' hk' hf .nil (by omega) sR
 ·refine cj_exit (K4 (sQ fun K11=>cj_reg (jA (k:=K11 (cj_ret ?_)))))
  exact ej_ret1 Tryz.results44 rfl fun w' hH hf=>⟨rfl,hf⟩
theorem slLn_c (w:World) (v u:Value) (xs:List PLine) (hv:Lay RLine 2 w v xs) (hu:Lay RLine 2 w u xs):Calls Tryz.prog 83 #[v,u] w (Ret fun r w'=>r=.bool true∧Fr 0 [] w w'):=by
 obtain ⟨p,c,rfl,hl,hx⟩:=hv.open
 obtain ⟨q,c2,rfl, -,hy⟩:=hu.open
 refine startJ (args:=[_,_]) [(0,_),(1,_)] 0 [] [] Tryz.func83 rfl Tryz.ntmps83 rfl rfl .nil ?_
 refine sQ fun K1=>cj_reg (jA (k:=K1 (sQ fun K2=>sQ fun K3=>cj_reg (jM (k:=jE ru75 (k:=jM (k:=jE ru75 (k:=?_))))))))
 refine j_val rfl (fun _ _ h=>r_neq rfl rfl h) ?_
 refine j_eqv (u:=.bool false) (congrArg Value.bool (by simp)) ?_
 refine K3 (cj_if_f rfl (cj_skip (K2 (sQ fun K4=>sQ fun K5=>cj_reg (jM (k:=jE ru75 (k:=jM (k:=K5 (cj_block ?_)))))))))
 refine cj_loop (σ:=Nat) (fun k=>[(0,.slice p xs.length c),(1,.slice q xs.length c2),(12,.int .i64 (xs.length:Nat)),(13,.int .i64 (k:Nat))]) (fun _=>[]) (fun k _=>k≤xs.length) (fun k=>xs.length - k) 0 sR (fun w hH hf=>⟨.nil,Nat.zero_le _⟩) ?_
 rintro k w1 hk hf1 hH1 KL hKL
 refine C.begin _ [] hf1 .nil ?_
 try dsimp only
 refine sQ fun K6=>cj_reg (jS (k:=K6 (sQ fun K7=>?_)))
 refine cj_dec rfl (fun h14=>?_) (fun h14=>?_)
 ·have hk':k<xs.length:=by omega
  obtain ⟨b,o,cs,rfl, -,hR,hcell⟩:=hx k xs[k] (List.getElem?_eq_getElem hk')
  obtain ⟨b2,o2,cs2,rfl, -,hR2,hcell2⟩:=hy k xs[k] (List.getElem?_eq_getElem hk')
  obtain ⟨rfl, -⟩:=hR
  obtain ⟨rfl, -⟩:=hR2
  refine cj_skip (K7 (sQ fun K8=>cj_block (sQ fun K9=>cj_reg (jM (k:=jA (k:=K9 (sQ fun K10=>?_)))))))
  refine cj_drawI 9 (lts [0,1,2,3,4,5,6,7,8]) [] rfl (by kernel_rfl) (by kernel_rfl) (dM [] (k:=dM [] (k:=?_)))
  refine dj_val rfl rfl (sub_of [] rfl) (fun _ _ h=>r_idx ru75 so114 rfl rfl (by omega) h) (dj_ld rfl rfl (sub_of [] rfl) (fun a w ha hS=>r_loadA ag114 so114 rfl rfl (hcell w (hS.2.keepAll (.inr rfl))) ha) (dM [] (k:=dM [] (k:=?_))))
  refine dj_val rfl rfl (sub_of [] rfl) (fun _ _ h=>r_idx ru75 so114 rfl rfl (by omega) h) (dj_ld rfl rfl (sub_of [] rfl) (fun a w ha hS=>r_loadA ag114 so114 rfl rfl (hcell2 w (hS.2.keepAll (.inr rfl))) ha) (dj_val rfl rfl (sub_of [] rfl) (fun _ _ h=>r_neqA (eqLn _ _) egLn rfl rfl h) (K10 (CJ.t [(0,_),(1,_),(12,_),(13,_),(24,_)] (k:=?_)))))
  refine cj_if_f rfl (cj_skip (K8 (cj_reg (jI (k:=jM (k:=j_nil (ej_then ?_)))))))
  exact fun w' hH hf=>hKL (k+1) _ w' hk' hf .nil (by omega) sR
 ·refine cj_exit (K4 (sQ fun K11=>cj_reg (jA (k:=K11 (cj_ret ?_)))))
  exact ej_ret1 Tryz.results83 rfl fun w' hH hf=>⟨rfl,hf⟩
theorem slSt_c (w:World) (v u:Value) (xs:List ByteArray) (hv:Lay RStr 1 w v xs) (hu:Lay RStr 1 w u xs):Calls Tryz.prog 45 #[v,u] w (Ret fun r w'=>r=.bool true∧Fr 0 [] w w'):=by
 obtain ⟨p,c,rfl,hl,hx⟩:=hv.open
 obtain ⟨q,c2,rfl, -,hy⟩:=hu.open
 refine startJ (args:=[_,_]) [(0,_),(1,_)] 0 [] [] Tryz.func45 rfl Tryz.ntmps45 rfl rfl .nil ?_
 refine sQ fun K1=>cj_reg (jA (k:=K1 (sQ fun K2=>sQ fun K3=>cj_reg (jM (k:=jE ru27 (k:=jM (k:=jE ru27 (k:=?_))))))))
 refine j_val rfl (fun _ _ h=>r_neq rfl rfl h) ?_
 refine j_eqv (u:=.bool false) (congrArg Value.bool (by simp)) ?_
 refine K3 (cj_if_f rfl (cj_skip (K2 (sQ fun K4=>sQ fun K5=>cj_reg (jM (k:=jE ru27 (k:=jM (k:=K5 (cj_block ?_)))))))))
 refine cj_loop (σ:=Nat) (fun k=>[(0,.slice p xs.length c),(1,.slice q xs.length c2),(12,.int .i64 (xs.length:Nat)),(13,.int .i64 (k:Nat))]) (fun _=>[]) (fun k _=>k≤xs.length) (fun k=>xs.length - k) 0 sR (fun w hH hf=>⟨.nil,Nat.zero_le _⟩) ?_
 rintro k w1 hk hf1 hH1 KL hKL
 refine C.begin _ [] hf1 .nil ?_
 try dsimp only
 refine sQ fun K6=>cj_reg (jS (k:=K6 (sQ fun K7=>?_)))
 refine cj_dec rfl (fun h14=>?_) (fun h14=>?_)
 ·have hk':k<xs.length:=by omega
  obtain ⟨b,o,cs,rfl, -,hR,hcell⟩:=hx k xs[k] (List.getElem?_eq_getElem hk')
  obtain ⟨b2,o2,cs2,rfl, -,hR2,hcell2⟩:=hy k xs[k] (List.getElem?_eq_getElem hk')
  unfold RStr at hR hR2
  subst hR;subst hR2
  refine cj_skip (K7 (sQ fun K8=>cj_block (sQ fun K9=>cj_reg (jM (k:=jA (k:=K9 (sQ fun K10=>?_)))))))
  refine cj_drawI 9 (lts [0,1,2,3,4,5,6,7,8]) [] rfl (by kernel_rfl) (by kernel_rfl) (dM [] (k:=dM [] (k:=?_)))
  refine dj_val rfl rfl (sub_of [] rfl) (fun _ _ h=>r_idx ru27 so9 rfl rfl (by omega) h) (dj_ld rfl rfl (sub_of [] rfl) (fun a w ha hS=>r_load ag9 rfl (hcell w (hS.2.keepAll (.inr rfl)) 0 _ rfl) ha) (dM [] (k:=dM [] (k:=?_))))
  refine dj_val rfl rfl (sub_of [] rfl) (fun _ _ h=>r_idx ru27 so9 rfl rfl (by omega) h) (dj_ld rfl rfl (sub_of [] rfl) (fun a w ha hS=>r_load ag9 rfl (hcell2 w (hS.2.keepAll (.inr rfl)) 0 _ rfl) ha) (dj_val rfl rfl (sub_of [] rfl) (fun _ _ h=>r_sneq rfl rfl h) ?_))
  refine dj_eqv (u:=.bool false) (congrArg Value.bool (by simp)) ?_
  refine K10 (CJ.t [(0,_),(1,_),(12,_),(13,_),(24,_)] (k:=?_))
  refine cj_if_f rfl (cj_skip (K8 (cj_reg (jI (k:=jM (k:=j_nil (ej_then ?_)))))))
  exact fun w' hH hf=>hKL (k+1) _ w' hk' hf .nil (by omega) sR
 ·refine cj_exit (K4 (sQ fun K11=>cj_reg (jA (k:=K11 (cj_ret ?_)))))
  exact ej_ret1 Tryz.results45 rfl fun w' hH hf=>⟨rfl,hf⟩
theorem slIn_c (w:World) (v u:Value) (xs:List Int) (hv:Lay (RInt .i64) 1 w v xs) (hu:Lay (RInt .i64) 1 w u xs):Calls Tryz.prog 77 #[v,u] w (Ret fun r w'=>r=.bool true∧Fr 0 [] w w'):=by
 obtain ⟨p,c,rfl,hl,hx⟩:=hv.open
 obtain ⟨q,c2,rfl, -,hy⟩:=hu.open
 refine startJ (args:=[_,_]) [(0,_),(1,_)] 0 [] [] Tryz.func77 rfl Tryz.ntmps77 rfl rfl .nil ?_
 refine sQ fun K1=>cj_reg (jA (k:=K1 (sQ fun K2=>sQ fun K3=>cj_reg (jM (k:=jE ru32 (k:=jM (k:=jE ru32 (k:=?_))))))))
 refine j_val rfl (fun _ _ h=>r_neq rfl rfl h) ?_
 refine j_eqv (u:=.bool false) (congrArg Value.bool (by simp)) ?_
 refine K3 (cj_if_f rfl (cj_skip (K2 (sQ fun K4=>sQ fun K5=>cj_reg (jM (k:=jE ru32 (k:=jM (k:=K5 (cj_block ?_)))))))))
 refine cj_loop (σ:=Nat) (fun k=>[(0,.slice p xs.length c),(1,.slice q xs.length c2),(12,.int .i64 (xs.length:Nat)),(13,.int .i64 (k:Nat))]) (fun _=>[]) (fun k _=>k≤xs.length) (fun k=>xs.length - k) 0 sR (fun w hH hf=>⟨.nil,Nat.zero_le _⟩) ?_
 rintro k w1 hk hf1 hH1 KL hKL
 refine C.begin _ [] hf1 .nil ?_
 try dsimp only
 refine sQ fun K6=>cj_reg (jS (k:=K6 (sQ fun K7=>?_)))
 refine cj_dec rfl (fun h14=>?_) (fun h14=>?_)
 ·have hk':k<xs.length:=by omega
  obtain ⟨b,o,cs,rfl, -,hR,hcell⟩:=hx k xs[k] (List.getElem?_eq_getElem hk')
  obtain ⟨b2,o2,cs2,rfl, -,hR2,hcell2⟩:=hy k xs[k] (List.getElem?_eq_getElem hk')
  obtain ⟨rfl, -⟩:=hR
  obtain ⟨rfl, -⟩:=hR2
  refine cj_skip (K7 (sQ fun K8=>cj_block (sQ fun K9=>cj_reg (jM (k:=jA (k:=K9 (sQ fun K10=>?_)))))))
  refine cj_drawI 9 (lts [0,1,2,3,4,5,6,7,8]) [] rfl (by kernel_rfl) (by kernel_rfl) (dM [] (k:=dM [] (k:=?_)))
  refine dj_val rfl rfl (sub_of [] rfl) (fun _ _ h=>r_idx ru32 so3 rfl rfl (by omega) h) (dj_ld rfl rfl (sub_of [] rfl) (fun a w ha hS=>r_load ag3 rfl (hcell w (hS.2.keepAll (.inr rfl)) 0 _ rfl) ha) (dM [] (k:=dM [] (k:=?_))))
  refine dj_val rfl rfl (sub_of [] rfl) (fun _ _ h=>r_idx ru32 so3 rfl rfl (by omega) h) (dj_ld rfl rfl (sub_of [] rfl) (fun a w ha hS=>r_load ag3 rfl (hcell2 w (hS.2.keepAll (.inr rfl)) 0 _ rfl) ha) (dj_val rfl rfl (sub_of [] rfl) (fun _ _ h=>r_neq rfl rfl h) ?_))
  refine dj_eqv (u:=.bool false) (congrArg Value.bool (by simp)) ?_
  refine K10 (CJ.t [(0,_),(1,_),(12,_),(13,_),(24,_)] (k:=?_))
  refine cj_if_f rfl (cj_skip (K8 (cj_reg (jI (k:=jM (k:=j_nil (ej_then ?_)))))))
  exact fun w' hH hf=>hKL (k+1) _ w' hk' hf .nil (by omega) sR
 ·refine cj_exit (K4 (sQ fun K11=>cj_reg (jA (k:=K11 (cj_ret ?_)))))
  exact ej_ret1 Tryz.results77 rfl fun w' hH hf=>⟨rfl,hf⟩
theorem slI6_c (w:World) (v u:Value) (xs:List Int) (hv:Lay (RInt .i64) 1 w v xs) (hu:Lay (RInt .i64) 1 w u xs):Calls Tryz.prog 78 #[v,u] w (Ret fun r w'=>r=.bool true∧Fr 0 [] w w'):=by
 obtain ⟨p,c,rfl,hl,hx⟩:=hv.open
 obtain ⟨q,c2,rfl, -,hy⟩:=hu.open
 refine startJ (args:=[_,_]) [(0,_),(1,_)] 0 [] [] Tryz.func78 rfl Tryz.ntmps78 rfl rfl .nil ?_
 refine sQ fun K1=>cj_reg (jA (k:=K1 (sQ fun K2=>sQ fun K3=>cj_reg (jM (k:=jE ru53 (k:=jM (k:=jE ru53 (k:=?_))))))))
 refine j_val rfl (fun _ _ h=>r_neq rfl rfl h) ?_
 refine j_eqv (u:=.bool false) (congrArg Value.bool (by simp)) ?_
 refine K3 (cj_if_f rfl (cj_skip (K2 (sQ fun K4=>sQ fun K5=>cj_reg (jM (k:=jE ru53 (k:=jM (k:=K5 (cj_block ?_)))))))))
 refine cj_loop (σ:=Nat) (fun k=>[(0,.slice p xs.length c),(1,.slice q xs.length c2),(12,.int .i64 (xs.length:Nat)),(13,.int .i64 (k:Nat))]) (fun _=>[]) (fun k _=>k≤xs.length) (fun k=>xs.length - k) 0 sR (fun w hH hf=>⟨.nil,Nat.zero_le _⟩) ?_
 rintro k w1 hk hf1 hH1 KL hKL
 refine C.begin _ [] hf1 .nil ?_
 try dsimp only
 refine sQ fun K6=>cj_reg (jS (k:=K6 (sQ fun K7=>?_)))
 refine cj_dec rfl (fun h14=>?_) (fun h14=>?_)
 ·have hk':k<xs.length:=by omega
  obtain ⟨b,o,cs,rfl, -,hR,hcell⟩:=hx k xs[k] (List.getElem?_eq_getElem hk')
  obtain ⟨b2,o2,cs2,rfl, -,hR2,hcell2⟩:=hy k xs[k] (List.getElem?_eq_getElem hk')
  obtain ⟨rfl, -⟩:=hR
  obtain ⟨rfl, -⟩:=hR2
  refine cj_skip (K7 (sQ fun K8=>cj_block (sQ fun K9=>cj_reg (jM (k:=jA (k:=K9 (sQ fun K10=>?_)))))))
  refine cj_drawI 9 (lts [0,1,2,3,4,5,6,7,8]) [] rfl (by kernel_rfl) (by kernel_rfl) (dM [] (k:=dM [] (k:=?_)))
  refine dj_val rfl rfl (sub_of [] rfl) (fun _ _ h=>r_idx ru53 so2 rfl rfl (by omega) h) (dj_ld rfl rfl (sub_of [] rfl) (fun a w ha hS=>r_load ag2 rfl (hcell w (hS.2.keepAll (.inr rfl)) 0 _ rfl) ha) (dM [] (k:=dM [] (k:=?_))))
  refine dj_val rfl rfl (sub_of [] rfl) (fun _ _ h=>r_idx ru53 so2 rfl rfl (by omega) h) (dj_ld rfl rfl (sub_of [] rfl) (fun a w ha hS=>r_load ag2 rfl (hcell2 w (hS.2.keepAll (.inr rfl)) 0 _ rfl) ha) (dj_val rfl rfl (sub_of [] rfl) (fun _ _ h=>r_neq rfl rfl h) ?_))
  refine dj_eqv (u:=.bool false) (congrArg Value.bool (by simp)) ?_
  refine K10 (CJ.t [(0,_),(1,_),(12,_),(13,_),(24,_)] (k:=?_))
  refine cj_if_f rfl (cj_skip (K8 (cj_reg (jI (k:=jM (k:=j_nil (ej_then ?_)))))))
  exact fun w' hH hf=>hKL (k+1) _ w' hk' hf .nil (by omega) sR
 ·refine cj_exit (K4 (sQ fun K11=>cj_reg (jA (k:=K11 (cj_ret ?_)))))
  exact ej_ret1 Tryz.results78 rfl fun w' hH hf=>⟨rfl,hf⟩
theorem cl1_c (w:World) (cs ds:List Value) (x:PTexts) (hR:RTexts w cs x) (hR2:RTexts w ds x):Calls Tryz.prog 80 #[.agg cs.toArray,.agg ds.toArray] w (Ret fun r w'=>r=.bool true∧Fr 0 [] w w'):=by
 obtain ⟨l,rfl,h⟩:=hR
 obtain ⟨l2,rfl,h2⟩:=hR2
 obtain ⟨p,c,rfl, -⟩:=h.open
 obtain ⟨p2,c2,rfl, -⟩:=h2.open
 refine startJ (args:=[_,_]) [(0,.agg (List.toArray [_,_])),(1,.agg (List.toArray [_,_]))] 0 [] [] Tryz.func80 rfl Tryz.ntmps80 rfl rfl .nil ?_
 refine sQ fun K1=>cj_reg (j_boxA (vs:=[_,_]) rfl rfl fun b2=>j_boxA (vs:=[_,_]) rfl rfl fun b3=>jA (k:=K1 (sQ fun K2=>cj_reg (jF 0 ru109 so9 (k:=jH 1 ag9 (k:=jF 0 ru109 so9 (k:=jH 0 ag9 (k:=?_))))))))
 refine j_val rfl (fun _ _ h=>r_seql rfl rfl h) ?_
 refine j_eqv (u:=.bool true) (congrArg Value.bool (by simp)) ?_
 refine jM (k:=?_)
 refine j_gt rfl rfl (jF 1 ru109 so27 (k:=?_))
 refine j_gt rfl rfl (jH 1 ag27 (k:=?_))
 refine j_gt rfl rfl (jF 1 ru109 so27 (k:=?_))
 refine j_gt rfl rfl (jH 0 ag27 (k:=?_))
 refine j_gt rfl rfl ?_
 refine j_callQ (φ:=fun r=>r=.bool true) Tryz.call45 rfl rfl (fun w3 hH hf=>slSt_c w3 _ _ (x.list) (h.keep (RStr.keep (hf.keepAll (.inr rfl))) (hf.keepAll (.inr rfl))) (h2.keep (RStr.keep (hf.keepAll (.inr rfl))) (hf.keepAll (.inr rfl)))) fun r hr=>?_
 subst hr
 refine jT (k:=jA (k:=K2 (CJ.t [(4,_)] (k:=cj_ret ?_))))
 exact ej_ret1 Tryz.results80 rfl fun w' hH hf=>⟨rfl,hf⟩
theorem cl2_c (w:World) (cs ds:List Value) (x:PNums) (hR:RNums w cs x) (hR2:RNums w ds x):Calls Tryz.prog 82 #[.agg cs.toArray,.agg ds.toArray] w (Ret fun r w'=>r=.bool true∧Fr 0 [] w w'):=by
 obtain ⟨l,rfl,h⟩:=hR
 obtain ⟨l2,rfl,h2⟩:=hR2
 obtain ⟨p,c,rfl, -⟩:=h.open
 obtain ⟨p2,c2,rfl, -⟩:=h2.open
 refine startJ (args:=[_,_]) [(0,.agg (List.toArray [_,_])),(1,.agg (List.toArray [_,_]))] 0 [] [] Tryz.func82 rfl Tryz.ntmps82 rfl rfl .nil ?_
 refine sQ fun K1=>cj_reg (j_boxA (vs:=[_,_]) rfl rfl fun b2=>j_boxA (vs:=[_,_]) rfl rfl fun b3=>jA (k:=K1 (sQ fun K2=>cj_reg (jF 0 ru112 so9 (k:=jH 1 ag9 (k:=jF 0 ru112 so9 (k:=jH 0 ag9 (k:=?_))))))))
 refine j_val rfl (fun _ _ h=>r_seql rfl rfl h) ?_
 refine j_eqv (u:=.bool true) (congrArg Value.bool (by simp)) ?_
 refine jM (k:=?_)
 refine j_gt rfl rfl (jF 1 ru112 so53 (k:=?_))
 refine j_gt rfl rfl (jH 1 ag53 (k:=?_))
 refine j_gt rfl rfl (jF 1 ru112 so53 (k:=?_))
 refine j_gt rfl rfl (jH 0 ag53 (k:=?_))
 refine j_gt rfl rfl ?_
 refine j_callQ (φ:=fun r=>r=.bool true) Tryz.call78 rfl rfl (fun w3 hH hf=>slI6_c w3 _ _ (x.list) (h.keep (RInt.keep (hf.keepAll (.inr rfl))) (hf.keepAll (.inr rfl))) (h2.keep (RInt.keep (hf.keepAll (.inr rfl))) (hf.keepAll (.inr rfl)))) fun r hr=>?_
 subst hr
 refine jT (k:=jA (k:=K2 (CJ.t [(4,_)] (k:=cj_ret ?_))))
 exact ej_ret1 Tryz.results82 rfl fun w' hH hf=>⟨rfl,hf⟩
theorem sfTx_c (w:World) (v u:Value) (xs:List PTexts) (hv:Lay RTexts 2 w v xs) (hu:Lay RTexts 2 w u xs):Calls Tryz.prog 79 #[v,u,.func (.func 80) #[] #[]] w (Ret fun r w'=>r=.bool true∧Fr 0 [] w w'):=by
 obtain ⟨p,c,rfl,hl,hx⟩:=hv.open
 obtain ⟨q,c2,rfl, -,hy⟩:=hu.open
 refine startJ (args:=[_,_,_]) [(0,_),(1,_),(2,_)] 0 [] [] Tryz.func79 rfl Tryz.ntmps79 rfl rfl .nil ?_
 refine sQ fun K1=>cj_reg (jA (k:=K1 (sQ fun K2=>sQ fun K3=>cj_reg (jM (k:=jE ru54 (k:=jM (k:=jE ru54 (k:=?_))))))))
 refine j_val rfl (fun _ _ h=>r_neq rfl rfl h) ?_
 refine j_eqv (u:=.bool false) (congrArg Value.bool (by simp)) ?_
 refine K3 (cj_if_f rfl (cj_skip (K2 (sQ fun K4=>sQ fun K5=>cj_reg (jM (k:=jE ru54 (k:=jM (k:=K5 (cj_block ?_)))))))))
 refine cj_loop (σ:=Nat) (fun k=>[(1,.slice q xs.length c2),(2,.func (.func 80) #[] #[]),(15,.slice p xs.length c),(16,.int .i64 (xs.length:Nat)),(17,.int .i64 (k:Nat))]) (fun _=>[]) (fun k _=>k≤xs.length) (fun k=>xs.length - k) 0 sR (fun w hH hf=>⟨.nil,Nat.zero_le _⟩) ?_
 rintro k w1 hk hf1 hH1 KL hKL
 refine C.begin _ [] hf1 .nil ?_
 try dsimp only
 refine sQ fun K6=>cj_reg (jS (k:=K6 (sQ fun K7=>?_)))
 refine cj_dec rfl (fun h18=>?_) (fun h18=>?_)
 ·have hk':k<xs.length:=by omega
  obtain ⟨b,o,cs,rfl, -,hR,hcell⟩:=hx k xs[k] (List.getElem?_eq_getElem hk')
  obtain ⟨b2,o2,cs2,rfl, -,hR2,hcell2⟩:=hy k xs[k] (List.getElem?_eq_getElem hk')
  have hRk:=hR
  have hRk2:=hR2
  obtain ⟨l,rfl,h⟩:=hR
  obtain ⟨l2,rfl,h2⟩:=hR2
  obtain ⟨p1,c1,rfl, -⟩:=h.open
  obtain ⟨p2,c3,rfl, -⟩:=h2.open
  refine cj_skip (K7 (sQ fun K8=>cj_block (sQ fun K9=>cj_reg (jM (k:=jJ ru54 so109 (k:=?_))))))
  refine j_valw rfl (fun a w ha hH hf=>r_loadA ag109 so109 rfl rfl (hcell w (hf.keepAll (.inr rfl))) ha) (j_allocA (zs:=[(.string ⟨#[]⟩),(.slice none 0 0)]) zv109 rfl fun b8=>jA (k:=jB [_,_] [_] 0 so109 (k:=K9 (sQ fun K10=>cj_reg (jM (k:=jM (k:=jJ ru54 so109 (k:=?_))))))))
  refine j_valw rfl (fun a w ha hH hf=>r_loadA ag109 so109 rfl rfl (hcell2 w (hf.keepAll (.inr rfl))) ha) (j_allocA (zs:=[(.string ⟨#[]⟩),(.slice none 0 0)]) zv109 rfl fun b9=>jB [_,_] [_,_] 0 so109 (k:=K10 (CJ.t [(1,_),(2,_),(8,_),(9,_),(15,_),(16,_),(17,_)] (k:=sQ fun K11=>cj_reg (jM (k:=?_))))))
  refine j_valw rfl (fun a w ha hH hf=>r_ldA (vs:=[_,_]) 1 rfl rfl ag109 so109 rfl rfl rfl ha hH) (j_valw rfl (fun a w ha hH hf=>r_ldA (vs:=[_,_]) 0 rfl rfl ag109 so109 rfl rfl rfl ha hH) ?_)
  refine j_callVQ (g:=80) (φ:=fun r=>r=.bool true) Tryz.call80 rfl rfl rfl (fun v' hH hf=>cl1_c v' _ _ xs[k] (RTexts.keep (hf.keepAll (.inr rfl)) _ _ hRk) (RTexts.keep (hf.keepAll (.inr rfl)) _ _ hRk2)) fun r hr=>?_
  subst hr
  refine jU (k:=?_)
  refine j_eqv (u:=.bool false) rfl ?_
  refine K11 (cj_if_f rfl (cj_skip (K8 (cj_reg (jI (k:=jM (k:=j_nil (ej_then ?_))))))))
  exact fun w' hH hf=>hKL (k+1) _ w' hk' hf .nil (by omega) sR
 ·refine cj_exit (K4 (sQ fun K12=>cj_reg (jA (k:=K12 (cj_ret ?_)))))
  exact ej_ret1 Tryz.results79 rfl fun w' hH hf=>⟨rfl,hf⟩
theorem sfNu_c (w:World) (v u:Value) (xs:List PNums) (hv:Lay RNums 2 w v xs) (hu:Lay RNums 2 w u xs):Calls Tryz.prog 81 #[v,u,.func (.func 82) #[] #[]] w (Ret fun r w'=>r=.bool true∧Fr 0 [] w w'):=by
 obtain ⟨p,c,rfl,hl,hx⟩:=hv.open
 obtain ⟨q,c2,rfl, -,hy⟩:=hu.open
 refine startJ (args:=[_,_,_]) [(0,_),(1,_),(2,_)] 0 [] [] Tryz.func81 rfl Tryz.ntmps81 rfl rfl .nil ?_
 refine sQ fun K1=>cj_reg (jA (k:=K1 (sQ fun K2=>sQ fun K3=>cj_reg (jM (k:=jE ru55 (k:=jM (k:=jE ru55 (k:=?_))))))))
 refine j_val rfl (fun _ _ h=>r_neq rfl rfl h) ?_
 refine j_eqv (u:=.bool false) (congrArg Value.bool (by simp)) ?_
 refine K3 (cj_if_f rfl (cj_skip (K2 (sQ fun K4=>sQ fun K5=>cj_reg (jM (k:=jE ru55 (k:=jM (k:=K5 (cj_block ?_)))))))))
 refine cj_loop (σ:=Nat) (fun k=>[(1,.slice q xs.length c2),(2,.func (.func 82) #[] #[]),(15,.slice p xs.length c),(16,.int .i64 (xs.length:Nat)),(17,.int .i64 (k:Nat))]) (fun _=>[]) (fun k _=>k≤xs.length) (fun k=>xs.length - k) 0 sR (fun w hH hf=>⟨.nil,Nat.zero_le _⟩) ?_
 rintro k w1 hk hf1 hH1 KL hKL
 refine C.begin _ [] hf1 .nil ?_
 try dsimp only
 refine sQ fun K6=>cj_reg (jS (k:=K6 (sQ fun K7=>?_)))
 refine cj_dec rfl (fun h18=>?_) (fun h18=>?_)
 ·have hk':k<xs.length:=by omega
  obtain ⟨b,o,cs,rfl, -,hR,hcell⟩:=hx k xs[k] (List.getElem?_eq_getElem hk')
  obtain ⟨b2,o2,cs2,rfl, -,hR2,hcell2⟩:=hy k xs[k] (List.getElem?_eq_getElem hk')
  have hRk:=hR
  have hRk2:=hR2
  obtain ⟨l,rfl,h⟩:=hR
  obtain ⟨l2,rfl,h2⟩:=hR2
  obtain ⟨p1,c1,rfl, -⟩:=h.open
  obtain ⟨p2,c3,rfl, -⟩:=h2.open
  refine cj_skip (K7 (sQ fun K8=>cj_block (sQ fun K9=>cj_reg (jM (k:=jJ ru55 so112 (k:=?_))))))
  refine j_valw rfl (fun a w ha hH hf=>r_loadA ag112 so112 rfl rfl (hcell w (hf.keepAll (.inr rfl))) ha) (j_allocA (zs:=[(.string ⟨#[]⟩),(.slice none 0 0)]) zv112 rfl fun b8=>jA (k:=jB [_,_] [_] 0 so112 (k:=K9 (sQ fun K10=>cj_reg (jM (k:=jM (k:=jJ ru55 so112 (k:=?_))))))))
  refine j_valw rfl (fun a w ha hH hf=>r_loadA ag112 so112 rfl rfl (hcell2 w (hf.keepAll (.inr rfl))) ha) (j_allocA (zs:=[(.string ⟨#[]⟩),(.slice none 0 0)]) zv112 rfl fun b9=>jB [_,_] [_,_] 0 so112 (k:=K10 (CJ.t [(1,_),(2,_),(8,_),(9,_),(15,_),(16,_),(17,_)] (k:=sQ fun K11=>cj_reg (jM (k:=?_))))))
  refine j_valw rfl (fun a w ha hH hf=>r_ldA (vs:=[_,_]) 1 rfl rfl ag112 so112 rfl rfl rfl ha hH) (j_valw rfl (fun a w ha hH hf=>r_ldA (vs:=[_,_]) 0 rfl rfl ag112 so112 rfl rfl rfl ha hH) ?_)
  refine j_callVQ (g:=82) (φ:=fun r=>r=.bool true) Tryz.call82 rfl rfl rfl (fun v' hH hf=>cl2_c v' _ _ xs[k] (RNums.keep (hf.keepAll (.inr rfl)) _ _ hRk) (RNums.keep (hf.keepAll (.inr rfl)) _ _ hRk2)) fun r hr=>?_
  subst hr
  refine jU (k:=?_)
  refine j_eqv (u:=.bool false) rfl ?_
  refine K11 (cj_if_f rfl (cj_skip (K8 (cj_reg (jI (k:=jM (k:=j_nil (ej_then ?_))))))))
  exact fun w' hH hf=>hKL (k+1) _ w' hk' hf .nil (by omega) sR
 ·refine cj_exit (K4 (sQ fun K12=>cj_reg (jA (k:=K12 (cj_ret ?_)))))
  exact ej_ret1 Tryz.results81 rfl fun w' hH hf=>⟨rfl,hf⟩
theorem sameLoc_c (w:World) (cs ds:List Value) (x:PLoc) (hR:RLoc w cs x) (hR2:RLoc w ds x):Calls Tryz.prog 43 #[.agg cs.toArray,.agg ds.toArray] w (Ret fun r w'=>r=.bool true∧Fr 0 [] w w'):=by
 obtain ⟨l,rfl, -, -, -,h⟩:=hR
 obtain ⟨l2,rfl, -, -, -,h2⟩:=hR2
 obtain ⟨p,c,rfl, -⟩:=h.open
 obtain ⟨p2,c2,rfl, -⟩:=h2.open
 refine startJ (args:=[_,_]) [(0,.agg (List.toArray [_,_,_,_])),(1,.agg (List.toArray [_,_,_,_]))] 0 [] [] Tryz.func43 rfl Tryz.ntmps43 rfl rfl .nil ?_
 refine sQ fun K1=>cj_reg (j_boxA (vs:=[_,_,_,_]) rfl rfl fun b2=>j_boxA (vs:=[_,_,_,_]) rfl rfl fun b3=>jA (k:=K1 (sQ fun K2=>cj_reg (jF 0 ru77 so71 (k:=jH 1 ag71 (k:=jF 0 ru77 so71 (k:=jH 0 ag71 (k:=jQ (k:=?_)))))))))
 refine j_eqv (u:=.bool true) (congrArg Value.bool (by simp)) ?_
 refine jM (k:=?_)
 refine j_gt rfl rfl (jF 1 ru77 so3 (k:=?_))
 refine j_gt rfl rfl (jH 1 ag3 (k:=?_))
 refine j_gt rfl rfl (jF 1 ru77 so3 (k:=?_))
 refine j_gt rfl rfl (jH 0 ag3 (k:=?_))
 refine j_gt rfl rfl (jQ (k:=?_))
 refine j_eqv (u:=.bool true) (congrArg Value.bool (by simp)) ?_
 refine jT (k:=jM (k:=?_))
 refine j_gt rfl rfl (jF 2 ru77 so71 (k:=?_))
 refine j_gt rfl rfl (jH 1 ag71 (k:=?_))
 refine j_gt rfl rfl (jF 2 ru77 so71 (k:=?_))
 refine j_gt rfl rfl (jH 0 ag71 (k:=?_))
 refine j_gt rfl rfl (jQ (k:=?_))
 refine j_eqv (u:=.bool true) (congrArg Value.bool (by simp)) ?_
 refine jT (k:=jM (k:=?_))
 refine j_gt rfl rfl (jF 3 ru77 so75 (k:=?_))
 refine j_gt rfl rfl (jH 1 ag75 (k:=?_))
 refine j_gt rfl rfl (jF 3 ru77 so75 (k:=?_))
 refine j_gt rfl rfl (jH 0 ag75 (k:=?_))
 refine j_gt rfl rfl ?_
 refine j_callQ (φ:=fun r=>r=.bool true) Tryz.call83 rfl rfl (fun w3 hH hf=>slLn_c w3 _ _ (x.lines) (h.keep (RLine.keep (hf.keepAll (.inr rfl))) (hf.keepAll (.inr rfl))) (h2.keep (RLine.keep (hf.keepAll (.inr rfl))) (hf.keepAll (.inr rfl)))) fun r hr=>?_
 subst hr
 refine jT (k:=jA (k:=K2 (CJ.t [(4,_)] (k:=cj_ret ?_))))
 exact ej_ret1 Tryz.results43 rfl fun w' hH hf=>⟨rfl,hf⟩
theorem sfLc_c (w:World) (v u:Value) (xs:List PLoc) (hv:Lay RLoc 4 w v xs) (hu:Lay RLoc 4 w u xs):Calls Tryz.prog 42 #[v,u,.func (.func 43) #[] #[]] w (Ret fun r w'=>r=.bool true∧Fr 0 [] w w'):=by
 obtain ⟨p,c,rfl,hl,hx⟩:=hv.open
 obtain ⟨q,c2,rfl, -,hy⟩:=hu.open
 refine startJ (args:=[_,_,_]) [(0,_),(1,_),(2,_)] 0 [] [] Tryz.func42 rfl Tryz.ntmps42 rfl rfl .nil ?_
 refine sQ fun K1=>cj_reg (jA (k:=K1 (sQ fun K2=>sQ fun K3=>cj_reg (jM (k:=jE ru25 (k:=jM (k:=jE ru25 (k:=?_))))))))
 refine j_val rfl (fun _ _ h=>r_neq rfl rfl h) ?_
 refine j_eqv (u:=.bool false) (congrArg Value.bool (by simp)) ?_
 refine K3 (cj_if_f rfl (cj_skip (K2 (sQ fun K4=>sQ fun K5=>cj_reg (jM (k:=jE ru25 (k:=jM (k:=K5 (cj_block ?_)))))))))
 refine cj_loop (σ:=Nat) (fun k=>[(1,.slice q xs.length c2),(2,.func (.func 43) #[] #[]),(15,.slice p xs.length c),(16,.int .i64 (xs.length:Nat)),(17,.int .i64 (k:Nat))]) (fun _=>[]) (fun k _=>k≤xs.length) (fun k=>xs.length - k) 0 sR (fun w hH hf=>⟨.nil,Nat.zero_le _⟩) ?_
 rintro k w1 hk hf1 hH1 KL hKL
 refine C.begin _ [] hf1 .nil ?_
 try dsimp only
 refine sQ fun K6=>cj_reg (jS (k:=K6 (sQ fun K7=>?_)))
 refine cj_dec rfl (fun h18=>?_) (fun h18=>?_)
 ·have hk':k<xs.length:=by omega
  obtain ⟨b,o,cs,rfl, -,hR,hcell⟩:=hx k xs[k] (List.getElem?_eq_getElem hk')
  obtain ⟨b2,o2,cs2,rfl, -,hR2,hcell2⟩:=hy k xs[k] (List.getElem?_eq_getElem hk')
  have hRk:=hR
  have hRk2:=hR2
  obtain ⟨l,rfl, -, -, -,h⟩:=hR
  obtain ⟨l2,rfl, -, -, -,h2⟩:=hR2
  obtain ⟨p1,c1,rfl, -⟩:=h.open
  obtain ⟨p2,c3,rfl, -⟩:=h2.open
  refine cj_skip (K7 (sQ fun K8=>cj_block (sQ fun K9=>cj_reg (jM (k:=jJ ru25 so77 (k:=?_))))))
  refine j_valw rfl (fun a w ha hH hf=>r_loadA ag77 so77 rfl rfl (hcell w (hf.keepAll (.inr rfl))) ha) (j_allocA (zs:=[(.int .u64 0),(.int .i64 0),(.int .u64 0),(.slice none 0 0)]) zv77 rfl fun b8=>jA (k:=jB [_,_,_,_] [_] 0 so77 (k:=K9 (sQ fun K10=>cj_reg (jM (k:=jM (k:=jJ ru25 so77 (k:=?_))))))))
  refine j_valw rfl (fun a w ha hH hf=>r_loadA ag77 so77 rfl rfl (hcell2 w (hf.keepAll (.inr rfl))) ha) (j_allocA (zs:=[(.int .u64 0),(.int .i64 0),(.int .u64 0),(.slice none 0 0)]) zv77 rfl fun b9=>jB [_,_,_,_] [_,_] 0 so77 (k:=K10 (CJ.t [(1,_),(2,_),(8,_),(9,_),(15,_),(16,_),(17,_)] (k:=sQ fun K11=>cj_reg (jM (k:=?_))))))
  refine j_valw rfl (fun a w ha hH hf=>r_ldA (vs:=[_,_,_,_]) 1 rfl rfl ag77 so77 rfl rfl rfl ha hH) (j_valw rfl (fun a w ha hH hf=>r_ldA (vs:=[_,_,_,_]) 0 rfl rfl ag77 so77 rfl rfl rfl ha hH) ?_)
  refine j_callVQ (g:=43) (φ:=fun r=>r=.bool true) Tryz.call43 rfl rfl rfl (fun v' hH hf=>sameLoc_c v' _ _ xs[k] (RLoc.keep (hf.keepAll (.inr rfl)) _ _ hRk) (RLoc.keep (hf.keepAll (.inr rfl)) _ _ hRk2)) fun r hr=>?_
  subst hr
  refine jU (k:=?_)
  refine j_eqv (u:=.bool false) rfl ?_
  refine K11 (cj_if_f rfl (cj_skip (K8 (cj_reg (jI (k:=jM (k:=j_nil (ej_then ?_))))))))
  exact fun w' hH hf=>hKL (k+1) _ w' hk' hf .nil (by omega) sR
 ·refine cj_exit (K4 (sQ fun K12=>cj_reg (jA (k:=K12 (cj_ret ?_)))))
  exact ej_ret1 Tryz.results42 rfl fun w' hH hf=>⟨rfl,hf⟩
theorem sameSam_c (w:World) (cs ds:List Value) (x:PSample) (hR:RSample w cs x) (hR2:RSample w ds x):Calls Tryz.prog 40 #[.agg cs.toArray,.agg ds.toArray] w (Ret fun r w'=>r=.bool true∧Fr 0 [] w w'):=by
 obtain ⟨a1,b1,t1,u1,rfl,ha,hb,ht,hu1⟩:=hR
 obtain ⟨a2,b2,t2,u2,rfl,ha2,hb2,ht2,hu2⟩:=hR2
 obtain ⟨pa,ca,rfl, -⟩:=ha.open
 obtain ⟨pb,cb,rfl, -⟩:=hb.open
 obtain ⟨pt,ct,rfl, -⟩:=ht.open
 obtain ⟨pu1,cu1,rfl, -⟩:=hu1.open
 obtain ⟨pa2,ca2,rfl, -⟩:=ha2.open
 obtain ⟨pb2,cb2,rfl, -⟩:=hb2.open
 obtain ⟨pt2,ct2,rfl, -⟩:=ht2.open
 obtain ⟨pu2,cu2,rfl, -⟩:=hu2.open
 refine startJ (args:=[_,_]) [(0,.agg (List.toArray [_,_,_,_])),(1,.agg (List.toArray [_,_,_,_]))] 0 [] [] Tryz.func40 rfl Tryz.ntmps40 rfl rfl .nil ?_
 refine sQ fun K1=>cj_reg (j_boxA (vs:=[_,_,_,_]) rfl rfl fun b2=>j_boxA (vs:=[_,_,_,_]) rfl rfl fun b3=>jA (k:=K1 (sQ fun K2=>cj_reg (jF 0 ru57 so32 (k:=jH 1 ag32 (k:=jF 0 ru57 so32 (k:=jH 0 ag32 (k:=?_))))))))
 refine j_callQ (φ:=fun r=>r=.bool true) Tryz.call77 rfl rfl (fun w3 hH hf=>slIn_c w3 _ _ (x.stack) (ha.keep (RInt.keep (hf.keepAll (.inr rfl))) (hf.keepAll (.inr rfl))) (ha2.keep (RInt.keep (hf.keepAll (.inr rfl))) (hf.keepAll (.inr rfl)))) fun r hr=>?_
 subst hr
 refine jM (k:=?_)
 refine j_gt rfl rfl (jF 1 ru57 so53 (k:=?_))
 refine j_gt rfl rfl (jH 1 ag53 (k:=?_))
 refine j_gt rfl rfl (jF 1 ru57 so53 (k:=?_))
 refine j_gt rfl rfl (jH 0 ag53 (k:=?_))
 refine j_gt rfl rfl ?_
 refine j_callQ (φ:=fun r=>r=.bool true) Tryz.call78 rfl rfl (fun w3 hH hf=>slI6_c w3 _ _ (x.values) (hb.keep (RInt.keep (hf.keepAll (.inr rfl))) (hf.keepAll (.inr rfl))) (hb2.keep (RInt.keep (hf.keepAll (.inr rfl))) (hf.keepAll (.inr rfl)))) fun r hr=>?_
 subst hr
 refine jT (k:=jM (k:=?_))
 refine j_gt rfl rfl (jF 2 ru57 so54 (k:=?_))
 refine j_gt rfl rfl (jH 1 ag54 (k:=?_))
 refine j_gt rfl rfl (jF 2 ru57 so54 (k:=?_))
 refine j_gt rfl rfl (jH 0 ag54 (k:=?_))
 refine j_gt rfl rfl ?_
 refine j_callQ (φ:=fun r=>r=.bool true) Tryz.call79 rfl rfl (fun w3 hH hf=>sfTx_c w3 _ _ (x.texts) (ht.keep (RTexts.keep (hf.keepAll (.inr rfl))) (hf.keepAll (.inr rfl))) (ht2.keep (RTexts.keep (hf.keepAll (.inr rfl))) (hf.keepAll (.inr rfl)))) fun r hr=>?_
 subst hr
 refine jT (k:=jM (k:=?_))
 refine j_gt rfl rfl (jF 3 ru57 so55 (k:=?_))
 refine j_gt rfl rfl (jH 1 ag55 (k:=?_))
 refine j_gt rfl rfl (jF 3 ru57 so55 (k:=?_))
 refine j_gt rfl rfl (jH 0 ag55 (k:=?_))
 refine j_gt rfl rfl ?_
 refine j_callQ (φ:=fun r=>r=.bool true) Tryz.call81 rfl rfl (fun w3 hH hf=>sfNu_c w3 _ _ (x.nums) (hu1.keep (RNums.keep (hf.keepAll (.inr rfl))) (hf.keepAll (.inr rfl))) (hu2.keep (RNums.keep (hf.keepAll (.inr rfl))) (hf.keepAll (.inr rfl)))) fun r hr=>?_
 subst hr
 refine jT (k:=jA (k:=K2 (CJ.t [(4,_)] (k:=cj_ret ?_))))
 exact ej_ret1 Tryz.results40 rfl fun w' hH hf=>⟨rfl,hf⟩
theorem sfSm_c (w:World) (v u:Value) (xs:List PSample) (hv:Lay RSample 4 w v xs) (hu:Lay RSample 4 w u xs):Calls Tryz.prog 39 #[v,u,.func (.func 40) #[] #[]] w (Ret fun r w'=>r=.bool true∧Fr 0 [] w w'):=by
 obtain ⟨p,c,rfl,hl,hx⟩:=hv.open
 obtain ⟨q,c2,rfl, -,hy⟩:=hu.open
 refine startJ (args:=[_,_,_]) [(0,_),(1,_),(2,_)] 0 [] [] Tryz.func39 rfl Tryz.ntmps39 rfl rfl .nil ?_
 refine sQ fun K1=>cj_reg (jA (k:=K1 (sQ fun K2=>sQ fun K3=>cj_reg (jM (k:=jE ru23 (k:=jM (k:=jE ru23 (k:=?_))))))))
 refine j_val rfl (fun _ _ h=>r_neq rfl rfl h) ?_
 refine j_eqv (u:=.bool false) (congrArg Value.bool (by simp)) ?_
 refine K3 (cj_if_f rfl (cj_skip (K2 (sQ fun K4=>sQ fun K5=>cj_reg (jM (k:=jE ru23 (k:=jM (k:=K5 (cj_block ?_)))))))))
 refine cj_loop (σ:=Nat) (fun k=>[(1,.slice q xs.length c2),(2,.func (.func 40) #[] #[]),(15,.slice p xs.length c),(16,.int .i64 (xs.length:Nat)),(17,.int .i64 (k:Nat))]) (fun _=>[]) (fun k _=>k≤xs.length) (fun k=>xs.length - k) 0 sR (fun w hH hf=>⟨.nil,Nat.zero_le _⟩) ?_
 rintro k w1 hk hf1 hH1 KL hKL
 refine C.begin _ [] hf1 .nil ?_
 try dsimp only
 refine sQ fun K6=>cj_reg (jS (k:=K6 (sQ fun K7=>?_)))
 refine cj_dec rfl (fun h18=>?_) (fun h18=>?_)
 ·have hk':k<xs.length:=by omega
  obtain ⟨b,o,cs,rfl, -,hR,hcell⟩:=hx k xs[k] (List.getElem?_eq_getElem hk')
  obtain ⟨b2,o2,cs2,rfl, -,hR2,hcell2⟩:=hy k xs[k] (List.getElem?_eq_getElem hk')
  have hRk:=hR
  have hRk2:=hR2
  obtain ⟨q1,q2,q3,q4,rfl,hq1,hq2,hq3,hq4⟩:=hR
  obtain ⟨r1,r2,r3,r4,rfl,hr1,hr2,hr3,hr4⟩:=hR2
  obtain ⟨pq1,cq1,rfl, -⟩:=hq1.open
  obtain ⟨pq2,cq2,rfl, -⟩:=hq2.open
  obtain ⟨pq3,cq3,rfl, -⟩:=hq3.open
  obtain ⟨pq4,cq4,rfl, -⟩:=hq4.open
  obtain ⟨pr1,cr1,rfl, -⟩:=hr1.open
  obtain ⟨pr2,cr2,rfl, -⟩:=hr2.open
  obtain ⟨pr3,cr3,rfl, -⟩:=hr3.open
  obtain ⟨pr4,cr4,rfl, -⟩:=hr4.open
  refine cj_skip (K7 (sQ fun K8=>cj_block (sQ fun K9=>cj_reg (jM (k:=jJ ru23 so57 (k:=?_))))))
  refine j_valw rfl (fun a w ha hH hf=>r_loadA ag57 so57 rfl rfl (hcell w (hf.keepAll (.inr rfl))) ha) (j_allocA (zs:=[(.slice none 0 0),(.slice none 0 0),(.slice none 0 0),(.slice none 0 0)]) zv57 rfl fun b8=>jA (k:=jB [_,_,_,_] [_] 0 so57 (k:=K9 (sQ fun K10=>cj_reg (jM (k:=jM (k:=jJ ru23 so57 (k:=?_))))))))
  refine j_valw rfl (fun a w ha hH hf=>r_loadA ag57 so57 rfl rfl (hcell2 w (hf.keepAll (.inr rfl))) ha) (j_allocA (zs:=[(.slice none 0 0),(.slice none 0 0),(.slice none 0 0),(.slice none 0 0)]) zv57 rfl fun b9=>jB [_,_,_,_] [_,_] 0 so57 (k:=K10 (CJ.t [(1,_),(2,_),(8,_),(9,_),(15,_),(16,_),(17,_)] (k:=sQ fun K11=>cj_reg (jM (k:=?_))))))
  refine j_valw rfl (fun a w ha hH hf=>r_ldA (vs:=[_,_,_,_]) 1 rfl rfl ag57 so57 rfl rfl rfl ha hH) (j_valw rfl (fun a w ha hH hf=>r_ldA (vs:=[_,_,_,_]) 0 rfl rfl ag57 so57 rfl rfl rfl ha hH) ?_)
  refine j_callVQ (g:=40) (φ:=fun r=>r=.bool true) Tryz.call40 rfl rfl rfl (fun v' hH hf=>sameSam_c v' _ _ xs[k] (RSample.keep (hf.keepAll (.inr rfl)) _ _ hRk) (RSample.keep (hf.keepAll (.inr rfl)) _ _ hRk2)) fun r hr=>?_
  subst hr
  refine jU (k:=?_)
  refine j_eqv (u:=.bool false) rfl ?_
  refine K11 (cj_if_f rfl (cj_skip (K8 (cj_reg (jI (k:=jM (k:=j_nil (ej_then ?_))))))))
  exact fun w' hH hf=>hKL (k+1) _ w' hk' hf .nil (by omega) sR
 ·refine cj_exit (K4 (sQ fun K12=>cj_reg (jA (k:=K12 (cj_ret ?_)))))
  exact ej_ret1 Tryz.results39 rfl fun w' hH hf=>⟨rfl,hf⟩
theorem same_c (w:World) (cs ds:List Value) (x:PProf) (hR:RProf w cs x) (hR2:RProf w ds x):Calls Tryz.prog 11 #[.agg cs.toArray,.agg ds.toArray] w (Ret fun r w'=>r=.bool true∧Fr 0 [] w w'):=by
 obtain ⟨a,s,m,l,f,cm,rfl,ha,hs,hm,hl,hf0,hcm, -⟩:=hR
 obtain ⟨a2,s2,m2,l2,f2,cm2,rfl,ha2,hs2,hm2,hl2,hf2,hcm2, -⟩:=hR2
 obtain ⟨pa,ca,rfl, -⟩:=ha.open
 obtain ⟨ps,cs,rfl, -⟩:=hs.open
 obtain ⟨pm,cm,rfl, -⟩:=hm.open
 obtain ⟨pl,cl,rfl, -⟩:=hl.open
 obtain ⟨pf0,cf0,rfl, -⟩:=hf0.open
 obtain ⟨pcm,ccm,rfl, -⟩:=hcm.open
 obtain ⟨pa2,ca2,rfl, -⟩:=ha2.open
 obtain ⟨ps2,cs2,rfl, -⟩:=hs2.open
 obtain ⟨pm2,cm2,rfl, -⟩:=hm2.open
 obtain ⟨pl2,cl2,rfl, -⟩:=hl2.open
 obtain ⟨pf2,cf2,rfl, -⟩:=hf2.open
 obtain ⟨pcm2,ccm2,rfl, -⟩:=hcm2.open
 refine startJ (args:=[_,_]) [(0,.agg (List.toArray [_,_,_,_,_,_,_,_,_,_,_,_,_,_])),(1,.agg (List.toArray [_,_,_,_,_,_,_,_,_,_,_,_,_,_]))] 0 [] [] Tryz.func11 rfl Tryz.ntmps11 rfl rfl .nil ?_
 refine sQ fun K1=>cj_reg (j_boxA (vs:=[_,_,_,_,_,_,_,_,_,_,_,_,_,_]) rfl rfl fun b2=>j_boxA (vs:=[_,_,_,_,_,_,_,_,_,_,_,_,_,_]) rfl rfl fun b3=>jA (k:=K1 (sQ fun K2=>cj_reg (jF 0 ru31 so22 (k:=jH 1 ag22 (k:=jF 0 ru31 so22 (k:=jH 0 ag22 (k:=?_))))))))
 refine j_callQ (φ:=fun r=>r=.bool true) Tryz.call38 rfl rfl (fun w3 hH hf=>slTy_c w3 _ _ (x.types) (ha.keep (RType.keep (hf.keepAll (.inr rfl))) (hf.keepAll (.inr rfl))) (ha2.keep (RType.keep (hf.keepAll (.inr rfl))) (hf.keepAll (.inr rfl)))) fun r hr=>?_
 subst hr
 refine jM (k:=?_)
 refine j_gt rfl rfl (jF 1 ru31 so9 (k:=?_))
 refine j_gt rfl rfl (jH 1 ag9 (k:=?_))
 refine j_gt rfl rfl (jF 1 ru31 so9 (k:=?_))
 refine j_gt rfl rfl (jH 0 ag9 (k:=?_))
 refine j_gt rfl rfl (j_val rfl (fun _ _ h=>r_seql rfl rfl h) ?_)
 refine j_eqv (u:=.bool true) (congrArg Value.bool (by simp)) ?_
 refine jT (k:=jM (k:=?_))
 refine j_gt rfl rfl (jF 2 ru31 so23 (k:=?_))
 refine j_gt rfl rfl (jH 1 ag23 (k:=?_))
 refine j_gt rfl rfl (jF 2 ru31 so23 (k:=?_))
 refine j_gt rfl rfl (jH 0 ag23 (k:=?_))
 refine j_gt rfl rfl ?_
 refine j_callQ (φ:=fun r=>r=.bool true) Tryz.call39 rfl rfl (fun w3 hH hf=>sfSm_c w3 _ _ (x.samples) (hs.keep (RSample.keep (hf.keepAll (.inr rfl))) (hf.keepAll (.inr rfl))) (hs2.keep (RSample.keep (hf.keepAll (.inr rfl))) (hf.keepAll (.inr rfl)))) fun r hr=>?_
 subst hr
 refine jT (k:=jM (k:=?_))
 refine j_gt rfl rfl (jF 3 ru31 so24 (k:=?_))
 refine j_gt rfl rfl (jH 1 ag24 (k:=?_))
 refine j_gt rfl rfl (jF 3 ru31 so24 (k:=?_))
 refine j_gt rfl rfl (jH 0 ag24 (k:=?_))
 refine j_gt rfl rfl ?_
 refine j_callQ (φ:=fun r=>r=.bool true) Tryz.call41 rfl rfl (fun w3 hH hf=>slMp_c w3 _ _ (x.mappings) (hm.keep (RMapping.keep (hf.keepAll (.inr rfl))) (hf.keepAll (.inr rfl))) (hm2.keep (RMapping.keep (hf.keepAll (.inr rfl))) (hf.keepAll (.inr rfl)))) fun r hr=>?_
 subst hr
 refine jT (k:=jM (k:=?_))
 refine j_gt rfl rfl (jF 4 ru31 so25 (k:=?_))
 refine j_gt rfl rfl (jH 1 ag25 (k:=?_))
 refine j_gt rfl rfl (jF 4 ru31 so25 (k:=?_))
 refine j_gt rfl rfl (jH 0 ag25 (k:=?_))
 refine j_gt rfl rfl ?_
 refine j_callQ (φ:=fun r=>r=.bool true) Tryz.call42 rfl rfl (fun w3 hH hf=>sfLc_c w3 _ _ (x.locs) (hl.keep (RLoc.keep (hf.keepAll (.inr rfl))) (hf.keepAll (.inr rfl))) (hl2.keep (RLoc.keep (hf.keepAll (.inr rfl))) (hf.keepAll (.inr rfl)))) fun r hr=>?_
 subst hr
 refine jT (k:=jM (k:=?_))
 refine j_gt rfl rfl (jF 5 ru31 so26 (k:=?_))
 refine j_gt rfl rfl (jH 1 ag26 (k:=?_))
 refine j_gt rfl rfl (jF 5 ru31 so26 (k:=?_))
 refine j_gt rfl rfl (jH 0 ag26 (k:=?_))
 refine j_gt rfl rfl ?_
 refine j_callQ (φ:=fun r=>r=.bool true) Tryz.call44 rfl rfl (fun w3 hH hf=>slFn_c w3 _ _ (x.funcs) (hf0.keep (RFunc.keep (hf.keepAll (.inr rfl))) (hf.keepAll (.inr rfl))) (hf2.keep (RFunc.keep (hf.keepAll (.inr rfl))) (hf.keepAll (.inr rfl)))) fun r hr=>?_
 subst hr
 refine jT (k:=jM (k:=?_))
 refine j_gt rfl rfl (jF 6 ru31 so27 (k:=?_))
 refine j_gt rfl rfl (jH 1 ag27 (k:=?_))
 refine j_gt rfl rfl (jF 6 ru31 so27 (k:=?_))
 refine j_gt rfl rfl (jH 0 ag27 (k:=?_))
 refine j_gt rfl rfl ?_
 refine j_callQ (φ:=fun r=>r=.bool true) Tryz.call45 rfl rfl (fun w3 hH hf=>slSt_c w3 _ _ (x.comments) (hcm.keep (RStr.keep (hf.keepAll (.inr rfl))) (hf.keepAll (.inr rfl))) (hcm2.keep (RStr.keep (hf.keepAll (.inr rfl))) (hf.keepAll (.inr rfl)))) fun r hr=>?_
 subst hr
 refine jT (k:=jM (k:=?_))
 refine j_gt rfl rfl (jF 7 ru31 so9 (k:=?_))
 refine j_gt rfl rfl (jH 1 ag9 (k:=?_))
 refine j_gt rfl rfl (jF 7 ru31 so9 (k:=?_))
 refine j_gt rfl rfl (jH 0 ag9 (k:=?_))
 refine j_gt rfl rfl (j_val rfl (fun _ _ h=>r_seql rfl rfl h) ?_)
 refine j_eqv (u:=.bool true) (congrArg Value.bool (by simp)) ?_
 refine jT (k:=jM (k:=?_))
 refine j_gt rfl rfl (jF 8 ru31 so9 (k:=?_))
 refine j_gt rfl rfl (jH 1 ag9 (k:=?_))
 refine j_gt rfl rfl (jF 8 ru31 so9 (k:=?_))
 refine j_gt rfl rfl (jH 0 ag9 (k:=?_))
 refine j_gt rfl rfl (j_val rfl (fun _ _ h=>r_seql rfl rfl h) ?_)
 refine j_eqv (u:=.bool true) (congrArg Value.bool (by simp)) ?_
 refine jT (k:=jM (k:=?_))
 refine j_gt rfl rfl (jF 9 ru31 so2 (k:=?_))
 refine j_gt rfl rfl (jH 1 ag2 (k:=?_))
 refine j_gt rfl rfl (jF 9 ru31 so2 (k:=?_))
 refine j_gt rfl rfl (jH 0 ag2 (k:=?_))
 refine j_gt rfl rfl (jQ (k:=?_))
 refine j_eqv (u:=.bool true) (congrArg Value.bool (by simp)) ?_
 refine jT (k:=jM (k:=?_))
 refine j_gt rfl rfl (jF 10 ru31 so2 (k:=?_))
 refine j_gt rfl rfl (jH 1 ag2 (k:=?_))
 refine j_gt rfl rfl (jF 10 ru31 so2 (k:=?_))
 refine j_gt rfl rfl (jH 0 ag2 (k:=?_))
 refine j_gt rfl rfl (jQ (k:=?_))
 refine j_eqv (u:=.bool true) (congrArg Value.bool (by simp)) ?_
 refine jT (k:=jM (k:=?_))
 refine j_gt rfl rfl (jF 11 ru31 so2 (k:=?_))
 refine j_gt rfl rfl (jH 1 ag2 (k:=?_))
 refine j_gt rfl rfl (jF 11 ru31 so2 (k:=?_))
 refine j_gt rfl rfl (jH 0 ag2 (k:=?_))
 refine j_gt rfl rfl (jQ (k:=?_))
 refine j_eqv (u:=.bool true) (congrArg Value.bool (by simp)) ?_
 refine jT (k:=jM (k:=?_))
 refine j_gt rfl rfl (jF 12 ru31 so29 (k:=?_))
 refine j_gt rfl rfl (j_valw rfl (fun a w ha hH hf=>r_ldA (vs:=[_,_]) 1 rfl rfl ag29 so29 rfl rfl rfl ha hH) (j_gt rfl rfl (jF 12 ru31 so29 (k:=?_))))
 refine j_gt rfl rfl (j_valw rfl (fun a w ha hH hf=>r_ldA (vs:=[_,_]) 0 rfl rfl ag29 so29 rfl rfl rfl ha hH) (j_gt rfl rfl (j_val rfl (fun _ _ h=>r_eqlA (eqTy _ _) egTy rfl rfl h) (jT (k:=jA (k:=K2 (CJ.t [(4,_)] (k:=cj_ret ?_))))))))
 exact ej_ret1 Tryz.results11 rfl fun w' hH hf=>⟨rfl,hf⟩
theorem zzFits3_c (w:World) (cs:List Value) (x:PType) (h:RType w cs x):Calls Tryz.prog 24 #[.agg cs.toArray] w (Ret fun v w'=>(∃b,v=.bool b)∧Fr 0 [] w w'):=by
 unfold RType at h
 subst h
 refine startJ (args:=[_]) [(0,_)] 0 [] [] func24 rfl ntmps24 rfl rfl .nil ?_
 refine sQ fun K1=>cj_reg (j_boxA (vs:=[_,_]) rfl rfl fun b1=>jA (k:=K1 (sQ fun K2=>sQ fun K3=>cj_reg (jF 0 ru29 so9 (k:=jH 0 ag9 (k:=?_))))))
 refine j_val rfl (fun _ _ h=>r_slen ru9 rfl h) (jG (k:=K3 ?_))
 refine cj_dec rfl (fun _=>?_) (fun _=>?_)
 ·refine sQ fun K4=>cj_reg (jA (k:=K4 (cj_ret ?_)))
  exact ej_ret1 results24 rfl fun w' hH hf=>⟨⟨_,rfl⟩,hf⟩
 ·refine cj_skip (K2 (sQ fun K5=>sQ fun K6=>cj_reg (jF 1 ru29 so9 (k:=jH 0 ag9 (k:=?_)))))
  refine j_val rfl (fun _ _ h=>r_slen ru9 rfl h) (jG (k:=K6 (CJ.t [(10,_)] (k:=?_))))
  refine cj_dec rfl (fun _=>?_) (fun _=>?_)
  ·refine sQ fun K7=>cj_reg (jA (k:=K7 (cj_ret ?_)))
   exact ej_ret1 results24 rfl fun w' hH hf=>⟨⟨_,rfl⟩,hf⟩
  ·refine cj_skip (K5 (sQ fun K8=>cj_reg (jA (k:=K8 (cj_ret ?_)))))
   exact ej_ret1 results24 rfl fun w' hH hf=>⟨⟨_,rfl⟩,hf⟩
theorem zzFits2_c (w:World) (v:Value) (xs:List PType) (h:Lay RType 2 w v xs):Calls Tryz.prog 18 #[v] w (Ret fun v w'=>(∃b,v=.bool b∧(b=true→xs.length≤2147483647))∧Fr 0 [] w w'):=by
 obtain ⟨p,c,rfl,hl,hx⟩:=h.open
 refine startJ (args:=[_]) [(0,_)] 0 [] [] func18 rfl ntmps18 rfl rfl .nil ?_
 refine sQ fun K1=>cj_reg (jA (k:=K1 (sQ fun K2=>sQ fun K3=>cj_reg (jM (k:=jE ru22 (k:=jG (k:=K3 ?_)))))))
 refine cj_dec rfl (fun hbig=>?_) (fun hbig=>?_)
 ·refine sQ fun K4=>cj_reg (jA (k:=K4 (cj_ret ?_)))
  exact ej_ret1 results18 rfl fun w' hH hf=>⟨⟨_,rfl,by first|(intro h;exact absurd h (by decide))|(intro _;omega)⟩,hf⟩
 ·refine cj_skip (K2 (sQ fun K5=>sQ fun K6=>cj_reg (jM (k:=jE ru22 (k:=jM (k:=K6 (cj_block ?_)))))))
  refine cj_loop (σ:=Nat) (fun k=>[(8,.slice p xs.length c),(9,.int .i64 (xs.length:Nat)),(10,.int .i64 (k:Nat))]) (fun _=>[]) (fun k _=>k≤xs.length) (fun k=>xs.length - k) 0 sR (fun w hH hf=>⟨.nil,Nat.zero_le _⟩) ?_
  intro k w1 hk hf1 hH1 KL hKL
  refine C.begin _ [] hf1 .nil ?_
  refine sQ fun K7=>cj_reg (jS (k:=K7 (sQ fun K8=>?_)))
  refine cj_dec rfl (fun hlt=>?_) (fun hlt=>?_)
  ·have hlt':k<xs.length:=by omega
   obtain ⟨b,o,cs,rfl,hcs,hR,hcell⟩:=hx k xs[k] (List.getElem?_eq_getElem hlt')
   have hR':=hR
   unfold RType at hR
   subst hR
   refine cj_skip (K8 (sQ fun K9=>cj_block (sQ fun K10=>cj_reg (jJ ru22 so29 (k:=?_)))))
   refine j_valw rfl (fun a w ha hH hf=>r_loadA ag29 so29 rfl rfl (hcell w (hf.keepAll (.inr rfl))) ha) (j_allocA (zs:=[(.string ⟨#[]⟩),(.string ⟨#[]⟩)]) zv29 rfl fun b4=>jB [_,_] [_] 0 so29 (k:=K10 (sQ fun K11=>cj_reg ?_)))
   refine j_valw rfl (fun a w ha hH hf=>r_ldA (vs:=[_,_]) 0 rfl rfl ag29 so29 rfl rfl rfl ha hH) ?_
   refine j_callQ (φ:=fun v=>∃b,v=.bool b) call24 rfl rfl (fun w hH hf=>zzFits3_c w _ _ (RType.keep (hf.keepAll (.inr rfl)) _ _ hR')) ?_
   rintro _ ⟨b15,rfl⟩
   refine jU (k:=K11 ?_)
   refine cj_if rfl (fun _=>?_) (fun _=>?_)
   ·refine sQ fun K12=>cj_reg (jA (k:=K12 (cj_ret ?_)))
    exact ej_ret1 results18 rfl fun w' hH hf=>⟨⟨_,rfl,by first|(intro h;exact absurd h (by decide))|(intro _;omega)⟩,hf⟩
   ·refine cj_skip (K9 (cj_reg (jI (k:=jM (k:=j_nil (ej_then ?_))))))
    exact fun w hH hf=>hKL (k+1) _ w hlt' hf .nil (by omega) sR
  ·refine cj_exit (K5 (CJ.t [] (k:=sQ fun K13=>cj_reg (jA (k:=K13 (cj_ret ?_))))))
   exact ej_ret1 results18 rfl fun w' hH hf=>⟨⟨_,rfl,by first|(intro h;exact absurd h (by decide))|(intro _;omega)⟩,hf⟩
theorem zzFits8_c (w:World) (v:Value) (xs:List ByteArray) (h:Lay RStr 1 w v xs):Calls Tryz.prog 23 #[v] w (Ret fun v w'=>(∃b,v=.bool b∧(b=true→xs.length≤2147483647))∧Fr 0 [] w w'):=by
 obtain ⟨p,c,rfl,hl,hx⟩:=h.open
 refine startJ (args:=[_]) [(0,_)] 0 [] [] func23 rfl ntmps23 rfl rfl .nil ?_
 refine sQ fun K1=>cj_reg (jA (k:=K1 (sQ fun K2=>sQ fun K3=>cj_reg (jM (k:=jE ru27 (k:=jG (k:=K3 ?_)))))))
 refine cj_dec rfl (fun hbig=>?_) (fun hbig=>?_)
 ·refine sQ fun K4=>cj_reg (jA (k:=K4 (cj_ret ?_)))
  exact ej_ret1 results23 rfl fun w' hH hf=>⟨⟨_,rfl,by first|(intro h;exact absurd h (by decide))|(intro _;omega)⟩,hf⟩
 ·refine cj_skip (K2 (sQ fun K5=>sQ fun K6=>cj_reg (jM (k:=jE ru27 (k:=jM (k:=K6 (cj_block ?_)))))))
  refine cj_loop (σ:=Nat) (fun k=>[(8,.slice p xs.length c),(9,.int .i64 (xs.length:Nat)),(10,.int .i64 (k:Nat))]) (fun _=>[]) (fun k _=>k≤xs.length) (fun k=>xs.length - k) 0 sR (fun w hH hf=>⟨.nil,Nat.zero_le _⟩) ?_
  intro k w1 hk hf1 hH1 KL hKL
  refine C.begin _ [] hf1 .nil ?_
  refine sQ fun K7=>cj_reg (jS (k:=K7 (sQ fun K8=>?_)))
  refine cj_dec rfl (fun hlt=>?_) (fun hlt=>?_)
  ·have hlt':k<xs.length:=by omega
   obtain ⟨b,o,cs,rfl,hcs,hR,hcell⟩:=hx k xs[k] (List.getElem?_eq_getElem hlt')
   unfold RStr at hR
   subst hR
   refine cj_skip (K8 (sQ fun K9=>cj_block (sQ fun K10=>cj_reg (jJ ru27 so9 (k:=?_)))))
   refine j_valw rfl (fun a w ha hH hf=>r_load ag9 rfl (hcell w (hf.keepAll (.inr rfl)) 0 _ rfl) ha) (jA (k:=K10 (sQ fun K11=>cj_reg (jM (k:=?_)))))
   refine j_val rfl (fun _ _ h=>r_slen ru9 rfl h) (jG (k:=K11 ?_))
   refine cj_dec rfl (fun _=>?_) (fun _=>?_)
   ·refine sQ fun K12=>cj_reg (jA (k:=K12 (cj_ret ?_)))
    exact ej_ret1 results23 rfl fun w' hH hf=>⟨⟨_,rfl,by first|(intro h;exact absurd h (by decide))|(intro _;omega)⟩,hf⟩
   ·refine cj_skip (K9 (cj_reg (jI (k:=jM (k:=j_nil (ej_then ?_))))))
    exact fun w hH hf=>hKL (k+1) _ w hlt' hf .nil (by omega) sR
  ·refine cj_exit (K5 (CJ.t [] (k:=sQ fun K13=>cj_reg (jA (k:=K13 (cj_ret ?_))))))
   exact ej_ret1 results23 rfl fun w' hH hf=>⟨⟨_,rfl,by first|(intro h;exact absurd h (by decide))|(intro _;omega)⟩,hf⟩
theorem zzFits7_c (w:World) (cs:List Value) (x:PTexts) (h:RTexts w cs x):Calls Tryz.prog 108 #[.agg cs.toArray] w (Ret fun v w'=>(∃b,v=.bool b)∧Fr 0 [] w w'):=by
 obtain ⟨la,rfl,hla⟩:=h
 refine startJ (args:=[_]) [(0,_)] 0 [] [] func108 rfl ntmps108 rfl rfl .nil ?_
 refine sQ fun K1=>cj_reg (j_boxA (vs:=[_,_]) rfl rfl fun b1=>jA (k:=K1 (sQ fun K2=>sQ fun K3=>cj_reg (jF 0 ru109 so9 (k:=jH 0 ag9 (k:=?_))))))
 refine j_val rfl (fun _ _ h=>r_slen ru9 rfl h) (jG (k:=K3 ?_))
 refine cj_dec rfl (fun _=>?_) (fun _=>?_)
 ·refine sQ fun K4=>cj_reg (jA (k:=K4 (cj_ret ?_)))
  exact ej_ret1 results108 rfl fun w' hH hf=>⟨⟨_,rfl⟩,hf⟩
 ·refine cj_skip (K2 (sQ fun K5=>sQ fun K6=>cj_reg (jF 1 ru109 so27 (k:=jH 0 ag27 (k:=?_)))))
  refine j_callQ (φ:=fun v=>∃b,v=.bool b∧(b=true→x.list.length≤2147483647)) call23 rfl rfl (fun w hH hf=>zzFits8_c w _ _ (hla.keep (RStr.keep (hf.keepAll (.inr rfl))) (hf.keepAll (.inr rfl)))) ?_
  rintro _ ⟨b9,rfl,hb9⟩
  refine jU (k:=K6 (CJ.t [(10,_)] (k:=?_)))
  refine cj_if rfl (fun _=>?_) (fun _=>?_)
  ·refine sQ fun K7=>cj_reg (jA (k:=K7 (cj_ret ?_)))
   exact ej_ret1 results108 rfl fun w' hH hf=>⟨⟨_,rfl⟩,hf⟩
  ·refine cj_skip (K5 (sQ fun K8=>cj_reg (jA (k:=K8 (cj_ret ?_)))))
   exact ej_ret1 results108 rfl fun w' hH hf=>⟨⟨_,rfl⟩,hf⟩
theorem zzFits6_c (w:World) (v:Value) (xs:List PTexts) (h:Lay RTexts 2 w v xs):Calls Tryz.prog 92 #[v] w (Ret fun v w'=>(∃b,v=.bool b∧(b=true→xs.length≤2147483647))∧Fr 0 [] w w'):=by
 obtain ⟨p,c,rfl,hl,hx⟩:=h.open
 refine startJ (args:=[_]) [(0,_)] 0 [] [] func92 rfl ntmps92 rfl rfl .nil ?_
 refine sQ fun K1=>cj_reg (jA (k:=K1 (sQ fun K2=>sQ fun K3=>cj_reg (jM (k:=jE ru54 (k:=jG (k:=K3 ?_)))))))
 refine cj_dec rfl (fun hbig=>?_) (fun hbig=>?_)
 ·refine sQ fun K4=>cj_reg (jA (k:=K4 (cj_ret ?_)))
  exact ej_ret1 results92 rfl fun w' hH hf=>⟨⟨_,rfl,by first|(intro h;exact absurd h (by decide))|(intro _;omega)⟩,hf⟩
 ·refine cj_skip (K2 (sQ fun K5=>sQ fun K6=>cj_reg (jM (k:=jE ru54 (k:=jM (k:=K6 (cj_block ?_)))))))
  refine cj_loop (σ:=Nat) (fun k=>[(8,.slice p xs.length c),(9,.int .i64 (xs.length:Nat)),(10,.int .i64 (k:Nat))]) (fun _=>[]) (fun k _=>k≤xs.length) (fun k=>xs.length - k) 0 sR (fun w hH hf=>⟨.nil,Nat.zero_le _⟩) ?_
  intro k w1 hk hf1 hH1 KL hKL
  refine C.begin _ [] hf1 .nil ?_
  refine sQ fun K7=>cj_reg (jS (k:=K7 (sQ fun K8=>?_)))
  refine cj_dec rfl (fun hlt=>?_) (fun hlt=>?_)
  ·have hlt':k<xs.length:=by omega
   obtain ⟨b,o,cs,rfl,hcs,hR,hcell⟩:=hx k xs[k] (List.getElem?_eq_getElem hlt')
   have hR':=hR
   obtain ⟨la,rfl,hla⟩:=hR
   obtain ⟨p1,c1,rfl,hl1, -⟩:=hla.open
   refine cj_skip (K8 (sQ fun K9=>cj_block (sQ fun K10=>cj_reg (jJ ru54 so109 (k:=?_)))))
   refine j_valw rfl (fun a w ha hH hf=>r_loadA ag109 so109 rfl rfl (hcell w (hf.keepAll (.inr rfl))) ha) (j_allocA (zs:=[(.string ⟨#[]⟩),(.slice none 0 0)]) zv109 rfl fun b4=>jB [_,_] [_] 0 so109 (k:=K10 (sQ fun K11=>cj_reg ?_)))
   refine j_valw rfl (fun a w ha hH hf=>r_ldA (vs:=[_,_]) 0 rfl rfl ag109 so109 rfl rfl rfl ha hH) ?_
   refine j_callQ (φ:=fun v=>∃b,v=.bool b) call108 rfl rfl (fun w hH hf=>zzFits7_c w _ _ (RTexts.keep (hf.keepAll (.inr rfl)) _ _ hR')) ?_
   rintro _ ⟨b15,rfl⟩
   refine jU (k:=K11 ?_)
   refine cj_if rfl (fun _=>?_) (fun _=>?_)
   ·refine sQ fun K12=>cj_reg (jA (k:=K12 (cj_ret ?_)))
    exact ej_ret1 results92 rfl fun w' hH hf=>⟨⟨_,rfl,by first|(intro h;exact absurd h (by decide))|(intro _;omega)⟩,hf⟩
   ·refine cj_skip (K9 (cj_reg (jI (k:=jM (k:=j_nil (ej_then ?_))))))
    exact fun w hH hf=>hKL (k+1) _ w hlt' hf .nil (by omega) sR
  ·refine cj_exit (K5 (CJ.t [] (k:=sQ fun K13=>cj_reg (jA (k:=K13 (cj_ret ?_))))))
   exact ej_ret1 results92 rfl fun w' hH hf=>⟨⟨_,rfl,by first|(intro h;exact absurd h (by decide))|(intro _;omega)⟩,hf⟩
theorem zzFits10_c (w:World) (cs:List Value) (x:PNums) (h:RNums w cs x):Calls Tryz.prog 109 #[.agg cs.toArray] w (Ret fun v w'=>(∃b,v=.bool b)∧Fr 0 [] w w'):=by
 obtain ⟨la,rfl,hla⟩:=h
 obtain ⟨p1,c1,rfl,hl1, -⟩:=hla.open
 refine startJ (args:=[_]) [(0,_)] 0 [] [] func109 rfl ntmps109 rfl rfl .nil ?_
 refine sQ fun K1=>cj_reg (j_boxA (vs:=[_,_]) rfl rfl fun b1=>jA (k:=K1 (sQ fun K2=>sQ fun K3=>cj_reg (jF 0 ru112 so9 (k:=jH 0 ag9 (k:=?_))))))
 refine j_val rfl (fun _ _ h=>r_slen ru9 rfl h) (jG (k:=K3 ?_))
 refine cj_dec rfl (fun _=>?_) (fun _=>?_)
 ·refine sQ fun K4=>cj_reg (jA (k:=K4 (cj_ret ?_)))
  exact ej_ret1 results109 rfl fun w' hH hf=>⟨⟨_,rfl⟩,hf⟩
 ·refine cj_skip (K2 (sQ fun K5=>sQ fun K6=>cj_reg (jF 1 ru112 so53 (k:=jH 0 ag53 (k:=jE ru53 (k:=jG (k:=K6 (CJ.t [(10,_)] (k:=?_)))))))))
  refine cj_dec rfl (fun _=>?_) (fun _=>?_)
  ·refine sQ fun K7=>cj_reg (jA (k:=K7 (cj_ret ?_)))
   exact ej_ret1 results109 rfl fun w' hH hf=>⟨⟨_,rfl⟩,hf⟩
  ·refine cj_skip (K5 (sQ fun K8=>cj_reg (jA (k:=K8 (cj_ret ?_)))))
   exact ej_ret1 results109 rfl fun w' hH hf=>⟨⟨_,rfl⟩,hf⟩
theorem zzFits9_c (w:World) (v:Value) (xs:List PNums) (h:Lay RNums 2 w v xs):Calls Tryz.prog 93 #[v] w (Ret fun v w'=>(∃b,v=.bool b∧(b=true→xs.length≤2147483647))∧Fr 0 [] w w'):=by
 obtain ⟨p,c,rfl,hl,hx⟩:=h.open
 refine startJ (args:=[_]) [(0,_)] 0 [] [] func93 rfl ntmps93 rfl rfl .nil ?_
 refine sQ fun K1=>cj_reg (jA (k:=K1 (sQ fun K2=>sQ fun K3=>cj_reg (jM (k:=jE ru55 (k:=jG (k:=K3 ?_)))))))
 refine cj_dec rfl (fun hbig=>?_) (fun hbig=>?_)
 ·refine sQ fun K4=>cj_reg (jA (k:=K4 (cj_ret ?_)))
  exact ej_ret1 results93 rfl fun w' hH hf=>⟨⟨_,rfl,by first|(intro h;exact absurd h (by decide))|(intro _;omega)⟩,hf⟩
 ·refine cj_skip (K2 (sQ fun K5=>sQ fun K6=>cj_reg (jM (k:=jE ru55 (k:=jM (k:=K6 (cj_block ?_)))))))
  refine cj_loop (σ:=Nat) (fun k=>[(8,.slice p xs.length c),(9,.int .i64 (xs.length:Nat)),(10,.int .i64 (k:Nat))]) (fun _=>[]) (fun k _=>k≤xs.length) (fun k=>xs.length - k) 0 sR (fun w hH hf=>⟨.nil,Nat.zero_le _⟩) ?_
  intro k w1 hk hf1 hH1 KL hKL
  refine C.begin _ [] hf1 .nil ?_
  refine sQ fun K7=>cj_reg (jS (k:=K7 (sQ fun K8=>?_)))
  refine cj_dec rfl (fun hlt=>?_) (fun hlt=>?_)
  ·have hlt':k<xs.length:=by omega
   obtain ⟨b,o,cs,rfl,hcs,hR,hcell⟩:=hx k xs[k] (List.getElem?_eq_getElem hlt')
   have hR':=hR
   obtain ⟨la,rfl,hla⟩:=hR
   obtain ⟨p1,c1,rfl,hl1, -⟩:=hla.open
   refine cj_skip (K8 (sQ fun K9=>cj_block (sQ fun K10=>cj_reg (jJ ru55 so112 (k:=?_)))))
   refine j_valw rfl (fun a w ha hH hf=>r_loadA ag112 so112 rfl rfl (hcell w (hf.keepAll (.inr rfl))) ha) (j_allocA (zs:=[(.string ⟨#[]⟩),(.slice none 0 0)]) zv112 rfl fun b4=>jB [_,_] [_] 0 so112 (k:=K10 (sQ fun K11=>cj_reg ?_)))
   refine j_valw rfl (fun a w ha hH hf=>r_ldA (vs:=[_,_]) 0 rfl rfl ag112 so112 rfl rfl rfl ha hH) ?_
   refine j_callQ (φ:=fun v=>∃b,v=.bool b) call109 rfl rfl (fun w hH hf=>zzFits10_c w _ _ (RNums.keep (hf.keepAll (.inr rfl)) _ _ hR')) ?_
   rintro _ ⟨b15,rfl⟩
   refine jU (k:=K11 ?_)
   refine cj_if rfl (fun _=>?_) (fun _=>?_)
   ·refine sQ fun K12=>cj_reg (jA (k:=K12 (cj_ret ?_)))
    exact ej_ret1 results93 rfl fun w' hH hf=>⟨⟨_,rfl,by first|(intro h;exact absurd h (by decide))|(intro _;omega)⟩,hf⟩
   ·refine cj_skip (K9 (cj_reg (jI (k:=jM (k:=j_nil (ej_then ?_))))))
    exact fun w hH hf=>hKL (k+1) _ w hlt' hf .nil (by omega) sR
  ·refine cj_exit (K5 (CJ.t [] (k:=sQ fun K13=>cj_reg (jA (k:=K13 (cj_ret ?_))))))
   exact ej_ret1 results93 rfl fun w' hH hf=>⟨⟨_,rfl,by first|(intro h;exact absurd h (by decide))|(intro _;omega)⟩,hf⟩
theorem zzFits5_c (w:World) (cs:List Value) (x:PSample) (h:RSample w cs x):Calls Tryz.prog 57 #[.agg cs.toArray] w (Ret fun v w'=>(∃b,v=.bool b)∧Fr 0 [] w w'):=by
 obtain ⟨la,lb,lt,lu,rfl,hla,hlb,hlt,hlu⟩:=h
 obtain ⟨p1,c1,rfl,hl1, -⟩:=hla.open
 obtain ⟨p2,c2,rfl,hl2, -⟩:=hlb.open
 refine startJ (args:=[_]) [(0,_)] 0 [] [] func57 rfl ntmps57 rfl rfl .nil ?_
 refine sQ fun K1=>cj_reg (j_boxA (vs:=[_,_,_,_]) rfl rfl fun b1=>jA (k:=K1 (sQ fun K2=>sQ fun K3=>cj_reg (jF 0 ru57 so32 (k:=jH 0 ag32 (k:=jE ru32 (k:=jG (k:=K3 ?_))))))))
 refine cj_dec rfl (fun _=>?_) (fun _=>?_)
 ·refine sQ fun K4=>cj_reg (jA (k:=K4 (cj_ret ?_)))
  exact ej_ret1 results57 rfl fun w' hH hf=>⟨⟨_,rfl⟩,hf⟩
 ·refine cj_skip (K2 (sQ fun K5=>sQ fun K6=>cj_reg (jF 1 ru57 so53 (k:=jH 0 ag53 (k:=jE ru53 (k:=jG (k:=K6 (CJ.t [(1,_),(10,_)] (k:=?_)))))))))
  refine cj_dec rfl (fun _=>?_) (fun _=>?_)
  ·refine sQ fun K7=>cj_reg (jA (k:=K7 (cj_ret ?_)))
   exact ej_ret1 results57 rfl fun w' hH hf=>⟨⟨_,rfl⟩,hf⟩
  ·refine cj_skip (K5 (sQ fun K8=>sQ fun K9=>cj_reg (jF 2 ru57 so54 (k:=jH 0 ag54 (k:=?_)))))
   refine j_callQ (φ:=fun v=>∃b,v=.bool b∧(b=true→x.texts.length≤2147483647)) call92 rfl rfl (fun w hH hf=>zzFits6_c w _ _ (hlt.keep (RTexts.keep (hf.keepAll (.inr rfl))) (hf.keepAll (.inr rfl)))) ?_
   rintro _ ⟨b13,rfl,hb13⟩
   refine jU (k:=K9 ?_)
   refine cj_if rfl (fun _=>?_) (fun _=>?_)
   ·refine sQ fun K10=>cj_reg (jA (k:=K10 (cj_ret ?_)))
    exact ej_ret1 results57 rfl fun w' hH hf=>⟨⟨_,rfl⟩,hf⟩
   ·refine cj_skip (K8 (sQ fun K11=>sQ fun K12=>cj_reg (jF 3 ru57 so55 (k:=jH 0 ag55 (k:=?_)))))
    refine j_callQ (φ:=fun v=>∃b,v=.bool b∧(b=true→x.nums.length≤2147483647)) call93 rfl rfl (fun w hH hf=>zzFits9_c w _ _ (hlu.keep (RNums.keep (hf.keepAll (.inr rfl))) (hf.keepAll (.inr rfl)))) ?_
    rintro _ ⟨b17,rfl,hb17⟩
    refine jU (k:=K12 (CJ.t [(18,_)] (k:=?_)))
    refine cj_if rfl (fun _=>?_) (fun _=>?_)
    ·refine sQ fun K13=>cj_reg (jA (k:=K13 (cj_ret ?_)))
     exact ej_ret1 results57 rfl fun w' hH hf=>⟨⟨_,rfl⟩,hf⟩
    ·refine cj_skip (K11 (sQ fun K14=>cj_reg (jA (k:=K14 (cj_ret ?_)))))
     exact ej_ret1 results57 rfl fun w' hH hf=>⟨⟨_,rfl⟩,hf⟩
theorem zzFits4_c (w:World) (v:Value) (xs:List PSample) (h:Lay RSample 4 w v xs):Calls Tryz.prog 19 #[v] w (Ret fun v w'=>(∃b,v=.bool b∧(b=true→xs.length≤2147483647))∧Fr 0 [] w w'):=by
 obtain ⟨p,c,rfl,hl,hx⟩:=h.open
 refine startJ (args:=[_]) [(0,_)] 0 [] [] func19 rfl ntmps19 rfl rfl .nil ?_
 refine sQ fun K1=>cj_reg (jA (k:=K1 (sQ fun K2=>sQ fun K3=>cj_reg (jM (k:=jE ru23 (k:=jG (k:=K3 ?_)))))))
 refine cj_dec rfl (fun hbig=>?_) (fun hbig=>?_)
 ·refine sQ fun K4=>cj_reg (jA (k:=K4 (cj_ret ?_)))
  exact ej_ret1 results19 rfl fun w' hH hf=>⟨⟨_,rfl,by first|(intro h;exact absurd h (by decide))|(intro _;omega)⟩,hf⟩
 ·refine cj_skip (K2 (sQ fun K5=>sQ fun K6=>cj_reg (jM (k:=jE ru23 (k:=jM (k:=K6 (cj_block ?_)))))))
  refine cj_loop (σ:=Nat) (fun k=>[(8,.slice p xs.length c),(9,.int .i64 (xs.length:Nat)),(10,.int .i64 (k:Nat))]) (fun _=>[]) (fun k _=>k≤xs.length) (fun k=>xs.length - k) 0 sR (fun w hH hf=>⟨.nil,Nat.zero_le _⟩) ?_
  intro k w1 hk hf1 hH1 KL hKL
  refine C.begin _ [] hf1 .nil ?_
  refine sQ fun K7=>cj_reg (jS (k:=K7 (sQ fun K8=>?_)))
  refine cj_dec rfl (fun hlt=>?_) (fun hlt=>?_)
  ·have hlt':k<xs.length:=by omega
   obtain ⟨b,o,cs,rfl,hcs,hR,hcell⟩:=hx k xs[k] (List.getElem?_eq_getElem hlt')
   have hR':=hR
   obtain ⟨la,lb,lt,lu,rfl,hla,hlb,hlt2,hlu⟩:=hR
   obtain ⟨p1,c1,rfl,hl1, -⟩:=hla.open
   obtain ⟨p2,c2,rfl,hl2, -⟩:=hlb.open
   obtain ⟨p3,c3,rfl,hl3, -⟩:=hlt2.open
   obtain ⟨p4,c4,rfl,hl4, -⟩:=hlu.open
   refine cj_skip (K8 (sQ fun K9=>cj_block (sQ fun K10=>cj_reg (jJ ru23 so57 (k:=?_)))))
   refine j_valw rfl (fun a w ha hH hf=>r_loadA ag57 so57 rfl rfl (hcell w (hf.keepAll (.inr rfl))) ha) (j_allocA (zs:=[(.slice none 0 0),(.slice none 0 0),(.slice none 0 0),(.slice none 0 0)]) zv57 rfl fun b4=>jB [_,_,_,_] [_] 0 so57 (k:=K10 (sQ fun K11=>cj_reg ?_)))
   refine j_valw rfl (fun a w ha hH hf=>r_ldA (vs:=[_,_,_,_]) 0 rfl rfl ag57 so57 rfl rfl rfl ha hH) ?_
   refine j_callQ (φ:=fun v=>∃b,v=.bool b) call57 rfl rfl (fun w hH hf=>zzFits5_c w _ _ (RSample.keep (hf.keepAll (.inr rfl)) _ _ hR')) ?_
   rintro _ ⟨b15,rfl⟩
   refine jU (k:=K11 ?_)
   refine cj_if rfl (fun _=>?_) (fun _=>?_)
   ·refine sQ fun K12=>cj_reg (jA (k:=K12 (cj_ret ?_)))
    exact ej_ret1 results19 rfl fun w' hH hf=>⟨⟨_,rfl,by first|(intro h;exact absurd h (by decide))|(intro _;omega)⟩,hf⟩
   ·refine cj_skip (K9 (cj_reg (jI (k:=jM (k:=j_nil (ej_then ?_))))))
    exact fun w hH hf=>hKL (k+1) _ w hlt' hf .nil (by omega) sR
  ·refine cj_exit (K5 (CJ.t [] (k:=sQ fun K13=>cj_reg (jA (k:=K13 (cj_ret ?_))))))
   exact ej_ret1 results19 rfl fun w' hH hf=>⟨⟨_,rfl,by first|(intro h;exact absurd h (by decide))|(intro _;omega)⟩,hf⟩
theorem zzFits12_c (w:World) (cs:List Value) (x:PMapping) (h:RMapping w cs x):Calls Tryz.prog 58 #[.agg cs.toArray] w (Ret fun v w'=>(∃b,v=.bool b)∧Fr 0 [] w w'):=by
 obtain ⟨rfl, -⟩:=h
 refine startJ (args:=[_]) [(0,_)] 0 [] [] func58 rfl ntmps58 rfl rfl .nil ?_
 refine sQ fun K1=>cj_reg (j_boxA (vs:=[_,_,_,_,_,_,_,_,_,_]) rfl rfl fun b1=>jA (k:=K1 (sQ fun K2=>sQ fun K3=>cj_reg (jF 4 ru73 so9 (k:=jH 0 ag9 (k:=?_))))))
 refine j_val rfl (fun _ _ h=>r_slen ru9 rfl h) (jG (k:=K3 ?_))
 refine cj_dec rfl (fun _=>?_) (fun _=>?_)
 ·refine sQ fun K4=>cj_reg (jA (k:=K4 (cj_ret ?_)))
  exact ej_ret1 results58 rfl fun w' hH hf=>⟨⟨_,rfl⟩,hf⟩
 ·refine cj_skip (K2 (sQ fun K5=>sQ fun K6=>cj_reg (jF 5 ru73 so9 (k:=jH 0 ag9 (k:=?_)))))
  refine j_val rfl (fun _ _ h=>r_slen ru9 rfl h) (jG (k:=K6 (CJ.t [(10,_)] (k:=?_))))
  refine cj_dec rfl (fun _=>?_) (fun _=>?_)
  ·refine sQ fun K7=>cj_reg (jA (k:=K7 (cj_ret ?_)))
   exact ej_ret1 results58 rfl fun w' hH hf=>⟨⟨_,rfl⟩,hf⟩
  ·refine cj_skip (K5 (sQ fun K8=>cj_reg (jA (k:=K8 (cj_ret ?_)))))
   exact ej_ret1 results58 rfl fun w' hH hf=>⟨⟨_,rfl⟩,hf⟩
theorem zzFits11_c (w:World) (v:Value) (xs:List PMapping) (h:Lay RMapping 10 w v xs):Calls Tryz.prog 20 #[v] w (Ret fun v w'=>(∃b,v=.bool b∧(b=true→xs.length≤2147483647))∧Fr 0 [] w w'):=by
 obtain ⟨p,c,rfl,hl,hx⟩:=h.open
 refine startJ (args:=[_]) [(0,_)] 0 [] [] func20 rfl ntmps20 rfl rfl .nil ?_
 refine sQ fun K1=>cj_reg (jA (k:=K1 (sQ fun K2=>sQ fun K3=>cj_reg (jM (k:=jE ru24 (k:=jG (k:=K3 ?_)))))))
 refine cj_dec rfl (fun hbig=>?_) (fun hbig=>?_)
 ·refine sQ fun K4=>cj_reg (jA (k:=K4 (cj_ret ?_)))
  exact ej_ret1 results20 rfl fun w' hH hf=>⟨⟨_,rfl,by first|(intro h;exact absurd h (by decide))|(intro _;omega)⟩,hf⟩
 ·refine cj_skip (K2 (sQ fun K5=>sQ fun K6=>cj_reg (jM (k:=jE ru24 (k:=jM (k:=K6 (cj_block ?_)))))))
  refine cj_loop (σ:=Nat) (fun k=>[(8,.slice p xs.length c),(9,.int .i64 (xs.length:Nat)),(10,.int .i64 (k:Nat))]) (fun _=>[]) (fun k _=>k≤xs.length) (fun k=>xs.length - k) 0 sR (fun w hH hf=>⟨.nil,Nat.zero_le _⟩) ?_
  intro k w1 hk hf1 hH1 KL hKL
  refine C.begin _ [] hf1 .nil ?_
  refine sQ fun K7=>cj_reg (jS (k:=K7 (sQ fun K8=>?_)))
  refine cj_dec rfl (fun hlt=>?_) (fun hlt=>?_)
  ·have hlt':k<xs.length:=by omega
   obtain ⟨b,o,cs,rfl,hcs,hR,hcell⟩:=hx k xs[k] (List.getElem?_eq_getElem hlt')
   have hR':=hR
   obtain ⟨rfl, -⟩:=hR
   refine cj_skip (K8 (sQ fun K9=>cj_block (sQ fun K10=>cj_reg (jJ ru24 so73 (k:=?_)))))
   refine j_valw rfl (fun a w ha hH hf=>r_loadA ag73 so73 rfl rfl (hcell w (hf.keepAll (.inr rfl))) ha) (j_allocA (zs:=[(.int .u64 0),(.int .u64 0),(.int .u64 0),(.int .u64 0),(.string ⟨#[]⟩),(.string ⟨#[]⟩),(.bool false),(.bool false),(.bool false),(.bool false)]) zv73 rfl fun b4=>jB [_,_,_,_,_,_,_,_,_,_] [_] 0 so73 (k:=K10 (sQ fun K11=>cj_reg ?_)))
   refine j_valw rfl (fun a w ha hH hf=>r_ldA (vs:=[_,_,_,_,_,_,_,_,_,_]) 0 rfl rfl ag73 so73 rfl rfl rfl ha hH) ?_
   refine j_callQ (φ:=fun v=>∃b,v=.bool b) call58 rfl rfl (fun w hH hf=>zzFits12_c w _ _ (RMapping.keep (hf.keepAll (.inr rfl)) _ _ hR')) ?_
   rintro _ ⟨b15,rfl⟩
   refine jU (k:=K11 ?_)
   refine cj_if rfl (fun _=>?_) (fun _=>?_)
   ·refine sQ fun K12=>cj_reg (jA (k:=K12 (cj_ret ?_)))
    exact ej_ret1 results20 rfl fun w' hH hf=>⟨⟨_,rfl,by first|(intro h;exact absurd h (by decide))|(intro _;omega)⟩,hf⟩
   ·refine cj_skip (K9 (cj_reg (jI (k:=jM (k:=j_nil (ej_then ?_))))))
    exact fun w hH hf=>hKL (k+1) _ w hlt' hf .nil (by omega) sR
  ·refine cj_exit (K5 (CJ.t [] (k:=sQ fun K13=>cj_reg (jA (k:=K13 (cj_ret ?_))))))
   exact ej_ret1 results20 rfl fun w' hH hf=>⟨⟨_,rfl,by first|(intro h;exact absurd h (by decide))|(intro _;omega)⟩,hf⟩
theorem zzFits14_c (w:World) (cs:List Value) (x:PLoc) (h:RLoc w cs x):Calls Tryz.prog 59 #[.agg cs.toArray] w (Ret fun v w'=>(∃b,v=.bool b)∧Fr 0 [] w w'):=by
 obtain ⟨la,rfl, -, -, -,hla⟩:=h
 obtain ⟨p1,c1,rfl,hl1, -⟩:=hla.open
 refine startJ (args:=[_]) [(0,_)] 0 [] [] func59 rfl ntmps59 rfl rfl .nil ?_
 refine sQ fun K1=>cj_reg (j_boxA (vs:=[_,_,_,_]) rfl rfl fun b1=>jA (k:=K1 (sQ fun K2=>sQ fun K3=>cj_reg (jF 3 ru77 so75 (k:=jH 0 ag75 (k:=jE ru75 (k:=jG (k:=K3 ?_))))))))
 refine cj_dec rfl (fun _=>?_) (fun _=>?_)
 ·refine sQ fun K4=>cj_reg (jA (k:=K4 (cj_ret ?_)))
  exact ej_ret1 results59 rfl fun w' hH hf=>⟨⟨_,rfl⟩,hf⟩
 ·refine cj_skip (K2 (sQ fun K5=>cj_reg (jA (k:=K5 (cj_ret ?_)))))
  exact ej_ret1 results59 rfl fun w' hH hf=>⟨⟨_,rfl⟩,hf⟩
theorem zzFits13_c (w:World) (v:Value) (xs:List PLoc) (h:Lay RLoc 4 w v xs):Calls Tryz.prog 21 #[v] w (Ret fun v w'=>(∃b,v=.bool b∧(b=true→xs.length≤2147483647))∧Fr 0 [] w w'):=by
 obtain ⟨p,c,rfl,hl,hx⟩:=h.open
 refine startJ (args:=[_]) [(0,_)] 0 [] [] func21 rfl ntmps21 rfl rfl .nil ?_
 refine sQ fun K1=>cj_reg (jA (k:=K1 (sQ fun K2=>sQ fun K3=>cj_reg (jM (k:=jE ru25 (k:=jG (k:=K3 ?_)))))))
 refine cj_dec rfl (fun hbig=>?_) (fun hbig=>?_)
 ·refine sQ fun K4=>cj_reg (jA (k:=K4 (cj_ret ?_)))
  exact ej_ret1 results21 rfl fun w' hH hf=>⟨⟨_,rfl,by first|(intro h;exact absurd h (by decide))|(intro _;omega)⟩,hf⟩
 ·refine cj_skip (K2 (sQ fun K5=>sQ fun K6=>cj_reg (jM (k:=jE ru25 (k:=jM (k:=K6 (cj_block ?_)))))))
  refine cj_loop (σ:=Nat) (fun k=>[(8,.slice p xs.length c),(9,.int .i64 (xs.length:Nat)),(10,.int .i64 (k:Nat))]) (fun _=>[]) (fun k _=>k≤xs.length) (fun k=>xs.length - k) 0 sR (fun w hH hf=>⟨.nil,Nat.zero_le _⟩) ?_
  intro k w1 hk hf1 hH1 KL hKL
  refine C.begin _ [] hf1 .nil ?_
  refine sQ fun K7=>cj_reg (jS (k:=K7 (sQ fun K8=>?_)))
  refine cj_dec rfl (fun hlt=>?_) (fun hlt=>?_)
  ·have hlt':k<xs.length:=by omega
   obtain ⟨b,o,cs,rfl,hcs,hR,hcell⟩:=hx k xs[k] (List.getElem?_eq_getElem hlt')
   have hR':=hR
   obtain ⟨la,rfl, -, -, -,hla⟩:=hR
   obtain ⟨p1,c1,rfl,hl1, -⟩:=hla.open
   refine cj_skip (K8 (sQ fun K9=>cj_block (sQ fun K10=>cj_reg (jJ ru25 so77 (k:=?_)))))
   refine j_valw rfl (fun a w ha hH hf=>r_loadA ag77 so77 rfl rfl (hcell w (hf.keepAll (.inr rfl))) ha) (j_allocA (zs:=[(.int .u64 0),(.int .i64 0),(.int .u64 0),(.slice none 0 0)]) zv77 rfl fun b4=>jB [_,_,_,_] [_] 0 so77 (k:=K10 (sQ fun K11=>cj_reg ?_)))
   refine j_valw rfl (fun a w ha hH hf=>r_ldA (vs:=[_,_,_,_]) 0 rfl rfl ag77 so77 rfl rfl rfl ha hH) ?_
   refine j_callQ (φ:=fun v=>∃b,v=.bool b) call59 rfl rfl (fun w hH hf=>zzFits14_c w _ _ (RLoc.keep (hf.keepAll (.inr rfl)) _ _ hR')) ?_
   rintro _ ⟨b15,rfl⟩
   refine jU (k:=K11 ?_)
   refine cj_if rfl (fun _=>?_) (fun _=>?_)
   ·refine sQ fun K12=>cj_reg (jA (k:=K12 (cj_ret ?_)))
    exact ej_ret1 results21 rfl fun w' hH hf=>⟨⟨_,rfl,by first|(intro h;exact absurd h (by decide))|(intro _;omega)⟩,hf⟩
   ·refine cj_skip (K9 (cj_reg (jI (k:=jM (k:=j_nil (ej_then ?_))))))
    exact fun w hH hf=>hKL (k+1) _ w hlt' hf .nil (by omega) sR
  ·refine cj_exit (K5 (CJ.t [] (k:=sQ fun K13=>cj_reg (jA (k:=K13 (cj_ret ?_))))))
   exact ej_ret1 results21 rfl fun w' hH hf=>⟨⟨_,rfl,by first|(intro h;exact absurd h (by decide))|(intro _;omega)⟩,hf⟩
theorem zzFits16_c (w:World) (cs:List Value) (x:PFunc) (h:RFunc w cs x):Calls Tryz.prog 60 #[.agg cs.toArray] w (Ret fun v w'=>(∃b,v=.bool b)∧Fr 0 [] w w'):=by
 obtain ⟨rfl, -⟩:=h
 refine startJ (args:=[_]) [(0,_)] 0 [] [] func60 rfl ntmps60 rfl rfl .nil ?_
 refine sQ fun K1=>cj_reg (j_boxA (vs:=[_,_,_,_,_]) rfl rfl fun b1=>jA (k:=K1 (sQ fun K2=>sQ fun K3=>cj_reg (jF 1 ru80 so9 (k:=jH 0 ag9 (k:=?_))))))
 refine j_val rfl (fun _ _ h=>r_slen ru9 rfl h) (jG (k:=K3 ?_))
 refine cj_dec rfl (fun _=>?_) (fun _=>?_)
 ·refine sQ fun K4=>cj_reg (jA (k:=K4 (cj_ret ?_)))
  exact ej_ret1 results60 rfl fun w' hH hf=>⟨⟨_,rfl⟩,hf⟩
 ·refine cj_skip (K2 (sQ fun K5=>sQ fun K6=>cj_reg (jF 2 ru80 so9 (k:=jH 0 ag9 (k:=?_)))))
  refine j_val rfl (fun _ _ h=>r_slen ru9 rfl h) (jG (k:=K6 (CJ.t [(1,_),(10,_)] (k:=?_))))
  refine cj_dec rfl (fun _=>?_) (fun _=>?_)
  ·refine sQ fun K7=>cj_reg (jA (k:=K7 (cj_ret ?_)))
   exact ej_ret1 results60 rfl fun w' hH hf=>⟨⟨_,rfl⟩,hf⟩
  ·refine cj_skip (K5 (sQ fun K8=>sQ fun K9=>cj_reg (jF 3 ru80 so9 (k:=jH 0 ag9 (k:=?_)))))
   refine j_val rfl (fun _ _ h=>r_slen ru9 rfl h) (jG (k:=K9 ?_))
   refine cj_dec rfl (fun _=>?_) (fun _=>?_)
   ·refine sQ fun K10=>cj_reg (jA (k:=K10 (cj_ret ?_)))
    exact ej_ret1 results60 rfl fun w' hH hf=>⟨⟨_,rfl⟩,hf⟩
   ·refine cj_skip (K8 (sQ fun K11=>cj_reg (jA (k:=K11 (cj_ret ?_)))))
    exact ej_ret1 results60 rfl fun w' hH hf=>⟨⟨_,rfl⟩,hf⟩
theorem zzFits15_c (w:World) (v:Value) (xs:List PFunc) (h:Lay RFunc 5 w v xs):Calls Tryz.prog 22 #[v] w (Ret fun v w'=>(∃b,v=.bool b∧(b=true→xs.length≤2147483647))∧Fr 0 [] w w'):=by
 obtain ⟨p,c,rfl,hl,hx⟩:=h.open
 refine startJ (args:=[_]) [(0,_)] 0 [] [] func22 rfl ntmps22 rfl rfl .nil ?_
 refine sQ fun K1=>cj_reg (jA (k:=K1 (sQ fun K2=>sQ fun K3=>cj_reg (jM (k:=jE ru26 (k:=jG (k:=K3 ?_)))))))
 refine cj_dec rfl (fun hbig=>?_) (fun hbig=>?_)
 ·refine sQ fun K4=>cj_reg (jA (k:=K4 (cj_ret ?_)))
  exact ej_ret1 results22 rfl fun w' hH hf=>⟨⟨_,rfl,by first|(intro h;exact absurd h (by decide))|(intro _;omega)⟩,hf⟩
 ·refine cj_skip (K2 (sQ fun K5=>sQ fun K6=>cj_reg (jM (k:=jE ru26 (k:=jM (k:=K6 (cj_block ?_)))))))
  refine cj_loop (σ:=Nat) (fun k=>[(8,.slice p xs.length c),(9,.int .i64 (xs.length:Nat)),(10,.int .i64 (k:Nat))]) (fun _=>[]) (fun k _=>k≤xs.length) (fun k=>xs.length - k) 0 sR (fun w hH hf=>⟨.nil,Nat.zero_le _⟩) ?_
  intro k w1 hk hf1 hH1 KL hKL
  refine C.begin _ [] hf1 .nil ?_
  refine sQ fun K7=>cj_reg (jS (k:=K7 (sQ fun K8=>?_)))
  refine cj_dec rfl (fun hlt=>?_) (fun hlt=>?_)
  ·have hlt':k<xs.length:=by omega
   obtain ⟨b,o,cs,rfl,hcs,hR,hcell⟩:=hx k xs[k] (List.getElem?_eq_getElem hlt')
   have hR':=hR
   obtain ⟨rfl, -⟩:=hR
   refine cj_skip (K8 (sQ fun K9=>cj_block (sQ fun K10=>cj_reg (jJ ru26 so80 (k:=?_)))))
   refine j_valw rfl (fun a w ha hH hf=>r_loadA ag80 so80 rfl rfl (hcell w (hf.keepAll (.inr rfl))) ha) (j_allocA (zs:=[(.int .u64 0),(.string ⟨#[]⟩),(.string ⟨#[]⟩),(.string ⟨#[]⟩),(.int .i64 0)]) zv80 rfl fun b4=>jB [_,_,_,_,_] [_] 0 so80 (k:=K10 (sQ fun K11=>cj_reg ?_)))
   refine j_valw rfl (fun a w ha hH hf=>r_ldA (vs:=[_,_,_,_,_]) 0 rfl rfl ag80 so80 rfl rfl rfl ha hH) ?_
   refine j_callQ (φ:=fun v=>∃b,v=.bool b) call60 rfl rfl (fun w hH hf=>zzFits16_c w _ _ (RFunc.keep (hf.keepAll (.inr rfl)) _ _ hR')) ?_
   rintro _ ⟨b15,rfl⟩
   refine jU (k:=K11 ?_)
   refine cj_if rfl (fun _=>?_) (fun _=>?_)
   ·refine sQ fun K12=>cj_reg (jA (k:=K12 (cj_ret ?_)))
    exact ej_ret1 results22 rfl fun w' hH hf=>⟨⟨_,rfl,by first|(intro h;exact absurd h (by decide))|(intro _;omega)⟩,hf⟩
   ·refine cj_skip (K9 (cj_reg (jI (k:=jM (k:=j_nil (ej_then ?_))))))
    exact fun w hH hf=>hKL (k+1) _ w hlt' hf .nil (by omega) sR
  ·refine cj_exit (K5 (CJ.t [] (k:=sQ fun K13=>cj_reg (jA (k:=K13 (cj_ret ?_))))))
   exact ej_ret1 results22 rfl fun w' hH hf=>⟨⟨_,rfl,by first|(intro h;exact absurd h (by decide))|(intro _;omega)⟩,hf⟩
theorem zzFits1_c (w:World) (cs:List Value) (x:PProf) (h:RProf w cs x):Calls Tryz.prog 7 #[.agg cs.toArray] w (Ret fun v w'=>(∃b,v=.bool b∧(b=true→x.mappings.length≤2147483647∧x.locs.length≤2147483647∧x.funcs.length≤2147483647))∧Fr 0 [] w w'):=by
 obtain ⟨la,ls,lm,ll,lf,lcm,rfl,ha,hs,hm,hll,hfu,hcm, -⟩:=h
 refine startJ (args:=[_]) [(0,_)] 0 [] [] func7 rfl ntmps7 rfl rfl .nil ?_
 refine sQ fun K1=>cj_reg (j_boxA (vs:=[_,_,_,_,_,_,_,_,_,_,_,_,_,_]) rfl rfl fun b1=>jA (k:=K1 (sQ fun K2=>sQ fun K3=>cj_reg (jF 0 ru31 so22 (k:=jH 0 ag22 (k:=?_))))))
 refine j_callQ (φ:=fun v=>∃b,v=.bool b∧(b=true→x.types.length≤2147483647)) call18 rfl rfl (fun w hH hf=>zzFits2_c w _ _ (ha.keep (RType.keep (hf.keepAll (.inr rfl))) (hf.keepAll (.inr rfl)))) ?_
 rintro _ ⟨b5,rfl,hb5⟩
 refine jU (k:=K3 ?_)
 refine cj_if rfl (fun _=>?_) (fun _=>?_)
 ·refine sQ fun K4=>cj_reg (jA (k:=K4 (cj_ret ?_)))
  exact ej_ret1 results7 rfl fun w' hH hf=>⟨⟨_,rfl,by first|(intro h;exact absurd h (by decide))|(intro _;simp at h18 h22 h26;exact ⟨hb17 h18,hb21 h22,hb25 h26⟩)⟩,hf⟩
 ·refine cj_skip (K2 (sQ fun K5=>sQ fun K6=>cj_reg (jF 1 ru31 so9 (k:=jH 0 ag9 (k:=?_)))))
  refine j_val rfl (fun _ _ h=>r_slen ru9 rfl h) (jG (k:=K6 (CJ.t [(1,_),(10,_)] (k:=?_))))
  refine cj_dec rfl (fun _=>?_) (fun _=>?_)
  ·refine sQ fun K7=>cj_reg (jA (k:=K7 (cj_ret ?_)))
   exact ej_ret1 results7 rfl fun w' hH hf=>⟨⟨_,rfl,by first|(intro h;exact absurd h (by decide))|(intro _;simp at h18 h22 h26;exact ⟨hb17 h18,hb21 h22,hb25 h26⟩)⟩,hf⟩
  ·refine cj_skip (K5 (sQ fun K8=>sQ fun K9=>cj_reg (jF 2 ru31 so23 (k:=jH 0 ag23 (k:=?_)))))
   refine j_callQ (φ:=fun v=>∃b,v=.bool b∧(b=true→x.samples.length≤2147483647)) call19 rfl rfl (fun w hH hf=>zzFits4_c w _ _ (hs.keep (RSample.keep (hf.keepAll (.inr rfl))) (hf.keepAll (.inr rfl)))) ?_
   rintro _ ⟨b13,rfl,hb13⟩
   refine jU (k:=K9 ?_)
   refine cj_if rfl (fun _=>?_) (fun _=>?_)
   ·refine sQ fun K10=>cj_reg (jA (k:=K10 (cj_ret ?_)))
    exact ej_ret1 results7 rfl fun w' hH hf=>⟨⟨_,rfl,by first|(intro h;exact absurd h (by decide))|(intro _;simp at h18 h22 h26;exact ⟨hb17 h18,hb21 h22,hb25 h26⟩)⟩,hf⟩
   ·refine cj_skip (K8 (sQ fun K11=>sQ fun K12=>cj_reg (jF 3 ru31 so24 (k:=jH 0 ag24 (k:=?_)))))
    refine j_callQ (φ:=fun v=>∃b,v=.bool b∧(b=true→x.mappings.length≤2147483647)) call20 rfl rfl (fun w hH hf=>zzFits11_c w _ _ (hm.keep (RMapping.keep (hf.keepAll (.inr rfl))) (hf.keepAll (.inr rfl)))) ?_
    rintro _ ⟨b17,rfl,hb17⟩
    refine jU (k:=K12 (CJ.t [(1,_),(18,_)] (k:=?_)))
    refine cj_if rfl (fun h18=>?_) (fun h18=>?_)
    ·refine sQ fun K13=>cj_reg (jA (k:=K13 (cj_ret ?_)))
     exact ej_ret1 results7 rfl fun w' hH hf=>⟨⟨_,rfl,by first|(intro h;exact absurd h (by decide))|(intro _;simp at h18 h22 h26;exact ⟨hb17 h18,hb21 h22,hb25 h26⟩)⟩,hf⟩
    ·refine cj_skip (K11 (sQ fun K14=>sQ fun K15=>cj_reg (jF 4 ru31 so25 (k:=jH 0 ag25 (k:=?_)))))
     refine j_callQ (φ:=fun v=>∃b,v=.bool b∧(b=true→x.locs.length≤2147483647)) call21 rfl rfl (fun w hH hf=>zzFits13_c w _ _ (hll.keep (RLoc.keep (hf.keepAll (.inr rfl))) (hf.keepAll (.inr rfl)))) ?_
     rintro _ ⟨b21,rfl,hb21⟩
     refine jU (k:=K15 ?_)
     refine cj_if rfl (fun h22=>?_) (fun h22=>?_)
     ·refine sQ fun K16=>cj_reg (jA (k:=K16 (cj_ret ?_)))
      exact ej_ret1 results7 rfl fun w' hH hf=>⟨⟨_,rfl,by first|(intro h;exact absurd h (by decide))|(intro _;simp at h18 h22 h26;exact ⟨hb17 h18,hb21 h22,hb25 h26⟩)⟩,hf⟩
     ·refine cj_skip (K14 (sQ fun K17=>sQ fun K18=>cj_reg (jF 5 ru31 so26 (k:=jH 0 ag26 (k:=?_)))))
      refine j_callQ (φ:=fun v=>∃b,v=.bool b∧(b=true→x.funcs.length≤2147483647)) call22 rfl rfl (fun w hH hf=>zzFits15_c w _ _ (hfu.keep (RFunc.keep (hf.keepAll (.inr rfl))) (hf.keepAll (.inr rfl)))) ?_
      rintro _ ⟨b25,rfl,hb25⟩
      refine jU (k:=K18 (CJ.t [(1,_),(26,_)] (k:=?_)))
      refine cj_if rfl (fun h26=>?_) (fun h26=>?_)
      ·refine sQ fun K19=>cj_reg (jA (k:=K19 (cj_ret ?_)))
       exact ej_ret1 results7 rfl fun w' hH hf=>⟨⟨_,rfl,by first|(intro h;exact absurd h (by decide))|(intro _;simp at h18 h22 h26;exact ⟨hb17 h18,hb21 h22,hb25 h26⟩)⟩,hf⟩
      ·refine cj_skip (K17 (sQ fun K20=>sQ fun K21=>cj_reg (jF 6 ru31 so27 (k:=jH 0 ag27 (k:=?_)))))
       refine j_callQ (φ:=fun v=>∃b,v=.bool b∧(b=true→x.comments.length≤2147483647)) call23 rfl rfl (fun w hH hf=>zzFits8_c w _ _ (hcm.keep (RStr.keep (hf.keepAll (.inr rfl))) (hf.keepAll (.inr rfl)))) ?_
       rintro _ ⟨b29,rfl,hb29⟩
       refine jU (k:=K21 ?_)
       refine cj_if rfl (fun _=>?_) (fun _=>?_)
       ·refine sQ fun K22=>cj_reg (jA (k:=K22 (cj_ret ?_)))
        exact ej_ret1 results7 rfl fun w' hH hf=>⟨⟨_,rfl,by first|(intro h;exact absurd h (by decide))|(intro _;simp at h18 h22 h26;exact ⟨hb17 h18,hb21 h22,hb25 h26⟩)⟩,hf⟩
       ·refine cj_skip (K20 (sQ fun K23=>sQ fun K24=>cj_reg (jF 7 ru31 so9 (k:=jH 0 ag9 (k:=?_)))))
        refine j_val rfl (fun _ _ h=>r_slen ru9 rfl h) (jG (k:=K24 (CJ.t [(1,_),(34,_)] (k:=?_))))
        refine cj_dec rfl (fun _=>?_) (fun _=>?_)
        ·refine sQ fun K25=>cj_reg (jA (k:=K25 (cj_ret ?_)))
         exact ej_ret1 results7 rfl fun w' hH hf=>⟨⟨_,rfl,by first|(intro h;exact absurd h (by decide))|(intro _;simp at h18 h22 h26;exact ⟨hb17 h18,hb21 h22,hb25 h26⟩)⟩,hf⟩
        ·refine cj_skip (K23 (sQ fun K26=>sQ fun K27=>cj_reg (jF 8 ru31 so9 (k:=jH 0 ag9 (k:=?_)))))
         refine j_val rfl (fun _ _ h=>r_slen ru9 rfl h) (jG (k:=K27 ?_))
         refine cj_dec rfl (fun _=>?_) (fun _=>?_)
         ·refine sQ fun K28=>cj_reg (jA (k:=K28 (cj_ret ?_)))
          exact ej_ret1 results7 rfl fun w' hH hf=>⟨⟨_,rfl,by first|(intro h;exact absurd h (by decide))|(intro _;simp at h18 h22 h26;exact ⟨hb17 h18,hb21 h22,hb25 h26⟩)⟩,hf⟩
         ·refine cj_skip (K26 (sQ fun K29=>sQ fun K30=>cj_reg (jF 12 ru31 so29 (k:=?_))))
          refine j_valw rfl (fun a w ha hH hf=>r_ldA (vs:=[_,_]) 0 rfl rfl ag29 so29 rfl rfl rfl ha hH) ?_
          refine j_callQ (φ:=fun v=>∃b,v=.bool b) call24 rfl rfl (fun w hH hf=>zzFits3_c w _ x.per rfl) ?_
          rintro _ ⟨b41,rfl⟩
          refine jU (k:=K30 (CJ.t [(42,_)] (k:=?_)))
          refine cj_if rfl (fun _=>?_) (fun _=>?_)
          ·refine sQ fun K31=>cj_reg (jA (k:=K31 (cj_ret ?_)))
           exact ej_ret1 results7 rfl fun w' hH hf=>⟨⟨_,rfl,by first|(intro h;exact absurd h (by decide))|(intro _;simp at h18 h22 h26;exact ⟨hb17 h18,hb21 h22,hb25 h26⟩)⟩,hf⟩
          ·refine cj_skip (K29 (sQ fun K32=>cj_reg (jA (k:=K32 (cj_ret ?_)))))
           exact ej_ret1 results7 rfl fun w' hH hf=>⟨⟨_,rfl,by first|(intro h;exact absurd h (by decide))|(intro _;simp at h18 h22 h26;exact ⟨hb17 h18,hb21 h22,hb25 h26⟩)⟩,hf⟩
end Go.Proofs.YtifdadlhmlhfiaaGreatDoor
namespace Go.Fw
open Go
end Go.Fw
namespace Go.Proofs.YtifdadlhmlhfiaaGreatDoor
open Go Go.Fw Go.Proofs Go.Proofs.Tryz
theorem GotP.rprof {w:World} {cs:List Value} {x:PProf} (hx:WellP x) (hr:Rng x) (h:GotP w cs x):RProf w cs x:=by
 obtain ⟨vT,vS,vM,vL,vF,vC,sq,rfl,hPV,h7,h8,h9⟩:=h
 obtain ⟨lq,h4,h5,h6⟩:=hPV.lc
 have n1:=hx.ntyp
 have n2:=hx.nsam
 have n6:=hx.ncom
 have n3:=hx.tab.m.2.2
 have n5:=hx.tab.f.2.2
 have n4:=hx.tab.l.2.2
 simp only[List.length_map]at n3 n4 n5
 refine ⟨_,_,_,_,_,_,rfl,lay_of_os (f:=fun x=>x) hPV.ty (by simp) (fun _=>rfl) (by omega) (fun _ _=>rfl) (by omega),lay_of_os h8 h7 (fun _=>rfl) (by omega) (fun q hq=>?_) (by omega),lay_of_os (f:=fun x=>x) hPV.mp (by simp) (fun _=>rfl) (by omega) (fun m hm=>⟨rfl,hr.maps m hm⟩) (by omega),
  lay_of_os h5 h4 (fun _=>rfl) (by omega) (fun q hq=>?_) (by omega),lay_of_os (f:=fun x=>x) hPV.fn (by simp) (fun _=>rfl) (by omega) (fun m hm=>⟨rfl,hr.funs m hm⟩) (by omega),lay_of_os1 hPV.co (fun _ _=>rfl) (by omega),hr.time,hr.dur,hr.period⟩
 ·have hm:q.1∈x.samples:=by rw[← h7];exact List.mem_map_of_mem hq
  obtain ⟨hv1,hv2,hst,hLab,hsk⟩:=hx.samples _ hm
  have hq9:=h9 q hq
  obtain ⟨ys,t1,t2,t3,t4⟩:=hq9.tx
  obtain ⟨zs,u1,u2,u3,u4⟩:=hq9.nu
  exact ⟨_,_,_,_,rfl,lay_of_os1 hq9.st (fun z hz=>⟨rfl,by have:=hsk z hz;exact wrap64_small (by omega) (by omega)⟩) (by omega),lay_of_os1 hq9.vs (fun z hz=>⟨rfl,hr.vals _ hm z hz⟩) (by omega),lay_texts hLab t1 t2 t3 t4,lay_nums hLab (fun t ht n hn=>hr.nums _ hm t ht n hn) u1 u2 u3 u4⟩
 ·have hm:q.1∈x.locs:=by rw[← h4];exact List.mem_map_of_mem hq
  obtain ⟨r1,r2,r3⟩:=hr.locs _ hm
  obtain ⟨⟨m1,m2⟩,m3,m4⟩:=hx.tab.locs _ hm
  refine ⟨_,rfl,r1,wrap64_small (by omega) (by omega),r2,lay_of_os (f:=fun x=>x) (h6 q hq) (by simp) (fun _=>rfl) (by omega) (fun n hn=>⟨rfl,?_,r3 n hn⟩) (by omega)⟩
  have:=m4 n hn
  exact wrap64_small (by omega) (by omega)
end Go.Proofs.YtifdadlhmlhfiaaGreatDoor
namespace Go.Fw
open Go
section
variable {P:Program} {Q:Exit→Act→World→Prop} {n:Nat} {f:Fm} {e:Env} {H:Heap}
theorem ej_ret2C {fn:Func} {R:Value→World→Prop} {s T m t:Nat} {b:Nat} {vs:List Value} {u:Value} (hres:fn.results= #[.cell s T,.tmp t]) (hag:∀w,(isAgg T).run P w=.ok true w) (hsz:∀w,(sizeOf T).run P w=.ok m w) (hvm:vs.length=m)
  (hs:look e s=some (.pointer (some ⟨b,0,none⟩))) (ht:look e t=some u) (hb:∀w,Hp f w H→f.ok w→∃U,Blk w b U vs) (h:∀w,Hp f w H→f.ok w→R (.tuple #[.agg vs.toArray,u]) w):
  EJ (bodyPost P fn (Ret R)) .ret n f e H:=fun w hH hf a ha=>by
 refine ⟨ha.defs,_,?_,h w hH hf⟩
 have h2:=ha.has s _ hs
 have h4:=ha.has t _ ht
 obtain ⟨U,hbk⟩:=hb w hH hf
 have h3:=run_loadCells (P:=P) (b:=b) w vs 0 hbk.cells
 simp only[results,hres]
 simp[Array.getD_eq_getD_getElem?,h2,h4,asAddr,loadVar,hag,hsz, ← hvm,h3]
end
end Go.Fw
namespace Go.Proofs.YtifdadlhmlhfiaaGreatDoor
open Go Go.Fw Go.Proofs Go.Proofs.Tryz
theorem GEnc.pos {g:GFld} {bs:List Nat} (h:GEnc g bs):0<bs.length:=by
 cases g with
 |fld f=>
  cases f with
  |num k n=>obtain ⟨t,v,rfl,h1, -⟩:=h;have:=h1.pos;simp;omega
  |bys k B=>obtain ⟨t,v,rfl,h1, -⟩:=h;have:=h1.pos;simp;omega
 |fix8 k B=>obtain ⟨t,rfl,h1, -⟩:=h;have:=h1.pos;simp;omega
 |fix4 k B=>obtain ⟨t,rfl,h1, -⟩:=h;have:=h1.pos;simp;omega
theorem UIn.pos {x:PProf} {T:List ByteArray} {m:Msg} (h:UIn x T m):0<(mB m).length:=by
 have h1:=h.z0
 have h2:=h.tab
 have h3:=h.ok.enc
 cases m with
 |nil=>
  have h4:T=[]:=by simpa[flds]using h2.symm
  rw[h4]at h1;cases h1
 |cons a r=>
  have h5:=GEnc.pos (h3 a (List.Mem.head _))
  simp only[mB,List.flatMap_cons,List.length_append]
  omega
set_option maxHeartbeats 1000000 in
theorem parseU_c (w:World) (x:PProf) (T:List ByteArray) (hx:WellP x) (b c:Nat) (m:Msg) (hI:UIn x T m) (hB:Bys w b 0 c (mB m)):
  Calls Tryz.prog 63 #[.slice (some ⟨b,0,none⟩) (mB m).length c] w (Ret fun v w'=>(∃B g,v=.tuple #[ptr g.pb,.nilIface]∧OfQ B w' x g)∧Fr 0 [] w w'):=by
 have hpos:=hI.pos
 refine startJ (args:=[_]) [(0,_)] 0 [] [] Tryz.func63 rfl Tryz.ntmps63 rfl rfl .nil ?_
 refine sQ fun K1=>cj_reg (jA (k:=jA (k:=K1 (sQ fun K2=>sQ fun K3=>cj_reg (jM (k:=jE ru36 (k:=jQ (k:=?_))))))))
 refine j_eqv (u:=.bool false) (congrArg Value.bool (decide_eq_false (by omega))) ?_
 refine K3 (cj_if_f rfl (cj_skip (K2 (sQ fun K4=>cj_reg (j_val rfl (fun _ _ h=>r_build (cs:=[(.slice none 0 0),(.string ⟨#[]⟩),(.slice none 0 0),(.slice none 0 0),(.slice none 0 0),(.slice none 0 0),(.slice none 0 0),(.string ⟨#[]⟩),(.string ⟨#[]⟩),(.int .i64 0),(.int .i64 0),(.pointer none),(.int .i64 0),(.slice none 0 0),(.int .i64 0),(.int .i64 0),(.slice none 0 0),(.int .i64 0)]) bt125 rfl rfl h) (j_boxA (vs:=[_,_,_,_,_,_,_,_,_,_,_,_,_,_,_,_,_,_]) rfl rfl fun b12=>jA (k:=K4 (sQ fun K5=>sQ fun K6=>cj_reg (jM (k:=jM (k:=?_)))))))))))
 refine j_val rfl (fun _ _ h=>r_mki ru59 rfl rfl h) ?_
 refine j_callE (R:=fun w5 v w6=>v=.nilIface∧(∃g' vp,g'.pb=b12∧RawP w5.heap.size T x g' vp w6)∧KeepX [b12] w5 w6) Tryz.call88 rfl rfl (fun w5 hH hf=>unmarshal_c x T hx w5 b 0 c b12 m hI (hB.keep hf) (hH.get (i:=0) rfl rfl)) fun w5 v w6 hH5 hf5 hR=>?_
 obtain ⟨rfl,⟨g',vp,hgb,hRaw⟩,hk6⟩:=hR
 have hnb:w.heap.size≤b12:=hH5.fresh (i:=0) rfl rfl rfl
 have hfr6:Fr 0 [] w w6:=frK hf5 hk6 fun b hb=>by
  simp at hb;subst hb
  exact .inl hnb
 subst hgb
 refine J.begin ⟨w6,0,[]⟩ [] ok_refl .nil ?_
 refine jA (k:=K6 (CJ.t [(4,_),(5,_)] (k:=sQ fun K7=>cj_reg (jM (k:=?_)))))
 refine j_val rfl (fun _ _ h=>r_inil ud61 rfl h) (K7 (cj_if_f rfl (cj_skip (K5 (sQ fun K8=>sQ fun K9=>cj_reg (jM (k:=?_)))))))
 refine j_callE (R:=fun w7 v w8=>v=.nilIface∧∃g2,g2.pb=g'.pb∧OfQ w.heap.size w8 x g2∧Fr w.heap.size (tProf::wP) w7 w8) Tryz.call89 rfl rfl (fun w7 hH hf=>postDecode_c w.heap.size w7 x T g' vp ((hRaw.fr hf).le hf5.size) hx hnb hI.tl hI.z0) fun w7 v w8 hH7 hf7 hR=>?_
 obtain ⟨rfl,g2,hg2,hQ,hfr8⟩:=hR
 have hfr9:Fr 0 [] w w8:=Fr.trans (frQ hfr6 hf7) hfr8 (.inl (Nat.le_refl _))
 rw[← hg2]
 refine J.begin ⟨w8,0,[]⟩ [] ok_refl .nil ?_
 refine jA (k:=K9 (sQ fun K10=>cj_reg (jM (k:=?_))))
 refine j_val rfl (fun _ _ h=>r_inil ud61 rfl h) (K10 (cj_if_f rfl (cj_skip (K8 (sQ fun K11=>cj_reg (jM (k:=jA (k:=jA (k:=K11 (CJ.t [(2,_),(3,_)] (k:=cj_ret ?_)))))))))))
 exact ej_ret2 Tryz.results63 rfl rfl fun w' hH hf=>⟨⟨_,g2,rfl,hQ.fr hf⟩,frQ hfr9 hf⟩
set_option maxHeartbeats 1000000 in
theorem parseBytes_c (w:World) (x:PProf) (T:List ByteArray) (hx:WellP x) (b c:Nat) (m:Msg) (hI:UIn x T m) (hB:Bys w b 0 c (mB m)):
  Calls Tryz.prog 27 #[.slice (some ⟨b,0,none⟩) (mB m).length c] w (Ret fun v w'=>(∃B g,v=.tuple #[ptr g.pb,.nilIface]∧OfQ B w' x g)∧Fr 0 [] w w'):=by
 refine startJ (args:=[_]) [(0,_)] 0 [] [] Tryz.func27 rfl Tryz.ntmps27 rfl rfl .nil ?_
 refine sQ fun K1=>cj_reg (jA (k:=jA (k:=K1 (sQ fun K2=>cj_reg (jM (k:=?_))))))
 refine j_callE (R:=fun w1 v w2=>(∃B g,v=.tuple #[ptr g.pb,.nilIface]∧OfQ B w2 x g)∧Fr 0 [] w1 w2) Tryz.call63 rfl rfl (fun w1 hH hf=>parseU_c w1 x T hx b c m hI (hB.keep hf)) fun w1 v w2 hH1 hf1 hR=>?_
 obtain ⟨⟨B,g,rfl,hQ⟩,hf2⟩:=hR
 have hfr2:Fr 0 [] w w2:=frQ hf1 hf2
 refine J.begin ⟨w2,0,[]⟩ [] ok_refl .nil ?_
 refine jM (k:=jX (k:=jX (k:=jA (k:=jA (k:=K2 (sQ fun K3=>sQ fun K4=>cj_reg (jM (k:=?_))))))))
 refine j_val rfl (fun _ _ h=>r_inil ud61 rfl h) (K4 (CJ.t [(4,_),(5,_),(13,_)] (k:=?_)))
 refine cj_if_f rfl (cj_skip (K3 (sQ fun K5=>sQ fun K6=>cj_reg (jM (k:=?_)))))
 refine j_callE (R:=fun w3 v w4=>v=.nilIface∧Fr 0 [] w3 w4) Tryz.call65 rfl rfl (fun w3 hH hf=>checkValid_c _ w3 x g (hQ.fr hf) hx.chk) fun w3 v w4 hH3 hf3 hR=>?_
 obtain ⟨rfl,hf4⟩:=hR
 have hfr4:Fr 0 [] w w4:=frQ (frQ hfr2 hf3) hf4
 have hQ4:=(hQ.fr hf3).fr hf4
 refine J.begin ⟨w4,0,[]⟩ [] ok_refl .nil ?_
 refine jA (k:=K6 (sQ fun K7=>cj_reg (jM (k:=?_))))
 refine j_val rfl (fun _ _ h=>r_inil ud61 rfl h) (K7 (cj_if_f rfl (cj_skip (K5 (sQ fun K8=>cj_reg (jM (k:=jA (k:=jA (k:=K8 (cj_ret ?_))))))))))
 exact ej_ret2 Tryz.results27 rfl rfl fun w' hH hf=>⟨⟨B,g,rfl,hQ4.fr hf⟩,frQ hfr4 hf⟩
set_option maxHeartbeats 1000000 in
theorem implRead_c (w:World) (x:PProf) (T:List ByteArray) (hx:WellP x) (hr:Rng x) (v0:Value) (m:Msg) (hI:UIn x T m) (hB:OS tU8 1 w v0 ((mB m).map bv)):
  Calls Tryz.prog 9 #[v0] w (Ret fun v w'=>(∃ds,v=.tuple #[.agg (List.toArray ds),.bool true]∧RProf w' ds x)∧Fr 0 [] w w'):=by
 have hpos:=hI.pos
 have hlen:=hI.ok.len
 obtain ⟨b0,c0,rfl,hB0⟩:=bys_of_os hB hpos
 refine startJ (args:=[_]) [(0,_)] 0 [] [] Tryz.func9 rfl Tryz.ntmps9 rfl rfl .nil ?_
 refine sQ fun K1=>cj_reg (j_allocA (zs:=[(.slice none 0 0),(.string ⟨#[]⟩),(.slice none 0 0),(.slice none 0 0),(.slice none 0 0),(.slice none 0 0),(.slice none 0 0),(.string ⟨#[]⟩),(.string ⟨#[]⟩),(.int .i64 0),(.int .i64 0),(.int .i64 0),(.string ⟨#[]⟩),(.string ⟨#[]⟩)]) zv31 rfl fun b2=>jA (k:=K1 (sQ fun K2=>cj_reg ?_)))
 refine j_bslice0 ru36 so5 rfl fun b7=>jM (k:=?_)
 refine j_appS 0 rfl Own.empty ru36 el5 rfl rfl rfl hB rfl (fun z hz=>by obtain ⟨u, -,rfl⟩:=List.mem_map.1 hz;rfl) (by omega) rfl fun y9 p9 c9 hO9=>?_
 refine j_callE (R:=fun w1 v w2=>(∃B g,v=.tuple #[ptr g.pb,.nilIface]∧OfQ B w2 x g)∧Fr 0 [] w1 w2) Tryz.call27 rfl rfl (fun w1 hH hf=>by
   obtain ⟨b,c,e,hB1⟩:=bys_of_os (hO9.os hH (i:=0) rfl) hpos
   rw[Nat.zero_add]at e⊢
   rw[e]
   exact parseBytes_c w1 x T hx b c m hI hB1) fun w1 v w2 hH1 hf1 hR=>?_
 obtain ⟨⟨B,g,rfl,hQ⟩,hf2⟩:=hR
 have hfr2:Fr 0 [] w w2:=frQ hf1 hf2
 have hb2:Blk w2 b2 tIP zIP:=hf2.blk (hH1.get (i:=1) rfl rfl) (.inr (by simp))
 have hge2:w.heap.size≤b2:=hH1.fresh (i:=1) rfl rfl rfl
 refine J.begin ⟨w2,0,[]⟩ [] ok_refl .nil ?_
 refine jM (k:=jX (k:=jX (k:=jA (k:=jA (k:=K2 (sQ fun K3=>sQ fun K4=>cj_reg (jM (k:=?_))))))))
 refine j_val rfl (fun _ _ h=>r_inil ud61 rfl h) (K4 (CJ.t [(2,_),(4,_),(14,_)] (k:=?_)))
 refine cj_if_f rfl (cj_skip (K3 (sQ fun K5=>cj_reg (jM (k:=?_)))))
 refine j_callE (R:=fun w5 v w6=>(∃ds,v=.agg (List.toArray ds)∧GotP w6 ds x)∧Fr 0 [] w5 w6) Tryz.call28 rfl rfl (fun w5 hH hf=>plain_c _ w5 x g (hQ.fr hf) hx) fun w5 v w6 hH5 hf5 hR=>?_
 obtain ⟨⟨ds,rfl,hGP⟩,hf6⟩:=hR
 have hfr6:Fr 0 [] w w6:=frQ hfr2 (frQ hf5 hf6)
 have hb6:Blk w6 b2 tIP zIP:=hf6.blk (hf5.blk hb2 (.inr (by simp))) (.inr (by simp))
 obtain ⟨vT,vS,vM,vL,vF,vC,sq,rfl,hPV,hsq,hOS,hSM⟩:=id hGP
 obtain ⟨lqX, -,hlcX, -⟩:=hPV.lc
 obtain ⟨pT,lT,cT,rfl, -⟩:=hPV.ty.open
 obtain ⟨pS,lS,cS,rfl, -⟩:=hOS.open
 obtain ⟨pM,lM,cM',rfl, -⟩:=hPV.mp.open
 obtain ⟨pL,lL,cL,rfl, -⟩:=hlcX.open
 obtain ⟨pF,lF,cF,rfl, -⟩:=hPV.fn.open
 obtain ⟨pC,lC,cC,rfl, -⟩:=hPV.co.open
 refine J.begin ⟨w6,w.heap.size,[tIP]⟩ (⟨b2,tIP,zIP,true,true,none⟩::restH w6 [b2]) ok_refl (Hp.one hb6 hge2 rfl) ?_
 refine j_storeW 0 rfl rfl rfl rfl so31 rfl rfl rfl rfl rfl ?_
 refine jA (k:=K5 (cj_ret ?_))
 exact ej_ret2C Tryz.results9 ag31 so31 rfl rfl rfl (fun w' hH hf=>⟨_,hH.get (i:=0) rfl rfl⟩) fun w' hH hf=>⟨⟨_,rfl,GotP.rprof hx hr ⟨_,_,_,_,_,_,sq,rfl,hPV.fr hf rfl,hsq,hOS.mono (fr_row hf rfl),hSM.fr hf rfl⟩⟩,Fr.trans hfr6 hf (.inl (Nat.le_refl _))⟩
end Go.Proofs.YtifdadlhmlhfiaaGreatDoor
namespace Go.Fw
open Go
variable {a:Act} {kd:IntKind} {x:Operand} {w:World}
section
variable {P:Program} {n:Nat} {e:Env} {d ty:Nat} {pos:String} {af:Array Edge}
theorem r_rem {t t':Nat} {y:Operand} {p q:Nat} (hx:ev e x=some (.int kd p)) (hy:ev e y=some (.int kd q)) (hq:0<q) (ha:Sat n e a):
  (execOp a.eval ⟨some d,.binOp .rem t x y t',ty,pos,af,none⟩).run P w=.ok (.value (.int kd ((p%q:Nat):Int))) w:=by
 have h:¬(q=0):=by omega
 have h2:Int.tmod (p:Int) (q:Int)=((p%q:Nat):Int):=by rw[Int.tmod_eq_emod_of_nonneg (by omega)];omega
 simp only[execOp,ha.ev hx,ha.ev hy]
 simp[eqGuard,binOp,Op.intDiv,h,h2]
theorem r_min {y:Operand} {tys:Array TypeId} {p q:Int} (hx:ev e x=some (.int kd p)) (hy:ev e y=some (.int kd q)) (ha:Sat n e a):
  (execOp a.eval ⟨some d,.call ⟨.builtin .min, #[x,y],tys⟩,ty,pos,af,none⟩).run P w=.ok (.value (.int kd (if q<p then q else p))) w:=by
 simp only[execOp];simp[resolve,invoke,builtin,Builtin.min_,Builtin.min2,ha.ev hx,ha.ev hy]
end
end Go.Fw
namespace Go.Proofs.YtifdadlhmlhfiaaGreatDoor
open Go Go.Fw Go.Proofs Go.Proofs.Tryz
variable {y:Ent} {H:Heap} {D W:List Nat} {xs:List Value} {B T c l m sT:Nat} {x:Operand} {p:Option Addr} {v:Value} {w w' w1:World}
abbrev tEnc:Nat:=67
abbrev wN:List Nat:=[tEnc,tStr]
class WO (V:List Nat):Prop where
 e:tEnc∈V
 u:tU8∉V
instance:WO wN:=⟨List.Mem.head _,by decide⟩
instance:WO [tEnc]:=⟨List.Mem.head _,by decide⟩
def WV (B:Nat) (w:World) (wv:Value) (ws:List Int):Prop:=∃p c,wv=.slice p ws.length c∧(ws=[]∨∃b o,p=some ⟨b,o,none⟩∧b<B∧∀(j:Nat) v,ws[j]? =some v→w.cell? ⟨b,o+j,none⟩=some (.int .i64 v))
theorem WV.keep {B':Nat} {wv:Value} {ws:List Int} (h:WV B w wv ws) (k:Fr B' W w w') (hc:B≤B'∨W=[]):WV B w' wv ws:=by
 obtain ⟨p,c,e,h⟩:=h
 refine ⟨p,c,e,h.imp id fun ⟨b,o,h1,h2,h3⟩=>⟨b,o,h1,h2,fun j v hv=>?_⟩⟩
 have h4:=h3 j v hv
 have hk:∀q,w.heap[b]? =some q→w'.heap[b]? =some q:=fun q hq=>k.keep _ q hq (hc.elim (fun h=>.inl (by omega)) fun h=>.inr (by subst h;simp))
 unfold World.cell? at h4⊢
 cases hb:w.heap[b]? with
 |none=>simp[hb]at h4
 |some q=>simp only[hb]at h4;simp only[hk _ hb];exact h4
structure Ecd (B eb:Nat) (ws:List Int) (wv:Value) (a:Nat) (T:List ByteArray) (w:World):Prop where
 ge:B≤eb
 ways:WV B w wv ws
 st:∃p c,Blk w eb tEnc [wv,.int .i64 (a:Nat),.slice p T.length c]∧Rw (fun b=>B≤b) tStr 1 w p T.length c (T.map .string)
theorem Ecd.quiet {eb a:Nat} {ws:List Int} {wv:Value} {T:List ByteArray} (h:Ecd B eb ws wv a T w) (k:Fr 0 [] w w'):Ecd B eb ws wv a T w':=by
 obtain ⟨p,c,h1,h2⟩:=h.st
 exact ⟨h.ge,h.ways.keep k (.inr rfl),p,c,fr_row k rfl _ _ h1,h2.mono fun b cs hb hk=>⟨fr_row k rfl _ _ hk,hb⟩⟩
theorem Ecd.le {eb a:Nat} {ws:List Int} {wv:Value} {T:List ByteArray} (h:Ecd B eb ws wv a T w):B≤w.heap.size:=by
 obtain ⟨p,c,hb, -⟩:=h.st
 exact Nat.le_trans h.ge (Nat.le_of_lt hb.lt)
theorem Ecd.later {B' eb a:Nat} {ws:List Int} {wv:Value} {T:List ByteArray} (h:Ecd B eb ws wv a T w) (k:Fr B' [tU8] w w') (hBB:B≤B':=by omega):Ecd B eb ws wv a T w':=by
 obtain ⟨p,c,h1,h2⟩:=h.st
 exact ⟨h.ge,h.ways.keep k (.inl hBB),p,c,fr_row k rfl _ _ h1,h2.mono fun b cs hb hk=>⟨fr_row k rfl _ _ hk,hb⟩⟩
def NewB (k:Nat) (w':World) (v:Value) (D:List Nat):Prop:=∃p c,v=.slice p D.length c∧Rw (fun b=>k≤b) tU8 1 w' p D.length c (D.map bv)
def uN (z:Int):Nat:=(IntKind.u64.wrap z).toNat
theorem uN_eq (z:Int):IntKind.u64.wrap z=((uN z:Nat):Int):=by
 have:0≤IntKind.u64.wrap z:=by simp[IntKind.wrap,IntKind.bits,IntKind.signed];omega
 unfold uN;omega
theorem way_c (B:Nat) (w:World) (eb:Nat) (ws:List Int) (wv:Value) (a n:Nat) (T:List ByteArray) (hE:Ecd B eb ws wv a T w) (ha:a<1000000000000000) (h0:0<n) (hn:n<1000000000) (hws:ws.length≤1000000000):
  Calls Tryz.prog 72 #[ptr eb,.int .i64 (n:Nat)] w (Ret fun v w'=>(∃k,k<n∧v=.int .i64 (k:Nat))∧∃a',a'≤a+1∧Ecd B eb ws wv a' T w'∧Fr B [tEnc] w w'):=by
 obtain ⟨p,c,hb,hT⟩:=hE.st
 obtain ⟨pw,cw,rfl,hx⟩:=hE.ways
 refine startJ (args:=[_,_]) [(0,_),(1,_)] B [tEnc] _ Tryz.func72 rfl Tryz.ntmps72 rfl rfl (Hp.one hb hE.ge rfl) ?_
 refine sQ fun K1=>cj_reg (jA (k:=K1 (sQ fun K2=>sQ fun K3=>cj_reg (jM (k:=jN (k:=jF 0 ru67 so32 (k:=jH 0 ag32 (k:=jE ru32 (k:=jQ (k:=K3 ?_))))))))))
 refine cj_dec rfl (fun h10=>?_) (fun h10=>?_)
 ·clear h10
  refine sQ fun K4=>cj_reg (jA (k:=K4 (cj_ret ?_)))
  first
  |exact ej_ret1 Tryz.results72 rfl fun w' hH hf=>⟨⟨0,h0,rfl⟩,a,by omega,⟨hE.ge,hE.ways.keep hf (.inl (Nat.le_refl _)),p,c,hH.get (i:=0) rfl rfl,hT.mono fun b cs hb hk=>⟨fr_row hf rfl _ _ hk,hb⟩⟩,hf⟩
  |exact ej_ret1 Tryz.results72 rfl fun w' hH hf=>⟨⟨_,Nat.mod_lt _ h0,rfl⟩,a+1,by omega,⟨hE.ge,hE.ways.keep hf (.inl (Nat.le_refl _)),p,c,hH.get (i:=0) rfl rfl,hT.mono fun b cs hb hk=>⟨fr_row hf rfl _ _ hk,hb⟩⟩,hf⟩
 ·have hw0:0<ws.length:=by omega
  obtain ⟨bw,ow,rfl,hbw,hcell⟩:=hx.resolve_left (by rintro rfl;simp at hw0)
  have hi:(a+1)%ws.length<ws.length:=Nat.mod_lt _ hw0
  have hce:∀w',Fm.ok ⟨w,B,[tEnc]⟩ w'→w'.cell? ⟨bw,ow+(a+1)%ws.length*1,none⟩=some (.int .i64 (ws[(a+1)%ws.length])):=fun w' hf=>by
   have h1:WV B w (.slice (some ⟨bw,ow,none⟩) ws.length cw) ws:=⟨_,_,rfl,.inr ⟨bw,ow,rfl,hbw,hcell⟩⟩
   obtain ⟨p',c',e',h2⟩:=h1.keep hf (.inl (Nat.le_refl _))
   cases e'
   obtain ⟨b2,o2,e2, -,h3⟩:=h2.resolve_left (by rintro rfl;simp at hw0)
   cases e2
   rw[Nat.mul_one]
   exact h3 _ _ (List.getElem?_eq_getElem hi)
  refine cj_skip (K2 (sQ fun K5=>cj_reg (jM (k:=jN (k:=jF 1 ru67 so3 (k:=jH 0 ag3 (k:=?_)))))))
  refine j_val rfl (fun _ _ h=>r_add rfl rfl h) ?_
  refine j_eqv (u:=.int .i64 ((a+1:Nat):Int)) (congrArg (Value.int .i64) (wrap64_small (z:=((a:Nat):Int)+1) (by omega) (by omega))) ?_
  refine jN (k:=jF 1 ru67 so3 (k:=jB [_,_,_] (_::_) 0 so3 (k:=K5 (CJ.t [(0,_),(1,_)] (k:=sQ fun K6=>?_)))))
  refine cj_drawI 22 (lts [0,1,2,3,4,5,6,7,8,9,10,11,12,13,14,15,16,17,18,19,20,21]) [0] rfl (by kernel_rfl) (by kernel_rfl) (dM [0] (k:=dN [0] (k:=dF [0] 0 ru67 so32 (k:=dH [0] 0 ag32 (k:=dM [0] (k:=dN [0] (k:=dF [0] 1 ru67 so3 (k:=dH [0] 0 ag3 (k:=dM [0] (k:=dN [0] (k:=dF [0] 0 ru67 so32 (k:=dH [0] 0 ag32 (k:=?_)))))))))))))
  refine dj_val rfl rfl (sub_of [0] rfl) (fun _ _ h=>r_len ru32 rfl h) (dj_val rfl rfl (sub_of [0] rfl) (fun _ _ h=>r_rem rfl rfl hw0 h) (dj_val rfl rfl (sub_of [0] rfl) (fun _ _ h=>r_idx ru32 so3 rfl rfl hi h) (dj_ld rfl rfl (sub_of [0] rfl) (fun a w ha hS=>r_load ag3 rfl (hce w hS.2) ha) (dj_val rfl rfl (sub_of [0] rfl) (fun _ _ h=>r_conv ru3 ru152 rfl h) ?_))))
  refine dj_eqv (u:=.int .u64 ((uN ws[(a+1)%ws.length]:Nat):Int)) (congrArg (Value.int .u64) (uN_eq _)) ?_
  refine dM [0] (k:=?_)
  refine dj_val rfl rfl (sub_of [0] rfl) (fun _ _ h=>r_conv ru3 ru152 rfl h) ?_
  refine dj_eqv (u:=.int .u64 (n:Nat)) (congrArg (Value.int .u64) (conv64 (by omega))) ?_
  refine dj_val rfl rfl (sub_of [0] rfl) (fun _ _ h=>r_rem rfl rfl h0 h) (dj_val rfl rfl (sub_of [0] rfl) (fun _ _ h=>r_conv ru152 ru3 rfl h) ?_)
  refine dj_eqv (u:=.int .i64 ((uN ws[(a+1)%ws.length]%n:Nat):Int)) (congrArg (Value.int .i64) (wrap64_small (by omega) (by have:=Nat.mod_lt (uN ws[(a+1)%ws.length]) h0;omega))) ?_
  refine dA [0] (k:=K6 (CJ.t [(4,_)] (k:=cj_ret ?_)))
  first
  |exact ej_ret1 Tryz.results72 rfl fun w' hH hf=>⟨⟨0,h0,rfl⟩,a,by omega,⟨hE.ge,hE.ways.keep hf (.inl (Nat.le_refl _)),p,c,hH.get (i:=0) rfl rfl,hT.mono fun b cs hb hk=>⟨fr_row hf rfl _ _ hk,hb⟩⟩,hf⟩
  |exact ej_ret1 Tryz.results72 rfl fun w' hH hf=>⟨⟨_,Nat.mod_lt _ h0,rfl⟩,a+1,by omega,⟨hE.ge,hE.ways.keep hf (.inl (Nat.le_refl _)),p,c,hH.get (i:=0) rfl rfl,hT.mono fun b cs hb hk=>⟨fr_row hf rfl _ _ hk,hb⟩⟩,hf⟩
def R8:Heap→Prop
 |[]=>True
 |x::r=>(x.T=tU8∧x.ob=none)∧R8 r
theorem R8.mem:∀{H:Heap},R8 H→∀x∈H,x.T=tU8∧x.ob=none
 |_::r,h,x,hx=>by
    rcases List.mem_cons.1 hx with rfl|hx
    ·exact h.1
    ·exact R8.mem h.2 x hx
theorem tagOf_blk {b:Nat} {cs:List Value} (h:Blk w b T cs) {o:Obj} (ho:w.heap[b]? =some o):tagOf o=T:=by
 have h1:w.heap[b]? =some (.cells cs.toArray T (0,0)):=h
 rw[h1]at ho;cases ho;rfl
theorem hp_enc {V:List Nat} [hV:WO V] {ws w2:World} {k0:Nat} (h:Hp ⟨ws,k0,[tU8]⟩ w1 H) (h8:R8 H) (k:Fr B V w1 w2) (hk:k0≤ws.heap.size):Hp ⟨w2,k0,[tU8]⟩ w2 H:=by
 have h1:Hp ⟨ws,k0,[tU8]⟩ w2 H:=h.mono fun x hx he o ho=>k.keep _ o ho (.inr (by
  obtain ⟨e1,e2⟩:=h8.mem x hx
  have hon:x.on=true:=by simpa[Ent.ex,e2]using he
  rw[tagOf_blk (h.blk hx hon) ho,e1];exact hV.u))
 exact Hp.again (w0:=ws) hk h1 fun x hx he hw=>by
  obtain ⟨e1,e2⟩:=h8.mem x hx
  simp[Ent.tag,e1,e2]
def RTW (V:List Nat) (B eb:Nat) (wl:List Int) (wv:Value) (a c:Nat) (φ:List ByteArray→List Nat→Prop) (w:World) (v:Value) (w':World):Prop:=
 ∃a' T' D,a'≤a+c∧φ T' D∧NewB w.heap.size w' v D∧Ecd B eb wl wv a' T' w'∧Fr B V w w'
abbrev RT:=RTW wN
theorem frN {B:Nat} {V W:List Nat} {w ws w1 w2:World} (hF:Fr B V w ws) (hf:Fr w.heap.size W ws w1) (k:Fr B V w1 w2):Fr B V w w2:=(hF.trans hf (.inl (Nat.le_refl _))).trans k (.inr ⟨Nat.le_refl _,fun _ h=>h⟩)
section
variable {V:List Nat} [hV:WO V] {Q:Exit→Act→World→Prop} {n:Nat} {f:Fm} {e:Env} {H:Heap} {ops:Array Oper} {rest:List Oper} {d ty:Nat} {pos:String} {af:Array Edge} {B eb a c:Nat} {wl:List Int} {wv:Value} {T:List ByteArray} {w ws:World}
theorem j_callR {g:FuncId} {args:Array Operand} {vs:List Value} {tys:Array TypeId} {φ:List ByteArray→List Nat→Prop} (hF:Fr B V w ws) (hE:Ecd B eb wl wv a T ws) (h8:R8 H) (hg:∀(az:Array Value) (w:World),(callFunc g az).run Tryz.prog w=.ok (.enter g az) w)
  (hargs:evL e args.toList=some vs) (hd:Nat.blt d n=true) (hc:∀w1,Hp ⟨ws,w.heap.size,[tU8]⟩ w1 H→Fr B V w w1→Ecd B eb wl wv a T w1→Calls Tryz.prog g vs.toArray w1 (Ret (RTW V B eb wl wv a c φ w1)))
  (k:∀a' T' D p cc y w2,a'≤a+c→φ T' D→Ecd B eb wl wv a' T' w2→Fr B V w w2→Own tU8 1 y p D.length cc (D.map bv)→J Tryz.prog ops Q n ⟨w2,w.heap.size,[tU8]⟩ ((d,.slice p D.length cc)::e) (y::H) rest) (hBw:B≤w.heap.size:=by omega):
  J Tryz.prog ops Q n ⟨ws,w.heap.size,[tU8]⟩ e H (⟨some d,.call ⟨.value (.func g),args,tys⟩,ty,pos,af,none⟩::rest):=
 j_callE (R:=RTW V B eb wl wv a c φ) hg hargs hd (fun w1 hH hf=>hc w1 hH (hF.trans hf (.inl (Nat.le_refl _))) (hE.later hf)) fun w1 v w2 hH hf hR=>by
  obtain ⟨a',T',D,h1,h2,⟨p,cc,rfl,y,hO,hy⟩,hE2,hk⟩:=hR
  have hs:w.heap.size≤w1.heap.size:=Nat.le_trans hF.size hf.size
  refine k a' T' D p cc y w2 h1 h2 hE2 (frN hF hf hk) hO w2 ⟨⟨fun ho=>?_,fun o ho=>?_⟩,fun he _=>?_,fun he z hz hze=>?_,hp_enc hH h8 hk hF.size⟩ ok_refl
  ·rw[hO.hT];exact (hy ho).1
  ·rw[hO.ho]at ho;cases ho
  ·have hon:y.on=true:=by simpa[Ent.ex,hO.ho]using he
   exact .inr ⟨Nat.le_trans hs (hy hon).2,by simp[Ent.tag,hO.ho,hO.hT]⟩
  ·have hon:y.on=true:=by simpa[Ent.ex,hO.ho]using he
   have h3:=hH.lt hz hze
   have h4:=(hy hon).2
   omega
theorem j_callW {y:Operand} {tys:Array TypeId} (hF:Fr B V w ws) (hE:Ecd B eb wl wv a T ws) (h8:R8 H) (ha:a<1000000000000000) (h0:0<m) (hm:m<1000000000) (hwl:wl.length≤1000000000)
  (hx:ev e x=some (ptr eb)) (hy:ev e y=some (.int .i64 (m:Nat))) (hd:Nat.blt d n=true)
  (k:∀a' j w2,a'≤a+1→j<m→Ecd B eb wl wv a' T w2→Fr B V w w2→J Tryz.prog ops Q n ⟨w2,w.heap.size,[tU8]⟩ ((d,.int .i64 (j:Nat))::e) H rest) (hBw:B≤w.heap.size:=by omega):
  J Tryz.prog ops Q n ⟨ws,w.heap.size,[tU8]⟩ e H (⟨some d,.call ⟨.value (.func 72), #[x,y],tys⟩,ty,pos,af,none⟩::rest):=
 j_callE (vs:=[ptr eb,.int .i64 (m:Nat)]) (R:=fun w1 v w2=>(∃k,k<m∧v=.int .i64 (k:Nat))∧∃a',a'≤a+1∧Ecd B eb wl wv a' T w2∧Fr B [tEnc] w1 w2) Tryz.call72 (by simp[evL,hx,hy]) hd (fun w1 hH hf=>way_c B w1 eb wl wv a m T (hE.later hf) ha h0 hm hwl) fun w1 v w2 hH hf hR=>by
  obtain ⟨⟨j,hj,rfl⟩,a',h1,hE2,hk⟩:=hR
  have hk':Fr B V w1 w2:=hk.mono (.inr ⟨Nat.le_refl _,fun x hx=>by simp at hx;subst hx;exact hV.e⟩)
  exact k a' j w2 h1 hj hE2 (frN hF hf hk') w2 (hp_enc hH h8 hk' hF.size) ok_refl
theorem j_app8 {cp c2:Nat} {s:Operand} {z:Ent} {p2:Option Addr} {zs:List Value} (i j:Nat) (hy:H[i]? =some y) (hz:H[j]? =some z) (hO:Own tU8 1 y p l cp xs) (hZ:SlE z p2 m c2 1 zs)
  (hu:∀w,(underlying sT).run Tryz.prog w=.ok (.slice tU8) w) (hs:ev e s=some (.slice p l cp)) (hx:ev e x=some (.slice p2 m c2)) (hsc:∀v∈zs,scal v=true) (hbig:l+m≤100000000000) (hd:Nat.blt d n=true)
  (k:∀y' p' c',Own tU8 1 y' p' (l+m) c' (xs++zs)→J Tryz.prog ops Q n f ((d,.slice p' (l+m) c')::e) (putH H i y') rest):
  J Tryz.prog ops Q n f e H (⟨some d,.call ⟨.builtin .append, #[s,x], #[sT,sT]⟩,ty,pos,af,none⟩::rest):=by
 have hl:zs.length=m:=by have:=hZ.1;simpa using this
 refine j_append i hy hO.hT hO.ho hO.hw hu hu (.inl ⟨_,rfl⟩) el5 rfl hs hx hO.sl (lenOf_slice _ _ _) (fun w w1 hH hf k=>?_) (by simp[hl]) (by simpa[List.all_eq_true]using hsc) hbig hd fun y' p' c' h1 h2 h3 h4=>k y' p' c' ⟨h1,h2,h3,h4⟩
 obtain ⟨-, -,h4⟩:=id hZ
 rcases h4 with ⟨h5,h6,⟨ex,h7⟩, -⟩|⟨h5,h6,h7⟩
 ·subst h6
  have hb:Blk w1 z.b z.T z.cs:=k _ _ (hH.get hz h5)
  exact fc_blk hb (by rw[List.drop_zero,h7,Nat.mul_one, ← hl,List.take_append_of_le_length (Nat.le_refl _),List.take_length]) (by simp[hl])
 ·subst h6
  have:m=0:=by have:=hZ.2.1;omega
  subst this
  rw[List.eq_nil_of_length_eq_zero hl]
  rfl
end
theorem newB_of {V:List Nat} {i:Nat} {v':World} (hF:Fr B V w v') (hH:Hp ⟨v',w.heap.size,[tU8]⟩ w' H) (hi:H[i]? =some y) (hO:Own tU8 1 y p l c xs) (hx:xs=D.map bv):NewB w.heap.size w' (.slice p l c) D:=by
 have hl:l=D.length:=by have:=hO.sl.1;rw[hx]at this;simpa using this.symm
 subst hl;subst hx
 refine ⟨p,c,rfl,y,hO,fun ho=>⟨by have:=hH.get hi ho;rw[hO.hT]at this;exact this,?_⟩⟩
 have he:y.ex=true:=by simp[Ent.ex,ho]
 rcases hH.mayx (List.mem_of_getElem? hi) he hO.hw with h|⟨h, -⟩
 ·exact Nat.le_trans hF.size h
 ·exact h
theorem hp_arg {sz k0:Nat} (hO:Own T sz y p l c xs) (hy:y.on=true→Blk w y.b T y.cs) (h:Hp ⟨w,k0,W⟩ w H) (hne:∀z∈H,z.ex=true→z.b≠y.b):Hp ⟨w,k0,W⟩ w (Go.Fw.ro y::H):=
 ⟨⟨fun ho=>by have:=hy ho;rw[← hO.hT]at this;exact this,fun o ho=>by have:=hO.ho;simp[Go.Fw.ro,this]at ho⟩,fun _ hw=>by simp[Go.Fw.ro]at hw,fun _=>hne,h⟩
theorem scal_bytes:∀v∈D.map bv,scal v=true:=fun v hv=>by obtain ⟨u, -,rfl⟩:=List.mem_map.1 hv;rfl
theorem VEnc.pad1 {n:Nat} (h:∀bs,VEnc m bs→D.length+bs.length≤10→VEnc n (D++bs)) (hm:m<128) (k:Nat) (hk:D.length+k+2≤10):VEnc n (D++([m+128]++List.replicate k 128++[0])):=by
 have z:∀k,k≤8→VEnc 0 (List.replicate k 128++[0]):=fun k=>by
  induction k with
  |zero=>exact fun _=>VEnc.one (by omega)
  |succ j ih=>exact fun hj=>VEnc.cons (n:=0) rfl (by simp;omega) (ih (by omega))
 refine h _ ?_ (by simp;omega)
 have h1:=z k (by omega)
 have e:m/128=0:=Nat.div_eq_of_lt hm
 exact VEnc.cons (n:=m) (by rw[Nat.mod_eq_of_lt hm]) (by simp;omega) (by rw[e];exact h1)
set_option maxHeartbeats 1000000 in
theorem number_c {V:List Nat} [hV:WO V] (B:Nat) (w:World) (eb:Nat) (wl:List Int) (wv:Value) (a n:Nat) (T:List ByteArray) (hE:Ecd B eb wl wv a T w) (ha:a<900000000000000) (hn:n<18446744073709551616) (hwl:wl.length≤1000000000):
  Calls Tryz.prog 70 #[ptr eb,.int .u64 (n:Nat)] w (Ret (RTW V B eb wl wv a 2 (fun T' D=>T'=T∧VEnc n D) w)):=by
 have hBw:B≤w.heap.size:=hE.le
 refine startJ (args:=[_,_]) [(0,_),(1,_)] w.heap.size [tU8] [] func70 rfl ntmps70 rfl rfl .nil ?_
 refine sQ fun K1=>cj_reg (jA (k:=K1 (sQ fun K2=>cj_reg (jA (k:=K2 (sQ fun K3=>cj_block ?_))))))
 refine cj_loop (σ:=Nat×List Nat×Ent×Option Addr×Nat) (fun s=>[(0,ptr eb),(1,.int .u64 (s.1:Nat)),(5,.slice s.2.2.2.1 s.2.1.length s.2.2.2.2)]) (fun s=>[s.2.2.1])
  (fun s _=>Own tU8 1 s.2.2.1 s.2.2.2.1 s.2.1.length s.2.2.2.2 (s.2.1.map bv)∧s.2.1.length≤9∧s.1*128^s.2.1.length≤n∧∀bs,VEnc s.1 bs→s.2.1.length+bs.length≤10→VEnc n (s.2.1++bs)) (fun s=>s.1) (n,[],nilE tU8,none,0) sR (fun w' hH hf=>⟨hH.off,Own.nil,by simp,by simp,fun bs h _=>h⟩) ?_
 rintro ⟨m,D,y,p,c⟩ w1 ⟨hO,hD9,hmul,hV⟩ hf1 hH1 KL hKL
 try dsimp only at hO hD9 hmul hV
 have hDs:D.length+1≤100000000000:=by omega
 refine C.begin _ _ hf1 hH1 ?_
 try dsimp only
 refine sQ fun K4=>sQ fun K5=>cj_reg (jM (k:=?_))
 refine j_val rfl (fun _ _ h=>r_geq rfl rfl h) (K5 ?_)
 refine cj_dec rfl (fun h8=>?_) (fun h8=>?_)
 ·have hm:128≤m:=by omega
  have hpw:m/128*128^(D.length+1)≤n:=by
   rw[Nat.pow_succ,Nat.mul_comm (128^D.length) 128, ← Nat.mul_assoc]
   exact Nat.le_trans (Nat.mul_le_mul_right _ (Nat.div_mul_le_self m 128)) hmul
  have hD8:D.length+1≤9:=by
   refine Decidable.byContradiction fun h=>?_
   have h1:128^10≤128^(D.length+1):=Nat.pow_le_pow_right (by omega) (by omega)
   have h2:1≤m/128:=by omega
   have h3:=Nat.mul_le_mul h2 h1
   omega
  refine cj_skip (K4 (cj_block (sQ fun K6=>cj_reg (jM (k:=jM (k:=?_))))))
  refine j_val rfl (fun _ _ h=>r_conv ru71 ru5 rfl h) (j_val rfl (fun _ _ h=>r_or rfl rfl h) ?_)
  refine j_eqv (u:=bv (m%128+128)) (congrArg (Value.int .u8) (bits_more m)) ?_
  refine j_bslice1 ru36 so5 zv5 rfl rfl rfl rfl rfl fun b13=>?_
  refine j_appO 0 rfl hO ru36 el5 rfl rfl rfl rfl rfl hDs rfl fun y14 p14 c14 hO14=>?_
  refine jA (k:=K6 (cj_reg (jM (k:=?_))))
  refine j_val rfl (fun _ _ h=>r_shr (q:=7) rfl rfl h) ?_
  refine j_eqv (u:=.int .u64 ((m/128:Nat):Int)) (congrArg (Value.int .u64) (shr7 m)) ?_
  refine jA (k:=j_nil (ej_blk (ej_then ?_)))
  exact fun w' hH hf=>hKL (m/128,D++[m%128+128],y14,p14,c14) _ w' ⟨by have h:Own tU8 1 y14 p14 (D.length+1) c14 (D.map bv++[bv (m%128+128)]):=hO14;simpa using h,by simp;omega,by simpa using hpw,fun bs h hb=>by
   have:=hV ((m%128+128)::bs) (VEnc.cons rfl (by simp at hb;omega) h) (by simp at hb⊢;omega)
   simpa using this⟩ hf hH (by simp only;omega) (by rw[List.length_append];exact ⟨rfl,rfl,rfl,trivial⟩)
 ·have hm:m<128:=by omega
  clear hKL
  refine cj_exit (K3 (CJ.t [(0,_),(1,_),(5,_)] (k:=sQ fun K7=>cj_reg (jA (k:=K7 ?_)))))
  refine cj_seqF fun K8 hK8=>?_
  have hJ19:∀(q a3:Nat) v',q+D.length≤9→a3≤a+2→Ecd B eb wl wv a3 T v'→Fr B V w v'→Hp ⟨v',w.heap.size,[tU8]⟩ v' [y]→N K8 49 [(1,.int .u64 (m:Nat)),(5,.slice p D.length c),(6,.int .i64 (q:Nat))] v':=by
   intro q a3 v7 hq ha3 hE3 hF3 hH3
   refine hK8 ⟨v7,w.heap.size,[tU8]⟩ _ [y] ?_ v7 hH3 ok_refl
   refine sQ fun K9=>sQ fun K10=>cj_reg (jM (k:=jQ (k:=K10 ?_)))
   refine cj_dec rfl (fun h27=>?_) (fun h27=>?_)
   ·refine sQ fun K11=>cj_reg (jM (k:=jM (k:=?_)))
    refine j_val rfl (fun _ _ h=>r_conv ru71 ru5 rfl h) ?_
    refine j_eqv (u:=bv m) (congrArg (Value.int .u8) (conv8 hm)) ?_
    refine j_bslice1 ru36 so5 zv5 rfl rfl rfl rfl rfl fun b31=>?_
    refine j_appO 0 rfl hO ru36 el5 rfl rfl rfl rfl rfl hDs rfl fun y32 p32 c32 hO32=>?_
    refine jA (k:=K11 (cj_ret ?_))
    first
    |exact ej_ret1 results70 rfl fun w' hH hf=>⟨a3,T,D++[m],ha3,⟨rfl,hV _ (VEnc.one hm) (by simp;omega)⟩,newB_of hF3 hH (i:=0) rfl hO32 (by rw[List.map_append];rfl),hE3.later hf,hF3.trans hf (.inl (Nat.le_refl _))⟩
    |exact ej_ret1 results70 rfl fun w' hH hf=>⟨a3,T,D++([m+128]++List.replicate j 128++[0]),ha3,⟨rfl,VEnc.pad1 hV hm j (by omega)⟩,newB_of hF3 hH (i:=0) rfl hO48 (by simp;rfl),hE3.later hf,hF3.trans hf (.inl (Nat.le_refl _))⟩
   ·have hq1:1≤q:=by omega
    refine cj_skip (K9 (sQ fun K12=>cj_reg (jM (k:=jM (k:=?_)))))
    refine j_val rfl (fun _ _ h=>r_conv ru71 ru5 rfl h) (j_val rfl (fun _ _ h=>r_or rfl rfl h) ?_)
    refine j_eqv (u:=bv (m%128+128)) (congrArg (Value.int .u8) (bits_more m)) ?_
    refine j_bslice1 ru36 so5 zv5 rfl rfl rfl rfl rfl fun b37=>?_
    refine j_appO 0 rfl hO ru36 el5 rfl rfl rfl rfl rfl hDs rfl fun y38 p38 c38 hO38=>?_
    refine jA (k:=K12 (CJ.t [(5,_),(6,_)] (k:=sQ fun K13=>cj_block ?_)))
    refine cj_loop (σ:=Nat×Nat×Ent×Option Addr×Nat) (fun s=>[(5,.slice s.2.2.2.1 (D.length+1+s.2.1) s.2.2.2.2),(6,.int .i64 (s.1:Nat))]) (fun s=>[s.2.2.1])
     (fun s _=>Own tU8 1 s.2.2.1 s.2.2.2.1 (D.length+1+s.2.1) s.2.2.2.2 ((D++([m+128]++List.replicate s.2.1 128)).map bv)∧1≤s.1∧s.1+s.2.1=q) (fun s=>s.1) (q,0,y38,p38,c38) ⟨rfl,rfl,trivial⟩ (fun w' hH hf=>⟨hH,by have h:Own tU8 1 y38 p38 (D.length+1) c38 (D.map bv++[bv (m%128+128)]):=hO38;rw[Nat.mod_eq_of_lt hm]at h;simpa using h,hq1,rfl⟩) ?_
    rintro ⟨q',j,z,pz,cz⟩ w4 ⟨hOz,hq',hqj⟩ hf4 hH4 KL4 hKL4
    try dsimp only at hOz
    replace hq':1≤q':=hq'
    replace hqj:q'+j=q:=hqj
    have hzs:D.length+1+j+1≤100000000000:=by omega
    refine C.begin _ _ hf4 hH4 ?_
    try dsimp only
    refine sQ fun K14=>sQ fun K15=>cj_reg (jM (k:=jG (k:=K15 ?_)))
    refine cj_dec rfl (fun h40=>?_) (fun h40=>?_)
    ·refine cj_skip (K14 (sQ fun K16=>cj_block (cj_reg (jM (k:=?_)))))
     refine j_bslice1 ru36 so5 zv5 rfl rfl rfl rfl rfl fun b44=>?_
     refine j_appO 0 rfl hOz ru36 el5 rfl rfl rfl rfl rfl hzs rfl fun y45 p45 c45 hO45=>?_
     refine jA (k:=K16 (cj_reg (jM (k:=?_))))
     refine j_val rfl (fun _ _ h=>r_sub rfl rfl h) ?_
     refine j_eqv (u:=.int .i64 ((q' - 1:Nat):Int)) (congrArg (Value.int .i64) ((wrap64_small (by omega) (by omega)).trans (by omega))) ?_
     refine jA (k:=j_nil (ej_then ?_))
     exact fun w' hH hf=>hKL4 (q' - 1,j+1,y45,p45,c45) _ w' ⟨by have h:Own tU8 1 y45 p45 (D.length+1+j+1) c45 ((D++([m+128]++List.replicate j 128)).map bv++[bv 128]):=hO45;rw[List.replicate_succ'];simpa[Nat.add_assoc]using h,by simp only;omega,by simp only;omega⟩ hf hH (by simp only;omega) ⟨rfl,rfl,trivial⟩
    ·have hq0:q'=1:=by omega
     clear hKL4
     refine cj_exit (K13 (sQ fun K17=>cj_reg (jM (k:=?_))))
     refine j_bslice1 ru36 so5 zv5 rfl rfl rfl rfl rfl fun b47=>?_
     refine j_appO 0 rfl hOz ru36 el5 rfl rfl rfl rfl rfl hzs rfl fun y48 p48 c48 hO48=>?_
     refine jA (k:=K17 (CJ.t [(4,_)] (k:=cj_ret ?_)))
     first
     |exact ej_ret1 results70 rfl fun w' hH hf=>⟨a3,T,D++[m],ha3,⟨rfl,hV _ (VEnc.one hm) (by simp;omega)⟩,newB_of hF3 hH (i:=0) rfl hO32 (by rw[List.map_append];rfl),hE3.later hf,hF3.trans hf (.inl (Nat.le_refl _))⟩
     |exact ej_ret1 results70 rfl fun w' hH hf=>⟨a3,T,D++([m+128]++List.replicate j 128++[0]),ha3,⟨rfl,VEnc.pad1 hV hm j (by omega)⟩,newB_of hF3 hH (i:=0) rfl hO48 (by simp;rfl),hE3.later hf,hF3.trans hf (.inl (Nat.le_refl _))⟩
  clear hK8
  refine sQ fun K18=>cj_reg (jM (k:=?_))
  refine j_callW (V:=V) (m:=5) (Fr.refl _ _ _) hE ⟨⟨hO.hT,hO.ho⟩,trivial⟩ (by omega) (by omega) (by omega) hwl rfl rfl rfl fun a1 j1 w2 ha1 hj1 hE2 hF2=>?_
  refine jQ (k:=K18 ?_)
  refine cj_dec rfl (fun _=>?_) (fun _=>?_)
  ·refine cj_reg (jM (k:=?_))
   refine j_callW (V:=V) (m:=4) hF2 hE2 ⟨⟨hO.hT,hO.ho⟩,trivial⟩ (by omega) (by omega) (by omega) hwl rfl rfl rfl fun a2 j2 w3 ha2 hj2 hE3 hF3=>?_
   refine jM (k:=jE ru36 (k:=?_))
   refine j_val rfl (fun _ _ h=>r_sub rfl rfl h) ?_
   refine j_eqv (u:=.int .i64 ((9 - D.length:Nat):Int)) (congrArg (Value.int .i64) ((wrap64_small (by omega) (by omega)).trans (by omega))) ?_
   refine j_val rfl (fun _ _ h=>r_min rfl rfl h) ?_
   refine j_eqv (u:=.int .i64 ((min j2 (9 - D.length):Nat):Int)) (congrArg (Value.int .i64) (by split<;>omega)) ?_
   refine jA (k:=j_nil (ej_then ?_))
   first
    |exact fun v' hH hf=>N.sub' (hJ19 (min j2 (9 - D.length)) a2 v' (by omega) (by omega) (hE3.later hf) (hF3.trans hf (.inl (Nat.le_refl _))) (hp_enc hH ⟨⟨hO.hT,hO.ho⟩,trivial⟩ (Fr.refl B V v') hF3.size)) ⟨rfl,rfl,rfl,trivial⟩
    |exact fun v' hH hf=>N.sub' (hJ19 0 a1 v' (by omega) (by omega) (hE2.later hf) (hF2.trans hf (.inl (Nat.le_refl _))) (hp_enc hH ⟨⟨hO.hT,hO.ho⟩,trivial⟩ (Fr.refl B V v') hF2.size)) ⟨rfl,rfl,rfl,trivial⟩
  ·refine cj_skip (ej_then ?_)
   first
    |exact fun v' hH hf=>N.sub' (hJ19 (min j2 (9 - D.length)) a2 v' (by omega) (by omega) (hE3.later hf) (hF3.trans hf (.inl (Nat.le_refl _))) (hp_enc hH ⟨⟨hO.hT,hO.ho⟩,trivial⟩ (Fr.refl B V v') hF3.size)) ⟨rfl,rfl,rfl,trivial⟩
    |exact fun v' hH hf=>N.sub' (hJ19 0 a1 v' (by omega) (by omega) (hE2.later hf) (hF2.trans hf (.inl (Nat.le_refl _))) (hp_enc hH ⟨⟨hO.hT,hO.ho⟩,trivial⟩ (Fr.refl B V v') hF2.size)) ⟨rfl,rfl,rfl,trivial⟩
def TgM (k n:Nat) (m:Msg):Prop:=(m=[]∧n=0)∨∃bs,m=[(.fld (.num k n),bs)]∧GEnc (.fld (.num k n)) bs
set_option maxHeartbeats 1000000 in
theorem tagged_c (B:Nat) (w:World) (eb:Nat) (wl:List Int) (wv:Value) (a k n:Nat) (T:List ByteArray) (hE:Ecd B eb wl wv a T w) (ha:a<800000000000000) (hk:k<1048576) (hn:n<18446744073709551616) (hwl:wl.length≤1000000000):
  Calls Tryz.prog 35 #[ptr eb,.int .i64 (k:Nat),.int .u64 (n:Nat)] w (Ret (RT B eb wl wv a 5 (fun T' D=>T'=T∧∃m,D=mB m∧TgM k n m) w)):=by
 have hBw:B≤w.heap.size:=hE.le
 refine startJ (args:=[_,_,_]) [(0,_),(1,_),(2,_)] w.heap.size [tU8] [] func35 rfl ntmps35 rfl rfl .nil ?_
 refine sQ fun K1=>cj_reg (jA (k:=K1 ?_))
 refine cj_seqF fun K2 hK2=>?_
 have hJ13:∀(a1:Nat) v',a1≤a+1→Ecd B eb wl wv a1 T v'→Fr B wN w v'→N K2 23 [(0,ptr eb),(1,.int .i64 (k:Nat)),(2,.int .u64 (n:Nat))] v':=by
  intro a1 v7 ha1 hE1 hF1
  refine hK2 ⟨v7,w.heap.size,[tU8]⟩ _ [] ?_ v7 .nil ok_refl
  refine sQ fun K3=>cj_reg (jM (k:=jM (k:=?_)))
  refine j_val rfl (fun _ _ h=>r_conv ru3 ru71 rfl h) ?_
  refine j_eqv (u:=.int .u64 (k:Nat)) (congrArg (Value.int .u64) (conv64 (by omega))) ?_
  refine j_val rfl (fun _ _ h=>r_shl (q:=3) rfl rfl h) ?_
  refine j_eqv (u:=.int .u64 ((8*k:Nat):Int)) (congrArg (Value.int .u64) (shl3 hk)) ?_
  refine j_callR (V:=wN) hF1 hE1 trivial call70 rfl rfl (fun w1 _ _ hE1=>number_c B w1 eb wl wv _ (8*k) T hE1 (by omega) (by omega) hwl) fun a3 T3 D3 p3 c3 y3 w3 ha3 hφ3 hE3 hF3 hO3=>?_
  obtain ⟨rfl,hV3⟩:=hφ3
  refine jM (k:=jM (k:=?_))
  refine j_callR (V:=wN) hF3 hE3 ⟨⟨hO3.hT,hO3.ho⟩,trivial⟩ call70 rfl rfl (fun w1 _ _ hE1=>number_c B w1 eb wl wv _ n T3 hE1 (by omega) hn hwl) fun a4 T4 D4 p4 c4 y4 w4 ha4 hφ4 hE4 hF4 hO4=>?_
  obtain ⟨rfl,hV4⟩:=hφ4
  refine j_app8 1 0 rfl rfl hO3 hO4.sl ru36 rfl rfl scal_bytes (by have:=hV3.le;have:=hV4.le;omega) rfl fun y5 p5 c5 hO5=>?_
  refine jA (k:=K3 (CJ.t [(6,_)] (k:=cj_ret ?_)))
  first
  |exact ej_ret1 results35 rfl fun w' hH hf=>⟨a4,T4,D3++D4,by omega,⟨rfl,[(.fld (.num k n),D3++D4)],by simp[mB],.inr ⟨_,rfl,D3,D4,rfl,hV3,hV4,hk,hn⟩⟩,newB_of hF4 hH (i:=1) rfl hO5 (by simp),hE4.later hf,hF4.trans hf (.inl (Nat.le_refl _))⟩
  |exact ej_ret1 results35 rfl fun w' hH hf=>⟨a1,T,[],by omega,⟨rfl,[],rfl,.inl ⟨rfl,by have:=of_decide_eq_true hg9;omega⟩⟩,⟨none,0,rfl,Rw.nil⟩,hE2.later hf,hF2.trans hf (.inl (Nat.le_refl _))⟩
 clear hK2
 refine sQ fun K4=>cj_reg (jM (k:=jQ (k:=jM (k:=?_))))
 refine j_split (t:=9) rfl (fun hg9=>?_) (fun hg9=>?_)
 ·refine j_gt rfl rfl (jM (k:=?_))
  refine j_gt rfl rfl ?_
  refine j_callW (V:=wN) (m:=3) (Fr.refl _ _ _) hE trivial (by omega) (by omega) (by omega) hwl rfl rfl rfl fun a1 j1 w2 ha1 hj1 hE2 hF2=>?_
  refine j_gt rfl rfl (j_val rfl (fun _ _ h=>r_neq rfl rfl h) (jT (k:=K4 ?_)))
  refine cj_dec rfl (fun h13=>?_) (fun h13=>?_)
  ·refine sQ fun K5=>cj_reg (jA (k:=K5 (CJ.t [(6,_)] (k:=cj_ret ?_))))
   first
   |exact ej_ret1 results35 rfl fun w' hH hf=>⟨a4,T4,D3++D4,by omega,⟨rfl,[(.fld (.num k n),D3++D4)],by simp[mB],.inr ⟨_,rfl,D3,D4,rfl,hV3,hV4,hk,hn⟩⟩,newB_of hF4 hH (i:=1) rfl hO5 (by simp),hE4.later hf,hF4.trans hf (.inl (Nat.le_refl _))⟩
   |exact ej_ret1 results35 rfl fun w' hH hf=>⟨a1,T,[],by omega,⟨rfl,[],rfl,.inl ⟨rfl,by have:=of_decide_eq_true hg9;omega⟩⟩,⟨none,0,rfl,Rw.nil⟩,hE2.later hf,hF2.trans hf (.inl (Nat.le_refl _))⟩
  ·refine cj_skip (ej_then ?_)
   first
    |exact fun v' hH hf=>N.sub' (hJ13 a1 v' (by omega) (hE2.later hf) (hF2.trans hf (.inl (Nat.le_refl _)))) ⟨rfl,rfl,rfl,trivial⟩
    |exact fun v' hH hf=>N.sub' (hJ13 a v' (by omega) (hE.later hf) ((Fr.refl B wN w).trans hf (.inl (Nat.le_refl _)))) ⟨rfl,rfl,rfl,trivial⟩
 ·refine j_gf rfl rfl rfl rfl (j_gf rfl rfl rfl rfl (j_gf rfl rfl rfl rfl (jK (k:=K4 ?_))))
  refine cj_if_f rfl (cj_skip (ej_then ?_))
  first
   |exact fun v' hH hf=>N.sub' (hJ13 a1 v' (by omega) (hE2.later hf) (hF2.trans hf (.inl (Nat.le_refl _)))) ⟨rfl,rfl,rfl,trivial⟩
   |exact fun v' hH hf=>N.sub' (hJ13 a v' (by omega) (hE.later hf) ((Fr.refl B wN w).trans hf (.inl (Nat.le_refl _)))) ⟨rfl,rfl,rfl,trivial⟩
def Rd8 (w:World) (v:Value) (E:List Nat):Prop:=∃p c,v=.slice p E.length c∧(E=[]∨∃(b:Nat) (obj:Obj),w.heap[b]? =some obj∧tagOf obj=tU8∧∀w':World,w'.heap[b]? =some obj→(Builtin.firstCells 1 E.length (.slice p E.length c)).run Tryz.prog w'=.ok (E.map bv).toArray w')
theorem Rd8.keep {V:List Nat} [hV:WO V] {w0 ws:World} {E:List Nat} (h:Rd8 w0 v E) (hF:Fr B V w0 ws) (hf:Fr w0.heap.size [tU8] ws w):Rd8 w v E:=by
 obtain ⟨p,c,e,h⟩:=h
 refine ⟨p,c,e,h.imp id fun ⟨b,obj,h1,h2,h3⟩=>⟨b,obj,?_,h2,h3⟩⟩
 exact hf.keep _ _ (hF.keep _ _ h1 (.inr (by rw[h2];exact hV.u))) (.inl (Array.getElem?_eq_some_iff.1 h1).1)
theorem Rd8.of_os {E:List Nat} (h:OS tU8 1 w v (E.map bv)):Rd8 w v E:=by
 obtain ⟨y,p,l,c,rfl,hO,hy⟩:=h
 obtain rfl:l=E.length:=by have:=hO.sl.1;simpa using this.symm
 refine ⟨p,c,rfl,?_⟩
 obtain ⟨-, -,h4⟩:=id hO.sl
 rcases h4 with ⟨h5,h6,⟨ex,h7⟩, -⟩|⟨h5,h6,h7⟩
 ·right
  subst h6
  have hb:w.heap[y.b]? =some (.cells y.cs.toArray tU8 (0,0)):=hy h5
  refine ⟨y.b,_,hb,rfl,fun w' hk=>?_⟩
  have hb':Blk w' y.b tU8 y.cs:=hk
  exact fc_blk hb' (by rw[List.drop_zero,h7,Nat.mul_one,List.take_append_of_le_length (by simp),List.take_of_length_le (by simp)]) (by simp)
 ·left
  have:=hO.sl.2.1
  exact List.eq_nil_of_length_eq_zero (by omega)
section
variable {Q:Exit→Act→World→Prop} {n:Nat} {f:Fm} {e:Env} {H:Heap} {ops:Array Oper} {rest:List Oper} {d ty:Nat} {pos:String} {af:Array Edge}
theorem j_appR8 {cp c2:Nat} {s:Operand} {p2:Option Addr} {E:List Nat} (i:Nat) (hy:H[i]? =some y) (hO:Own tU8 1 y p l cp xs)
  (hu:∀w,(underlying sT).run Tryz.prog w=.ok (.slice tU8) w) (hs:ev e s=some (.slice p l cp)) (hx:ev e x=some (.slice p2 m c2)) (hR:∀w,f.ok w→Rd8 w (.slice p2 m c2) E) (hm:E.length=m) (hbig:l+m≤100000000000) (hd:Nat.blt d n=true)
  (k:∀y' p' c',Own tU8 1 y' p' (l+m) c' (xs++E.map bv)→J Tryz.prog ops Q n f ((d,.slice p' (l+m) c')::e) (putH H i y') rest):
  J Tryz.prog ops Q n f e H (⟨some d,.call ⟨.builtin .append, #[s,x], #[sT,sT]⟩,ty,pos,af,none⟩::rest):=by
 subst hm
 refine j_append i hy hO.hT hO.ho hO.hw hu hu (.inl ⟨_,rfl⟩) el5 rfl hs hx hO.sl (lenOf_slice _ _ _) (fun w w1 hH hf k=>?_) (by simp) (by simp[List.all_eq_true,scal]) hbig hd fun y' p' c' h1 h2 h3 h4=>k y' p' c' ⟨h1,h2,h3,h4⟩
 obtain ⟨p',c',e',h⟩:=hR w hf
 cases e'
 rcases h with h|⟨b,obj,h1,h2,h3⟩
 ·subst h
  cases p2 with
  |none=>rfl
  |some a=>rfl
 ·exact h3 w1 (k _ _ h1)
end
set_option maxHeartbeats 1000000 in
theorem bytes_e {V:List Nat} [hV:WO V] (B:Nat) (w:World) (eb:Nat) (wl:List Int) (wv:Value) (a k:Nat) (T:List ByteArray) (bvv:Value) (E:List Nat) (hE:Ecd B eb wl wv a T w) (ha:a<800000000000000) (hk:k<1048576) (hB:Rd8 w bvv E) (hl:E.length≤50000000000) (hwl:wl.length≤1000000000):
  Calls Tryz.prog 29 #[ptr eb,.int .i64 (k:Nat),bvv] w (Ret (RTW V B eb wl wv a 4 (fun T' D=>T'=T∧GEnc (.fld (.bys k E)) D) w)):=by
 have hBw:B≤w.heap.size:=hE.le
 have hB0:=hB
 obtain ⟨pb,cb,rfl, -⟩:=hB
 refine startJ (args:=[_,_,_]) [(0,_),(1,_),(2,_)] w.heap.size [tU8] [] func29 rfl ntmps29 rfl rfl .nil ?_
 refine sQ fun K1=>cj_reg (jA (k:=K1 (sQ fun K2=>cj_reg (jM (k:=jM (k:=?_))))))
 refine j_val rfl (fun _ _ h=>r_conv ru3 ru71 rfl h) ?_
 refine j_eqv (u:=.int .u64 (k:Nat)) (congrArg (Value.int .u64) (conv64 (by omega))) ?_
 refine j_val rfl (fun _ _ h=>r_shl (q:=3) rfl rfl h) ?_
 refine j_eqv (u:=.int .u64 ((8*k:Nat):Int)) (congrArg (Value.int .u64) (shl3 hk)) ?_
 refine j_val rfl (fun _ _ h=>r_or rfl rfl h) ?_
 refine j_eqv (u:=.int .u64 ((8*k+2:Nat):Int)) (congrArg (Value.int .u64) (bits_tag (t:=2) hk (by omega))) ?_
 refine j_callR (V:=V) (Fr.refl _ _ _) hE trivial call70 rfl rfl (fun w1 _ _ hE1=>number_c B w1 eb wl wv _ (8*k+2) T hE1 (by omega) (by omega) hwl) fun a3 T3 D3 p3 c3 y3 w3 ha3 hφ3 hE3 hF3 hO3=>?_
 obtain ⟨rfl,hV3⟩:=hφ3
 refine jM (k:=jM (k:=jE ru36 (k:=?_)))
 refine j_val rfl (fun _ _ h=>r_conv ru3 ru71 rfl h) ?_
 refine j_eqv (u:=.int .u64 (E.length:Nat)) (congrArg (Value.int .u64) (conv64 (by omega))) ?_
 refine j_callR (V:=V) hF3 hE3 ⟨⟨hO3.hT,hO3.ho⟩,trivial⟩ call70 rfl rfl (fun w1 _ _ hE1=>number_c B w1 eb wl wv _ E.length T3 hE1 (by omega) (by omega) hwl) fun a4 T4 D4 p4 c4 y4 w4 ha4 hφ4 hE4 hF4 hO4=>?_
 obtain ⟨rfl,hV4⟩:=hφ4
 have h3:=hV3.le
 have h4:=hV4.le
 refine j_app8 1 0 rfl rfl hO3 hO4.sl ru36 rfl rfl scal_bytes (by omega) rfl fun y5 p5 c5 hO5=>?_
 refine jM (k:=?_)
 refine j_appR8 1 rfl hO5 ru36 rfl rfl (fun w hf=>hB0.keep hF4 hf) rfl (by omega) rfl fun y6 p6 c6 hO6=>?_
 refine jA (k:=K2 (CJ.t [(6,_)] (k:=cj_ret ?_)))
 exact ej_ret1 results29 rfl fun w' hH hf=>⟨a4,T4,D3++(D4++E),by omega,⟨rfl,D3,D4,rfl,hV3,hV4,hk,by omega⟩,newB_of hF4 hH (i:=1) rfl hO6 (by simp),hE4.later hf,hF4.trans hf (.inl (Nat.le_refl _))⟩
end Go.Proofs.YtifdadlhmlhfiaaGreatDoor
namespace Go.Fw
open Go
section
variable {P:Program} {Q:Exit→Act→World→Prop} {n:Nat} {f:Fm} {e:Env} {H:Heap} {ops:Array Oper} {rest:List Oper} {d ty:Nat} {pos:String} {af:Array Edge}
theorem j_gu {op:Op} {j t:Nat} {b:Bool} (hj:(ops[j]?).bind (·.dst)=some t) (ht:look e t=some undef) (hd:Nat.blt d n=true) (k:J P ops Q n f ((d,undef)::e) H rest):
  J P ops Q n f e H (⟨some d,op,ty,pos,af,some (j,b)⟩::rest):=fun w hH hf a ha=>by
 have hy:yielded ops a.tmps j=none:=by
  unfold yielded
  rw[hj]
  simp[ha.has t _ ht,undef]
 unfold wpList
 rw[if_neg (by simp[Region.wanted,hy])]
 exact k w hH hf _ (ha.put hd)
end
end Go.Fw
namespace Go.Proofs.YtifdadlhmlhfiaaGreatDoor
open Go Go.Fw Go.Proofs Go.Proofs.Tryz
theorem idxS_c (w:World) (tv:Value) (T:List ByteArray) (s:ByteArray) (hT:OS tStr 1 w tv (T.map .string)) (hl:T.length≤1000000000):
  Calls Tryz.prog 76 #[tv,.string s] w (Ret fun v w'=>(∃z:Int,v=.int .i64 z∧(z<0∨∃k:Nat,z=k∧T[k]? =some s))∧Fr 0 [] w w'):=by
 obtain ⟨p,l,c,rfl,hlen, -,hx⟩:=hT.openF
 obtain rfl:l=T.length:=by simpa using hlen.symm
 refine startJ (args:=[_,_]) [(0,_),(1,_)] 0 [] [] Tryz.func76 rfl Tryz.ntmps76 rfl rfl .nil ?_
 refine sQ fun K1=>cj_reg (jA (k:=K1 (sQ fun K2=>sQ fun K3=>cj_reg (jM (k:=jE ru27 (k:=jM (k:=K3 (cj_block ?_))))))))
 refine cj_loop (σ:=Nat) (fun i=>[(0,.slice p T.length c),(1,.string s),(7,.int .i64 (T.length:Nat)),(8,.int .i64 (i:Nat))]) (fun _=>[]) (fun i _=>i≤T.length) (fun i=>T.length - i) 0 sR (fun w hH hf=>⟨.nil,Nat.zero_le _⟩) ?_
 rintro i w1 hi hf1 hH1 KL hKL
 try dsimp only at hi
 refine C.begin _ [] hf1 .nil ?_
 try dsimp only
 refine sQ fun K4=>cj_reg (jS (k:=K4 (sQ fun K5=>?_)))
 refine cj_dec rfl (fun h9=>?_) (fun h9=>?_)
 ·have hi':i<T.length:=by omega
  obtain ⟨b,rfl,hcs⟩:=hx (by omega)
  have hcell:=osCell (k:=i) (v:=.string T[i]) (Fr.refl 0 [] w) rfl hcs (by rw[List.getElem?_map,List.getElem?_eq_getElem hi'];rfl)
  refine cj_skip (K5 (sQ fun K6=>cj_block (sQ fun K7=>cj_reg (jM (k:=jA (k:=K7 (sQ fun K8=>cj_reg (jM (k:=jM (k:=jM (k:=jJ ru27 so9 (k:=?_))))))))))))
  refine jL ag9 hcell 0 (k:=?_)
  refine j_val rfl (fun _ _ h=>r_seql rfl rfl h) (K8 ?_)
  refine cj_dec rfl (fun heq=>?_) (fun heq=>?_)
  ·refine sQ fun K9=>cj_reg (jM (k:=jA (k:=K9 (CJ.t [(4,_)] (k:=cj_ret ?_)))))
   first
   |exact ej_ret1 Tryz.results76 rfl fun w' hH hf=>⟨⟨_,rfl,.inr ⟨i,rfl,by rw[List.getElem?_eq_getElem hi',heq]⟩⟩,hf⟩
   |exact ej_ret1 Tryz.results76 rfl fun w' hH hf=>⟨⟨-1,rfl,.inl (by omega)⟩,hf⟩
  ·refine cj_skip (K6 (cj_reg (jI (k:=jM (k:=j_nil (ej_then ?_))))))
   exact fun w' hH hf=>hKL (i+1) _ w' hi' hf .nil (by omega) sR
 ·refine cj_exit (K2 (sQ fun K10=>cj_reg (jA (k:=K10 (cj_ret ?_)))))
  first
  |exact ej_ret1 Tryz.results76 rfl fun w' hH hf=>⟨⟨_,rfl,.inr ⟨i,rfl,by rw[List.getElem?_eq_getElem hi',heq]⟩⟩,hf⟩
  |exact ej_ret1 Tryz.results76 rfl fun w' hH hf=>⟨⟨-1,rfl,.inl (by omega)⟩,hf⟩
def RX (B eb:Nat) (wl:List Int) (wv:Value) (a:Nat) (T:List ByteArray) (s:ByteArray) (w:World) (v:Value) (w':World):Prop:=
 ∃a' T' k,a'≤a+1∧v=.int .u64 (k:Nat)∧T'[k]? =some s∧(T'=T∨T'=T++[s])∧Ecd B eb wl wv a' T' w'∧Fr B wN w w'
theorem frT {B:Nat} {w v' w':World} (hF:Fr B wN w v') (hf:Fr w.heap.size [tU8] v' w'):Fr B wN w w':=hF.trans hf (.inl (Nat.le_refl _))
set_option maxHeartbeats 1000000 in
theorem text_c (B:Nat) (w:World) (eb:Nat) (wl:List Int) (wv:Value) (a:Nat) (T:List ByteArray) (s:ByteArray) (hE:Ecd B eb wl wv a T w) (ha:a<800000000000000) (hl:T.length≤100000000) (hwl:wl.length≤1000000000):
  Calls Tryz.prog 36 #[ptr eb,.string s] w (Ret (RX B eb wl wv a T s w)):=by
 have hBw:B≤w.heap.size:=hE.le
 obtain ⟨p,c,hb,hR⟩:=hE.st
 have hc0:=mc (f:=⟨w,w.heap.size,[tU8]⟩) hb rfl
 refine startJ (args:=[_,_]) [(0,_),(1,_)] w.heap.size [tU8] [] Tryz.func36 rfl Tryz.ntmps36 rfl rfl .nil ?_
 refine sQ fun K1=>cj_reg (jA (k:=K1 ?_))
 refine cj_seqF fun K2 hK2=>?_
 have hJ22:∀(a1:Nat) v',a1≤a+1→Ecd B eb wl wv a1 T v'→Fr B wN w v'→N K2 42 [(0,ptr eb),(1,.string s)] v':=by
  intro a1 v7 ha1 hE1 hF1
  obtain ⟨p1,c1,hb1,y1,hO1,hy1⟩:=hE1.st
  have hTs:T.length+1≤100000000000:=by omega
  refine hK2 ⟨v7,B,wN⟩ _ (⟨eb,tEnc,[wv,.int .i64 (a1:Nat),.slice p1 T.length c1],true,true,none⟩::y1::restH v7 ([eb]++rowL y1)) ?_ v7 (Hp.two hb1 hO1 hy1 hE1.ge rfl rfl (by decide)) ok_refl
  refine sQ fun K3=>cj_reg (jM (k:=jM (k:=jN (k:=jF 2 ru67 so27 (k:=jH 0 ag27 (k:=jM (k:=?_)))))))
  refine j_bslice1 ru27 so9 zv9 rfl rfl rfl rfl rfl fun b31=>?_
  refine j_appO 1 rfl hO1 ru27 el9 rfl rfl rfl rfl rfl hTs rfl fun y32 p32 c32 hO32=>?_
  refine jN (k:=jF 2 ru67 so27 (k:=jB [_,_,_] (_::_::_) 0 so27 (k:=K3 (CJ.t [(0,_)] (k:=sQ fun K4=>cj_reg (jM (k:=jN (k:=jF 2 ru67 so27 (k:=jH 0 ag27 (k:=jE ru27 (k:=?_)))))))))))
  refine j_val rfl (fun _ _ h=>r_sub rfl rfl h) ?_
  refine j_eqv (u:=.int .i64 (T.length:Nat)) (congrArg (Value.int .i64) ((wrap64_small (by omega) (by omega)).trans (by omega))) ?_
  refine j_val rfl (fun _ _ h=>r_conv ru3 ru71 rfl h) ?_
  refine j_eqv (u:=.int .u64 (T.length:Nat)) (congrArg (Value.int .u64) (conv64 (by omega))) ?_
  refine jA (k:=K4 (cj_ret ?_))
  first
  |exact ej_ret1 Tryz.results36 rfl fun w' hH hf=>⟨a1,T++[s],T.length,by omega,rfl,by simp,.inr rfl,⟨hE1.ge,hE1.ways.keep hf (.inl (Nat.le_refl _)),p32,c32,by have:=hH.get (i:=0) rfl rfl;rw[List.length_append];exact this,y32,by have h:Own tStr 1 y32 p32 (T.length+1) c32 (T.map .string++[.string s]):=hO32;simpa using h,fun ho=>⟨by have:=hH.get (i:=1) rfl ho;rw[hO32.hT]at this;exact this,by
     rcases hH.mayx (List.Mem.tail _ (List.Mem.head _)) (by simp[Ent.ex,ho]) hO32.hw with h|⟨h, -⟩
     ·exact Nat.le_trans hE1.ge (Nat.le_trans (Nat.le_of_lt hb1.lt) h)
     ·exact h⟩⟩,frE hF1 hf⟩
  |exact ej_ret1 Tryz.results36 rfl fun w' hH hf=>by
     obtain ⟨k,rfl,hk⟩:=hz.resolve_left (by have:=of_decide_eq_true hg14;omega)
     exact ⟨a1,T,k,by omega,congrArg (Value.int .u64) (conv64 (by have:=(List.getElem?_eq_some_iff.1 hk).1;omega)),hk,.inl rfl,hE2.later hf,frT hF2 hf⟩
  |exact ej_ret1 Tryz.results36 rfl fun w' hH hf=>by
     obtain ⟨k,rfl,hk⟩:=hz.resolve_left (by have:=of_decide_eq_true hg14;omega)
     exact ⟨a,T,k,by omega,congrArg (Value.int .u64) (conv64 (by have:=(List.getElem?_eq_some_iff.1 hk).1;omega)),hk,.inl rfl,hE.later hf,frT (Fr.refl B wN w) hf⟩
 clear hK2
 refine sQ fun K5=>cj_reg (jM (k:=jN (k:=jF 2 ru67 so27 (k:=jL ag27 hc0 2 (k:=jM (k:=?_))))))
 refine j_callQ (φ:=fun v=>∃z:Int,v=.int .i64 z∧(z<0∨∃k:Nat,z=k∧T[k]? =some s)) Tryz.call76 rfl rfl (fun w1 hH hf=>idxS_c w1 _ T s (hR.os.mono (fr_row hf rfl)) (by omega)) ?_
 rintro _ ⟨z,rfl,hz⟩
 refine jA (k:=K5 (CJ.t [(0,_),(1,_),(5,_)] (k:=sQ fun K6=>cj_reg (jM (k:=?_)))))
 refine j_val rfl (fun _ _ h=>r_geq rfl rfl h) (jM (k:=?_))
 refine j_split (t:=14) rfl (fun hg14=>?_) (fun hg14=>?_)
 ·refine j_gt rfl rfl (jM (k:=?_))
  refine j_gt rfl rfl (jQ (k:=?_))
  refine j_gt rfl rfl (jM (k:=?_))
  refine j_split (t:=17) rfl (fun hg17=>?_) (fun hg17=>?_)
  ·refine j_gf rfl rfl rfl rfl (j_gf rfl rfl rfl rfl (j_gf rfl rfl rfl rfl (j_gt rfl rfl (jT (k:=jT (k:=K6 (CJ.t [(0,_),(1,_),(5,_),(22,_)] (k:=?_))))))))
   refine cj_if_t rfl (sQ fun K7=>cj_reg (jM (k:=?_)))
   refine j_val rfl (fun _ _ h=>r_conv ru3 ru71 rfl h) (jA (k:=K7 (cj_ret ?_)))
   first
   |exact ej_ret1 Tryz.results36 rfl fun w' hH hf=>⟨a1,T++[s],T.length,by omega,rfl,by simp,.inr rfl,⟨hE1.ge,hE1.ways.keep hf (.inl (Nat.le_refl _)),p32,c32,by have:=hH.get (i:=0) rfl rfl;rw[List.length_append];exact this,y32,by have h:Own tStr 1 y32 p32 (T.length+1) c32 (T.map .string++[.string s]):=hO32;simpa using h,fun ho=>⟨by have:=hH.get (i:=1) rfl ho;rw[hO32.hT]at this;exact this,by
      rcases hH.mayx (List.Mem.tail _ (List.Mem.head _)) (by simp[Ent.ex,ho]) hO32.hw with h|⟨h, -⟩
      ·exact Nat.le_trans hE1.ge (Nat.le_trans (Nat.le_of_lt hb1.lt) h)
      ·exact h⟩⟩,frE hF1 hf⟩
   |exact ej_ret1 Tryz.results36 rfl fun w' hH hf=>by
      obtain ⟨k,rfl,hk⟩:=hz.resolve_left (by have:=of_decide_eq_true hg14;omega)
      exact ⟨a1,T,k,by omega,congrArg (Value.int .u64) (conv64 (by have:=(List.getElem?_eq_some_iff.1 hk).1;omega)),hk,.inl rfl,hE2.later hf,frT hF2 hf⟩
   |exact ej_ret1 Tryz.results36 rfl fun w' hH hf=>by
      obtain ⟨k,rfl,hk⟩:=hz.resolve_left (by have:=of_decide_eq_true hg14;omega)
      exact ⟨a,T,k,by omega,congrArg (Value.int .u64) (conv64 (by have:=(List.getElem?_eq_some_iff.1 hk).1;omega)),hk,.inl rfl,hE.later hf,frT (Fr.refl B wN w) hf⟩
  ·refine j_gt rfl rfl (jM (k:=?_))
   refine j_gt rfl rfl ?_
   refine j_callW (V:=wN) (m:=6) (Fr.refl _ _ _) hE trivial (by omega) (by omega) (by omega) hwl rfl rfl rfl fun a1 j1 w2 ha1 hj1 hE2 hF2=>?_
   refine j_gt rfl rfl (j_val rfl (fun _ _ h=>r_neq rfl rfl h) (j_gt rfl rfl (jK (k:=jT (k:=K6 (CJ.t [(0,_),(1,_),(5,_),(22,_)] (k:=?_)))))))
   refine cj_if rfl (fun _=>?_) (fun _=>?_)
   ·refine sQ fun K8=>cj_reg (jM (k:=?_))
    refine j_val rfl (fun _ _ h=>r_conv ru3 ru71 rfl h) (jA (k:=K8 (cj_ret ?_)))
    first
    |exact ej_ret1 Tryz.results36 rfl fun w' hH hf=>⟨a1,T++[s],T.length,by omega,rfl,by simp,.inr rfl,⟨hE1.ge,hE1.ways.keep hf (.inl (Nat.le_refl _)),p32,c32,by have:=hH.get (i:=0) rfl rfl;rw[List.length_append];exact this,y32,by have h:Own tStr 1 y32 p32 (T.length+1) c32 (T.map .string++[.string s]):=hO32;simpa using h,fun ho=>⟨by have:=hH.get (i:=1) rfl ho;rw[hO32.hT]at this;exact this,by
       rcases hH.mayx (List.Mem.tail _ (List.Mem.head _)) (by simp[Ent.ex,ho]) hO32.hw with h|⟨h, -⟩
       ·exact Nat.le_trans hE1.ge (Nat.le_trans (Nat.le_of_lt hb1.lt) h)
       ·exact h⟩⟩,frE hF1 hf⟩
    |exact ej_ret1 Tryz.results36 rfl fun w' hH hf=>by
       obtain ⟨k,rfl,hk⟩:=hz.resolve_left (by have:=of_decide_eq_true hg14;omega)
       exact ⟨a1,T,k,by omega,congrArg (Value.int .u64) (conv64 (by have:=(List.getElem?_eq_some_iff.1 hk).1;omega)),hk,.inl rfl,hE2.later hf,frT hF2 hf⟩
    |exact ej_ret1 Tryz.results36 rfl fun w' hH hf=>by
       obtain ⟨k,rfl,hk⟩:=hz.resolve_left (by have:=of_decide_eq_true hg14;omega)
       exact ⟨a,T,k,by omega,congrArg (Value.int .u64) (conv64 (by have:=(List.getElem?_eq_some_iff.1 hk).1;omega)),hk,.inl rfl,hE.later hf,frT (Fr.refl B wN w) hf⟩
   ·refine cj_skip (ej_then ?_)
    first
     |exact fun v' hH hf=>N.sub' (hJ22 a1 v' (by omega) (hE2.later hf) (frT hF2 hf)) ⟨rfl,rfl,trivial⟩
     |exact fun v' hH hf=>N.sub' (hJ22 a v' (by omega) (hE.later hf) (frT (Fr.refl B wN w) hf)) ⟨rfl,rfl,trivial⟩
 ·refine j_gf rfl rfl rfl rfl (j_gf rfl rfl rfl rfl (j_gf rfl rfl rfl rfl ?_))
  refine j_gu rfl rfl rfl ?_
  refine j_gu rfl rfl rfl ?_
  refine j_gu rfl rfl rfl ?_
  refine j_gf rfl rfl rfl rfl (jK (k:=K6 ?_))
  refine cj_if_f rfl (cj_skip (ej_then ?_))
  first
   |exact fun v' hH hf=>N.sub' (hJ22 a1 v' (by omega) (hE2.later hf) (frT hF2 hf)) ⟨rfl,rfl,trivial⟩
   |exact fun v' hH hf=>N.sub' (hJ22 a v' (by omega) (hE.later hf) (frT (Fr.refl B wN w) hf)) ⟨rfl,rfl,trivial⟩
end Go.Proofs.YtifdadlhmlhfiaaGreatDoor
namespace Go.Fw
open Go
section
variable {P:Program} {n:Nat} {e:Env} {d ty:Nat} {pos:String} {af:Array Edge}
def cutP (p:Option Addr) (c i sz:Nat):Option Addr:=if c=i then p else p.map (·.add (i*sz))
theorem r_slcutP {t:Nat} {x y:Operand} {p:Option Addr} {l c elem sz:Nat} {kd:IntKind} {i:Nat} (hu:∀w,(underlying t).run P w=.ok (.slice elem) w) (hsz:∀w,(sizeOf elem).run P w=.ok sz w)
  (hx:ev e x=some (.slice p l c)) (hy:ev e y=some (.int kd i)) (hi:i≤l) {a:Act} {w:World} (ha:Sat n e a):
  (execOp a.eval ⟨some d,.slice t x (some y) none none,ty,pos,af,none⟩).run P w=.ok (.value (.slice (cutP p c i sz) (l - i) (c - i))) w:=by
 simp only[execOp,ha.ev hx,Option.map_none,Option.map_some,ha.ev hy]
 simp[Instr.sliceAt,Instr.slice,Instr.sliceBounds,Instr.sliceBound,asIntOf,hu,hsz,hi,cutP]
end
end Go.Fw
namespace Go.Proofs.YtifdadlhmlhfiaaGreatDoor
open Go Go.Fw Go.Proofs Go.Proofs.Tryz
variable {bs:List Nat} {k:Nat}
theorem Vs.snoc:∀{ns B:List Nat} {n:Nat} {b:List Nat},Vs ns B→VEnc n b→n<18446744073709551616→Vs (ns++[n]) (B++b)
 |[],B,n,b,h,h1,h2=>by
    have:B=[]:=h
    subst this
    exact ⟨b,[],by simp,h1,h2,rfl⟩
 |_::r,_,n,b,⟨b0,B',rfl,h3,h4,h5⟩,h1,h2=>⟨b0,B'++b,by simp,h3,h4,h5.snoc h1 h2⟩
theorem Vs.len10:∀{ns B:List Nat},Vs ns B→B.length≤10*ns.length
 |[],B,h=>by have:B=[]:=h;subst this;simp
 |_::r,_,⟨b0,B',rfl,h3,_,h5⟩=>by have:=h3.le;have:=h5.len10;simp;omega
theorem GMny.snoc {fs:List Fld} {nss:List (List Nat)} {f:Fld} {ns:List Nat} (h:GMny k fs nss) (hk:fkey f=k) (hf:GV f ns):GMny k (fs++[f]) (nss++[ns]):=by
 refine ⟨by simp[h.len],fun i f' ns' h1 h2=>?_⟩
 by_cases hi:i<fs.length
 ·rw[List.getElem?_append_left hi]at h1
  rw[List.getElem?_append_left (by rw[h.len];exact hi)]at h2
  exact h.at_ i f' ns' h1 h2
 ·rw[List.getElem?_append_right (by omega)]at h1
  rw[List.getElem?_append_right (by rw[h.len];omega),h.len]at h2
  have h3:=(List.getElem?_eq_some_iff.1 h1).1
  have e:i - fs.length=0:=by simp at h3;omega
  rw[e]at h1 h2
  cases h1;cases h2
  rw[if_pos hk];exact hf
structure LsM (k:Nat) (ns:List Nat) (m:Msg):Prop where
 enc:MEnc2 m
 key:∀g∈m,∃f,g.1=.fld f∧fkey f=k
 gm:∃nss,GMny k (flds m) nss∧nss.flatten=ns
theorem flds_app (a b:Msg):flds (a++b)=flds a++flds b:=by unfold flds;rw[List.filterMap_append]
theorem mB_app (a b:Msg):mB (a++b)=mB a++mB b:=by unfold mB;rw[List.flatMap_append]
theorem LsM.nil:LsM k [] []:=⟨fun _ h=>(by cases h),fun _ h=>(by cases h),[],⟨rfl,fun i f ns h=>by simp[flds]at h⟩,rfl⟩
theorem LsM.snoc {ns ns':List Nat} {m:Msg} {f:Fld} (h:LsM k ns m) (hk:fkey f=k) (hf:GV f ns') (hb:GEnc (.fld f) bs):LsM k (ns++ns') (m++[(.fld f,bs)]):=by
 obtain ⟨nss,h1,h2⟩:=h.gm
 refine ⟨fun g hg=>?_,fun g hg=>?_,nss++[ns'],?_,by rw[List.flatten_append,h2];simp⟩
 ·rcases List.mem_append.1 hg with hg|hg
  ·exact h.enc g hg
  ·simp at hg;subst hg;exact hb
 ·rcases List.mem_append.1 hg with hg|hg
  ·exact h.key g hg
  ·simp at hg;subst hg;exact ⟨f,rfl,hk⟩
 ·rw[flds_app];exact h1.snoc hk hf
theorem LsM.one {ns:List Nat} {f:Fld} (hk:fkey f=k) (hf:GV f ns) (hb:GEnc (.fld f) bs):LsM k ns [(.fld f,bs)]:=by
 have:=LsM.nil.snoc hk hf hb
 simpa using this
theorem uv_cell {p:Option Addr} {l c:Nat} {w:World} {ns:List Nat} (h:OS tU64 1 w (.slice p l c) (ns.map fun n:Nat=>Value.int .u64 (n:Nat))) (hl:0<l):∃b,p=some ⟨b,0,none⟩∧∀w',(∀cs,∀b',Blk w b' tU64 cs→Blk w' b' tU64 cs)→∀(i:Nat) n,ns[i]? =some n→w'.cell? ⟨b,i,none⟩=some (.int .u64 (n:Nat)):=by
 obtain ⟨y,p',l',c',e,hO,hy⟩:=h
 cases e
 have hll:ns.length=l:=by have:=hO.sl.1;simpa using this
 obtain ⟨-, -,h4⟩:=id hO.sl
 rcases h4 with ⟨h5,h6,⟨ex,h7⟩, -⟩|⟨h5,h6,h7⟩
 ·refine ⟨y.b,h6,fun w' hk i n hn=>?_⟩
  have hb:=hk _ _ (hy h5)
  have hi:=(List.getElem?_eq_some_iff.1 hn).1
  rw[hb.cell,h7,List.getElem?_append_left (by simpa using hi),List.getElem?_map,hn];rfl
 ·have:=hO.sl.2.1;omega
set_option maxHeartbeats 2000000 in
theorem list_c (B:Nat) (w:World) (eb:Nat) (wl:List Int) (wv:Value) (a k:Nat) (T:List ByteArray) (lv:Value) (ns:List Nat) (hE:Ecd B eb wl wv a T w) (ha:a<700000000000000) (hk:k<1048576) (hns:OS tU64 1 w lv (ns.map fun n:Nat=>Value.int .u64 (n:Nat))) (hnl:ns.length≤1000000) (hn64:∀n∈ns,n<18446744073709551616) (hwl:wl.length≤1000000000):
  Calls Tryz.prog 37 #[ptr eb,.int .i64 (k:Nat),lv] w (Ret (RT B eb wl wv a (8+4*ns.length) (fun T' D=>T'=T∧D.length≤40+20*ns.length∧∃m,D=mB m∧LsM k ns m) w)):=by
 have hBw:B≤w.heap.size:=hE.le
 obtain ⟨p,l,c,rfl,hll,hlc, -⟩:=hns.openF
 obtain rfl:l=ns.length:=by simpa using hll.symm
 refine startJ (args:=[_,_,_]) [(0,_),(1,_),(2,_)] w.heap.size [tU8] [] Tryz.func37 rfl Tryz.ntmps37 rfl rfl .nil ?_
 refine sQ fun K1=>cj_reg (jA (k:=K1 (sQ fun K2=>cj_reg (jA (k:=jA (k:=K2 (sQ fun K3=>cj_reg (jA (k:=K3 ?_)))))))))
 refine cj_seqF fun K4 hK4=>?_
 have hJ0:∀(q a3:Nat) v',q≤ns.length→a3≤a+2→Ecd B eb wl wv a3 T v'→Fr B wN w v'→N K4 68 [(0,ptr eb),(1,.int .i64 (k:Nat)),(2,.slice p ns.length c),(7,.slice none 0 0),(8,.slice none 0 0),(9,.int .i64 (q:Nat))] v':=by
  intro q a3 v7 hq ha3 hE3 hF3
  have hqc:q≤c:=Nat.le_trans hq hlc
  refine hK4 ⟨v7,w.heap.size,[tU8]⟩ _ [] ?_ v7 .nil ok_refl
  refine sQ fun K5=>sQ fun K6=>cj_reg (jM (k:=jM (k:=?_)))
  refine j_val rfl (fun _ _ h=>r_slhi ru84 so71 rfl rfl (by omega) h) (jE ru84 (k:=jM (k:=K6 (cj_block ?_))))
  intro v1 hH1 hf1
  refine c_loop (σ:=Nat×List Nat×Ent×Option Addr×Nat×Nat) (fun s=>[(0,ptr eb),(1,.int .i64 (k:Nat)),(2,.slice p ns.length c),(7,.slice none 0 0),(8,.slice s.2.2.2.1 s.2.1.length s.2.2.2.2.1),(9,.int .i64 (q:Nat)),(29,.slice p q c),(30,.int .i64 (q:Nat)),(31,.int .i64 (s.1:Nat))])
   (fun s u=>s.1≤q∧Own tU8 1 s.2.2.1 s.2.2.2.1 s.2.1.length s.2.2.2.2.1 (s.2.1.map bv)∧Vs (ns.take s.1) s.2.1∧s.2.2.2.2.2≤a+2+2*s.1∧Ecd B eb wl wv s.2.2.2.2.2 T u∧Fr B wN w u∧Hp ⟨u,w.heap.size,[tU8]⟩ u [s.2.2.1]) (fun s=>q - s.1)
   (0,[],nilE tU8,none,0,a3) sR ⟨Nat.zero_le _,Own.nil,rfl,by simp only;omega,hE3.later hf1,frT hF3 hf1,Hp.off .nil⟩ ?_
  rintro ⟨i,D,y,p8,c8,a4⟩ u1 ⟨hi,hO,hVs,ha4,hEu,hFu,hHu⟩ KL hKL
  try dsimp only at hi hO hVs ha4 hEu hHu
  have hD10:D.length≤10*i:=by have:=hVs.len10;simp at this;omega
  have h8:R8 [y]:=⟨⟨hO.hT,hO.ho⟩,trivial⟩
  refine C.begin ⟨u1,w.heap.size,[tU8]⟩ [y] ok_refl hHu ?_
  try dsimp only
  refine sQ fun K7=>cj_reg (jS (k:=K7 (sQ fun K8=>?_)))
  refine cj_dec rfl (fun h32=>?_) (fun h32=>?_)
  ·have hi':i<ns.length:=by omega
   obtain ⟨b,rfl,hcell⟩:=uv_cell hns (by omega)
   have hce:∀w',Fm.ok ⟨u1,w.heap.size,[tU8]⟩ w'→∀(j:Nat) (x:Value),[Value.int .u64 (ns[i]:Nat)][j]? =some x→w'.cell? ⟨b,0+i*1+j,none⟩=some x:=fun w' hf j x hj=>by
    cases j with
    |zero=>
     simp at hj;subst hj
     have:=hcell w' (fun cs b' h=>fr_row hf rfl _ _ (fr_row hFu rfl _ _ h)) i ns[i] (List.getElem?_eq_getElem hi')
     simpa using this
    |succ j=>simp at hj
   refine cj_skip (K8 (sQ fun K9=>cj_block (sQ fun K10=>cj_reg (jJ ru84 so71 (k:=jL ag71 hce 0 (k:=jA (k:=K10 (cj_reg (jM (k:=jM (k:=jM (k:=?_))))))))))))
   refine j_callR (V:=wN) hFu hEu h8 Tryz.call70 rfl rfl (fun w1 _ _ hE1=>number_c B w1 eb wl wv _ ns[i] T hE1 (by omega) (hn64 _ (List.getElem_mem hi')) hwl) fun a5 T5 D5 p5 c5 y5 w5 ha5 hφ5 hE5 hF5 hO5=>?_
   obtain ⟨rfl,hV5⟩:=hφ5
   refine j_app8 1 0 rfl rfl hO hO5.sl ru36 rfl rfl scal_bytes (by have:=hV5.le;omega) rfl fun y6 p6 c6 hO6=>?_
   refine jA (k:=K9 (cj_reg (jI (k:=jM (k:=j_nil (ej_then ?_))))))
   exact fun w' hH hf=>hKL (i+1,D++D5,y6,p6,c6,a5) _ w' ⟨by simp only;omega,by simpa using hO6,by rw[← List.take_append_getElem hi'];exact hVs.snoc hV5 (hn64 _ (List.getElem_mem hi')),by simp only;omega,hE5.later hf,frT hF5 hf,hp_enc (hH.drop 0) ⟨⟨hO6.hT,hO6.ho⟩,trivial⟩ (Fr.refl B wN w') hF5.size⟩ (by simp only;omega) (by rw[List.length_append];exact sR)
  ·have hiq:i=q:=by omega
   subst hiq
   clear hKL
   refine cj_exit (K5 (CJ.t [(0,_),(1,_),(2,_),(7,_),(8,_),(9,_)] (k:=?_)))
   refine cj_seqF fun K11 hK11=>?_
   have hJ42:∀(D7:List Nat) (m7:Msg) (y7:Ent) (p7:Option Addr) (c7 a7:Nat) v',D7=mB m7→LsM k (ns.take i) m7→D7.length≤20+10*i→Own tU8 1 y7 p7 D7.length c7 (D7.map bv)→a7≤a+6+2*i→Ecd B eb wl wv a7 T v'→Fr B wN w v'→Hp ⟨v',w.heap.size,[tU8]⟩ v' [y7]→N K11 68 [(0,ptr eb),(1,.int .i64 (k:Nat)),(2,.slice p ns.length c),(7,.slice p7 D7.length c7),(9,.int .i64 (i:Nat))] v':=by
    intro D7 m7 y7 p7 c7 a7 v7 hD7 hm7 hl7 hO7 ha7 hE7 hF7 hH7
    refine hK11 ⟨v7,w.heap.size,[tU8]⟩ _ [y7] ?_ v7 hH7 ok_refl
    refine sQ fun K12=>sQ fun K13=>cj_reg (jM (k:=jM (k:=?_)))
    refine j_val rfl (fun _ _ h=>r_slcutP ru84 so71 rfl rfl hq h) (jE ru84 (k:=jM (k:=K13 (cj_block ?_))))
    intro v8 hH8 hf8
    generalize hcp:cutP p c i 1=pc
    refine c_loop (σ:=Nat×List Nat×Msg×Ent×Option Addr×Nat×Nat) (fun s=>[(0,ptr eb),(1,.int .i64 (k:Nat)),(7,.slice s.2.2.2.2.1 s.2.1.length s.2.2.2.2.2.1),(49,.slice pc (ns.length - i) (c - i)),(50,.int .i64 ((ns.length - i:Nat):Int)),(51,.int .i64 (s.1:Nat))])
     (fun s u=>s.1≤ns.length - i∧Own tU8 1 s.2.2.2.1 s.2.2.2.2.1 s.2.1.length s.2.2.2.2.2.1 (s.2.1.map bv)∧s.2.1=mB s.2.2.1∧LsM k (ns.take (i+s.1)) s.2.2.1∧s.2.1.length≤20+10*i+20*s.1∧s.2.2.2.2.2.2≤a+6+2*i+4*s.1∧Ecd B eb wl wv s.2.2.2.2.2.2 T u∧Fr B wN w u∧Hp ⟨u,w.heap.size,[tU8]⟩ u [s.2.2.2.1]) (fun s=>ns.length - i - s.1)
     (0,D7,m7,y7,p7,c7,a7) sR ⟨Nat.zero_le _,hO7,hD7,hm7,by simp only;omega,by simp only;omega,hE7.later hf8,frT hF7 hf8,hp_enc hH8 ⟨⟨hO7.hT,hO7.ho⟩,trivial⟩ (Fr.refl B wN v8) hF7.size⟩ ?_
    rintro ⟨j,E,m,z,pz,cz,a9⟩ u9 ⟨hj,hOz,hEm,hLs,hEl,ha9,hE9,hF9,hH9⟩ KL9 hKL9
    try dsimp only at hj hOz hEm hLs hEl ha9 hE9 hH9
    have h9:R8 [z]:=⟨⟨hOz.hT,hOz.ho⟩,trivial⟩
    refine C.begin ⟨u9,w.heap.size,[tU8]⟩ [z] ok_refl hH9 ?_
    try dsimp only
    refine sQ fun K14=>cj_reg (jS (k:=K14 (sQ fun K15=>?_)))
    refine cj_dec rfl (fun h52=>?_) (fun h52=>?_)
    ·have hj':i+j<ns.length:=by omega
     obtain ⟨b,rfl,hcell⟩:=uv_cell hns (by omega)
     have hpc:pc=some ⟨b,i,none⟩:=by rw[← hcp];unfold cutP;rw[if_neg (by omega)];simp[Addr.add];exact fun h=>h.symm
     subst hpc
     have hce:∀w',Fm.ok ⟨u9,w.heap.size,[tU8]⟩ w'→∀(j2:Nat) (x:Value),[Value.int .u64 (ns[i+j]:Nat)][j2]? =some x→w'.cell? ⟨b,i+j*1+j2,none⟩=some x:=fun w' hf j2 x hj2=>by
      cases j2 with
      |zero=>
       simp at hj2;subst hj2
       have:=hcell w' (fun cs b' h=>fr_row hf rfl _ _ (fr_row hF9 rfl _ _ h)) (i+j) ns[i+j] (List.getElem?_eq_getElem hj')
       simpa using this
      |succ j=>simp at hj2
     have hn9:=hn64 _ (List.getElem_mem hj')
     refine cj_skip (K15 (sQ fun K16=>cj_block (sQ fun K17=>cj_reg (jJ ru84 so71 (k:=jL ag71 hce 0 (k:=jA (k:=K17 (cj_reg (jM (k:=jM (k:=jM (k:=?_))))))))))))
     refine j_val rfl (fun _ _ h=>r_conv ru3 ru71 rfl h) ?_
     refine j_eqv (u:=.int .u64 (k:Nat)) (congrArg (Value.int .u64) (conv64 (by omega))) ?_
     refine j_val rfl (fun _ _ h=>r_shl (q:=3) rfl rfl h) ?_
     refine j_eqv (u:=.int .u64 ((8*k:Nat):Int)) (congrArg (Value.int .u64) (shl3 hk)) ?_
     refine j_callR (V:=wN) hF9 hE9 h9 Tryz.call70 rfl rfl (fun w1 _ _ hE1=>number_c B w1 eb wl wv _ (8*k) T hE1 (by omega) (by omega) hwl) fun a5 T5 D5 p5 c5 y5 w5 ha5 hφ5 hE5 hF5 hO5=>?_
     obtain ⟨rfl,hV5⟩:=hφ5
     refine j_app8 1 0 rfl rfl hOz hO5.sl ru36 rfl rfl scal_bytes (by have:=hV5.le;omega) rfl fun y6 p6 c6 hO6=>?_
     refine jM (k:=jM (k:=?_))
     refine j_callR (V:=wN) hF5 hE5 ⟨⟨hO5.hT,hO5.ho⟩,⟨hO6.hT,hO6.ho⟩,trivial⟩ Tryz.call70 rfl rfl (fun w1 _ _ hE1=>number_c B w1 eb wl wv _ ns[i+j] T5 hE1 (by omega) hn9 hwl) fun aA TA DA pA cA yA wA haA hφA hEA hFA hOA=>?_
     obtain ⟨rfl,hVA⟩:=hφA
     have h5:=hV5.le
     have h7:=hVA.le
     refine j_app8 2 0 rfl rfl hO6 hOA.sl ru36 rfl rfl scal_bytes (by omega) rfl fun y8 p8 c8 hO8=>?_
     refine jA (k:=K16 (CJ.t [(0,_),(1,_),(7,_),(49,_),(50,_),(51,_)] (k:=cj_reg (jI (k:=jM (k:=j_nil (ej_then ?_)))))))
     exact fun w' hH hf=>hKL9 (j+1,E++(D5++DA),m++[(.fld (.num k ns[i+j]),D5++DA)],y8,p8,c8,aA) _ w' ⟨by simp only;omega,by rw[List.length_append,List.length_append, ← Nat.add_assoc];simpa using hO8,by rw[mB_app, ← hEm];simp[mB],by rw[show i+(j+1)=i+j+1 by omega, ← List.take_append_getElem hj'];exact hLs.snoc rfl ⟨rfl,hn9⟩ ⟨D5,DA,rfl,hV5,hVA,hk,hn9⟩,by simp;omega,by simp only;omega,hEA.later hf,frT hFA hf,hp_enc ((hH.drop 0).drop 0) ⟨⟨hO8.hT,hO8.ho⟩,trivial⟩ (Fr.refl B wN w') hFA.size⟩ (by simp only;omega) (by rw[List.length_append,List.length_append, ← Nat.add_assoc];exact sR)
    ·have hjn:i+j=ns.length:=by omega
     clear hKL9
     refine cj_exit (K12 (sQ fun K18=>cj_reg (jM (k:=jA (k:=K18 (cj_ret ?_))))))
     exact ej_ret1 Tryz.results37 rfl fun w' hH hf=>⟨a9,T,E,by omega,⟨rfl,by omega,m,hEm,by rw[hjn,List.take_of_length_le (Nat.le_refl _)]at hLs;exact hLs⟩,newB_of hF9 hH (i:=0) rfl hOz rfl,hE9.later hf,frT hF9 hf⟩
   clear hK11
   refine sQ fun K19=>cj_reg (jM (k:=jG (k:=K19 ?_)))
   refine cj_dec rfl (fun h42=>?_) (fun h42=>?_)
   ·refine cj_reg (jM (k:=jM (k:=jM (k:=?_))))
    refine j_callR (V:=wN) hFu hEu h8 Tryz.call29 rfl rfl (fun w1 hH _ hE1=>bytes_e B w1 eb wl wv _ k T _ D hE1 (by omega) hk (Rd8.of_os (hO.os hH (i:=0) rfl)) (by omega) hwl) fun a5 T5 D5 p5 c5 y5 w5 ha5 hφ5 hE5 hF5 hO5=>?_
    obtain ⟨rfl,hG5⟩:=hφ5
    refine jA (k:=j_nil (ej_then ?_))
    first
     |exact fun v' hH hf=>N.sub' (hJ42 D5 [(.fld (.bys k D),D5)] y5 p5 c5 a5 v' (by simp[mB]) (LsM.one rfl hVs hG5) (by obtain ⟨t,l,rfl,h1,h2, -⟩:=hG5;have:=h1.le;have:=h2.le;simp;omega) hO5 (by omega) (hE5.later hf) (frT hF5 hf) (hp_enc (hH.drop 1) ⟨⟨hO5.hT,hO5.ho⟩,trivial⟩ (Fr.refl B wN v') hF5.size)) ⟨rfl,rfl,rfl,rfl,rfl,trivial⟩
     |exact fun v' hH hf=>N.sub' (hJ42 [] [] (nilE tU8) none 0 a4 v' rfl (by rw[show i=0 by omega];exact LsM.nil) (by simp) Own.nil (by omega) (hEu.later hf) (frT hFu hf) (Hp.off .nil)) ⟨rfl,rfl,rfl,rfl,rfl,trivial⟩
   ·refine cj_skip (ej_then ?_)
    first
     |exact fun v' hH hf=>N.sub' (hJ42 D5 [(.fld (.bys k D),D5)] y5 p5 c5 a5 v' (by simp[mB]) (LsM.one rfl hVs hG5) (by obtain ⟨t,l,rfl,h1,h2, -⟩:=hG5;have:=h1.le;have:=h2.le;simp;omega) hO5 (by omega) (hE5.later hf) (frT hF5 hf) (hp_enc (hH.drop 1) ⟨⟨hO5.hT,hO5.ho⟩,trivial⟩ (Fr.refl B wN v') hF5.size)) ⟨rfl,rfl,rfl,rfl,rfl,trivial⟩
     |exact fun v' hH hf=>N.sub' (hJ42 [] [] (nilE tU8) none 0 a4 v' rfl (by rw[show i=0 by omega];exact LsM.nil) (by simp) Own.nil (by omega) (hEu.later hf) (frT hFu hf) (Hp.off .nil)) ⟨rfl,rfl,rfl,rfl,rfl,trivial⟩
 clear hK4
 refine sQ fun K20=>cj_reg (jM (k:=?_))
 refine j_callW (V:=wN) (m:=3) (Fr.refl _ _ _) hE trivial (by omega) (by omega) (by omega) hwl rfl rfl rfl fun a1 j1 w2 ha1 hj1 hE2 hF2=>?_
 refine K20 (CJ.t [(0,_),(1,_),(2,_),(7,_),(8,_),(9,_),(15,_)] (k:=cj_block (sQ fun K21=>cj_reg (jQ (k:=jA (k:=K21 ?_))))))
 refine cj_if rfl (fun h16=>?_) (fun h16=>?_)
 ·refine cj_reg (jM (k:=jE ru84 (k:=jA (k:=j_nil (ej_blk (ej_then ?_))))))
  first
   |exact fun v' hH hf=>N.sub' (hJ0 ns.length a1 v' (Nat.le_refl _) (by omega) (hE2.later hf) (frT hF2 hf)) ⟨rfl,rfl,rfl,rfl,rfl,rfl,trivial⟩
   |exact fun v' hH hf=>N.sub' (hJ0 j2 a2 v' (by omega) (by omega) (hE3.later hf) (frT hF3 hf)) ⟨rfl,rfl,rfl,rfl,rfl,rfl,trivial⟩
   |exact fun v' hH hf=>N.sub' (hJ0 0 a1 v' (by omega) (by omega) (hE2.later hf) (frT hF2 hf)) ⟨rfl,rfl,rfl,rfl,rfl,rfl,trivial⟩
 ·refine sQ fun K22=>cj_reg (jQ (k:=jA (k:=K22 ?_)))
  refine cj_if rfl (fun h20=>?_) (fun h20=>?_)
  ·refine cj_reg (jM (k:=jM (k:=jE ru84 (k:=?_))))
   refine j_val rfl (fun _ _ h=>r_add rfl rfl h) ?_
   refine j_eqv (u:=.int .i64 ((ns.length+1:Nat):Int)) (congrArg (Value.int .i64) (wrap64_small (z:=((ns.length:Nat):Int)+1) (by omega) (by omega))) ?_
   refine j_callW (V:=wN) (m:=ns.length+1) hF2 hE2 trivial (by omega) (by omega) (by omega) hwl rfl rfl rfl fun a2 j2 w3 ha2 hj2 hE3 hF3=>?_
   refine jA (k:=j_nil (ej_blk (ej_then ?_)))
   first
    |exact fun v' hH hf=>N.sub' (hJ0 ns.length a1 v' (Nat.le_refl _) (by omega) (hE2.later hf) (frT hF2 hf)) ⟨rfl,rfl,rfl,rfl,rfl,rfl,trivial⟩
    |exact fun v' hH hf=>N.sub' (hJ0 j2 a2 v' (by omega) (by omega) (hE3.later hf) (frT hF3 hf)) ⟨rfl,rfl,rfl,rfl,rfl,rfl,trivial⟩
    |exact fun v' hH hf=>N.sub' (hJ0 0 a1 v' (by omega) (by omega) (hE2.later hf) (frT hF2 hf)) ⟨rfl,rfl,rfl,rfl,rfl,rfl,trivial⟩
  ·refine cj_skip (ej_blk (ej_then ?_))
   first
    |exact fun v' hH hf=>N.sub' (hJ0 ns.length a1 v' (Nat.le_refl _) (by omega) (hE2.later hf) (frT hF2 hf)) ⟨rfl,rfl,rfl,rfl,rfl,rfl,trivial⟩
    |exact fun v' hH hf=>N.sub' (hJ0 j2 a2 v' (by omega) (by omega) (hE3.later hf) (frT hF3 hf)) ⟨rfl,rfl,rfl,rfl,rfl,rfl,trivial⟩
    |exact fun v' hH hf=>N.sub' (hJ0 0 a1 v' (by omega) (by omega) (hE2.later hf) (frT hF2 hf)) ⟨rfl,rfl,rfl,rfl,rfl,rfl,trivial⟩
end Go.Proofs.YtifdadlhmlhfiaaGreatDoor
