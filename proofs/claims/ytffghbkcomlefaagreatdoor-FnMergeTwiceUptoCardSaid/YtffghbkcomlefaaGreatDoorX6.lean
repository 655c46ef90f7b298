/-
  Part 6 of the proof. Conditions: as each lemma states them.
-/
import Derived.Test.YtffghbkcomlefaaGreatDoorX5
import Derived.WideKeyArgs
import Derived.JoinedOf
import Derived.ChangeArms
import Derived.RowKit3
import Derived.Test.YtffghbkcomlefaaGreatDoorRows
import Derived.Lib.LaidPrint
import Derived.Lib.LaidU8T
namespace Go.Fw
open Go
variable {a:Act} {t t':Nat} {x:Operand} {w:World}
section
variable {P:Program} {n:Nat} {e:Env} {d ty:Nat} {pos:String} {af:Array Edge}
theorem r_neqD {y:Operand} {xs ys:Array Value} {b:Bool} (he:∀w,(Op.equalIn 10000 t (.agg xs) (.agg ys)).run P w=.ok b w) (hm:P.eqGuardType P.depth t=false) (hx:ev e x=some (.agg xs)) (hy:ev e y=some (.agg ys)) (ha:Sat n e a):
  (execOp a.eval ⟨some d,.binOp .neq t x y t',ty,pos,af,none⟩).run P w=.ok (.value (.bool (!b))) w:=by
 have h:(binOp .neq t (.agg xs) (.agg ys)).run P w=.ok (.bool (!b)) w:=by
  simp only[binOp]
  simp[Op.equal,Op.maxDepth,he w]
 simp only[execOp,ha.ev hx,ha.ev hy]
 simp[run_eqGuard_agg (hm:=hm),h]
theorem r_eqlD {y:Operand} {xs ys:Array Value} {b:Bool} (he:∀w,(Op.equalIn 10000 t (.agg xs) (.agg ys)).run P w=.ok b w) (hm:P.eqGuardType P.depth t=false) (hx:ev e x=some (.agg xs)) (hy:ev e y=some (.agg ys)) (ha:Sat n e a):
  (execOp a.eval ⟨some d,.binOp .eql t x y t',ty,pos,af,none⟩).run P w=.ok (.value (.bool b)) w:=by
 have h:(binOp .eql t (.agg xs) (.agg ys)).run P w=.ok (.bool b) w:=by
  simp only[binOp]
  simp[Op.equal,Op.maxDepth,he w]
 simp only[execOp,ha.ev hx,ha.ev hy]
 simp[run_eqGuard_agg (hm:=hm),h]
end
end Go.Fw
namespace Go.Proofs.YtffghbkcomlefaaGreatDoor
open Go Go.Fw Go.Proofs Go.Proofs.Tryz
variable {n:Nat} {z:PProf}
theorem egTy:Tryz.prog.eqGuardType Tryz.prog.depth tTy=false:=by kernel_rfl
theorem shTy:Tryz.prog.stoodInHeld tTy=false:=by kernel_rfl
theorem eqTyD (t u:PType) (w:World):(Op.equalIn 10000 tTy (.agg #[.string t.ty,.string t.unit]) (.agg #[.string u.ty,.string u.unit])).run Tryz.prog w=.ok (decide (t=u)) w:=by
 have h1:Tryz.prog.underlying tTy=some (.struct (Tryz.prog.fieldsOf tTy)):=by simp[Program.fieldsOf,ud31]
 have h2:=run_equalIn_agg (P:=Tryz.prog) w 9999 tTy #[.string t.ty,.string t.unit] #[.string u.ty,.string u.unit] h1 shTy
 simp only[Nat.reduceAdd]at h2
 rw[h2]
 have hs:=fun (a b:ByteArray) (w:World)=>run_equalIn_string (P:=Tryz.prog) w 9998 9 a b ud9
 simp only[Nat.reduceAdd]at hs
 obtain ⟨t1,t2⟩:=t
 obtain ⟨u1,u2⟩:=u
 have e:decide (PType.mk t1 t2=PType.mk u1 u2)=(decide (t1=u1)&&decide (t2=u2)):=by simp
 rw[e]
 by_cases e1:t1=u1<;>by_cases e2:t2=u2<;>simp[Program.fieldsOf,ud31,Op.eqFields,part,ag9,hs,ba_eq,e1,e2]
theorem slTyD_c (w:World) (v u:Value) (xs ys:List PType) (hv:Lay RType 2 w v xs) (hu:Lay RType 2 w u ys):Calls Tryz.prog 28 #[v,u] w (Ret fun r w'=>(∃b,r=.bool b∧(b=true→xs=ys))∧Fr 0 [] w w'):=by
 obtain ⟨p,c,rfl,hl,hx⟩:=hv.open
 obtain ⟨q,c2,rfl, -,hy⟩:=hu.open
 refine startJ (args:=[_,_]) [(0,_),(1,_)] 0 [] [] Tryz.func28 rfl Tryz.ntmps28 rfl rfl .nil ?_
 refine sQ fun K1=>cj_reg (jA (k:=K1 (sQ fun K2=>sQ fun K3=>cj_reg (jM (k:=jE ru24 (k:=jM (k:=jE ru24 (k:=?_))))))))
 refine j_val rfl (fun _ _ h=>r_neq rfl rfl h) (K3 ?_)
 refine cj_if rfl (fun h10=>?_) (fun h10=>?_)
 ·refine sQ fun K4=>cj_reg (jA (k:=K4 (cj_ret ?_)))
  first
  |exact ej_ret1 Tryz.results28 rfl fun w' hH hf=>⟨⟨_,rfl,fun _=>hxy⟩,hf⟩
  |exact ej_ret1 Tryz.results28 rfl fun w' hH hf=>⟨⟨_,rfl,fun h=>by cases h⟩,hf⟩
 ·have hlen:xs.length=ys.length:=by simp at h10;omega
  refine cj_skip (K2 (sQ fun K5=>sQ fun K6=>cj_reg (jM (k:=jE ru24 (k:=jM (k:=K6 (CJ.t [(0,_),(1,_),(12,_),(13,_)] (k:=cj_block ?_))))))))
  refine cj_loop (σ:=Nat) (fun k=>[(0,.slice p xs.length c),(1,.slice q ys.length c2),(12,.int .i64 (xs.length:Nat)),(13,.int .i64 (k:Nat))]) (fun _=>[]) (fun k _=>k≤xs.length∧xs.take k=ys.take k) (fun k=>xs.length - k) 0 sR (fun w hH hf=>⟨.nil,Nat.zero_le _,rfl⟩) ?_
  rintro k w1 ⟨hk,hT⟩ hf1 hH1 KL hKL
  refine C.begin _ [] hf1 .nil ?_
  try dsimp only
  refine sQ fun K7=>cj_reg (jS (k:=K7 (sQ fun K8=>?_)))
  refine cj_dec rfl (fun h14=>?_) (fun h14=>?_)
  ·have hk':k<xs.length:=by omega
   have hk2:k<ys.length:=by omega
   obtain ⟨b,o,cs,rfl, -,hR,hcell⟩:=hx k xs[k] (List.getElem?_eq_getElem hk')
   obtain ⟨b2,o2,cs2,rfl, -,hR2,hcell2⟩:=hy k ys[k] (List.getElem?_eq_getElem hk2)
   unfold RType at hR hR2
   subst hR;subst hR2
   refine cj_skip (K8 (sQ fun K9=>cj_block (sQ fun K10=>cj_reg (jM (k:=jA (k:=K10 (sQ fun K11=>?_)))))))
   refine cj_drawI 9 (lts [0,1,2,3,4,5,6,7,8]) [] rfl (by kernel_rfl) (by kernel_rfl) (dM [] (k:=dM [] (k:=?_)))
   refine dj_val rfl rfl (sub_of [] rfl) (fun _ _ h=>r_idx ru24 so31 rfl rfl (by omega) h) (dj_ld rfl rfl (sub_of [] rfl) (fun a w ha hS=>r_loadA ag31 so31 rfl rfl (hcell w (hS.2.keepAll (.inr rfl))) ha) (dM [] (k:=dM [] (k:=?_))))
   refine dj_val rfl rfl (sub_of [] rfl) (fun _ _ h=>r_idx ru24 so31 rfl rfl (by omega) h) (dj_ld rfl rfl (sub_of [] rfl) (fun a w ha hS=>r_loadA ag31 so31 rfl rfl (hcell2 w (hS.2.keepAll (.inr rfl))) ha) (dj_val rfl rfl (sub_of [] rfl) (fun _ _ h=>r_neqD (eqTyD _ _) egTy rfl rfl h) (K11 (CJ.t [(0,_),(1,_),(12,_),(13,_),(24,_)] (k:=?_)))))
   refine cj_if rfl (fun h24=>?_) (fun h24=>?_)
   ·refine sQ fun K12=>cj_reg (jA (k:=K12 (cj_ret ?_)))
    first
    |exact ej_ret1 Tryz.results28 rfl fun w' hH hf=>⟨⟨_,rfl,fun _=>hxy⟩,hf⟩
    |exact ej_ret1 Tryz.results28 rfl fun w' hH hf=>⟨⟨_,rfl,fun h=>by cases h⟩,hf⟩
   ·have he:xs[k]=ys[k]:=by simpa using h24
    refine cj_skip (K9 (cj_reg (jI (k:=jM (k:=j_nil (ej_then ?_))))))
    exact fun w' hH hf=>hKL (k+1) _ w' ⟨hk',by rw[← List.take_append_getElem hk', ← List.take_append_getElem hk2,hT,he]⟩ hf .nil (by omega) sR
  ·have hke:k=xs.length:=by omega
   have hxy:xs=ys:=by rw[List.take_of_length_le (by omega),List.take_of_length_le (by omega)]at hT;exact hT
   refine cj_exit (K5 (sQ fun K13=>cj_reg (jA (k:=K13 (cj_ret ?_)))))
   first
   |exact ej_ret1 Tryz.results28 rfl fun w' hH hf=>⟨⟨_,rfl,fun _=>hxy⟩,hf⟩
   |exact ej_ret1 Tryz.results28 rfl fun w' hH hf=>⟨⟨_,rfl,fun h=>by cases h⟩,hf⟩
theorem bare_c (w:World) (cs:List Value) (x:PProf) (hR:RProf w cs x):Calls Tryz.prog 11 #[.agg cs.toArray] w (Ret fun r w'=>(∃b,r=.bool b∧(b=true→x.comments=[]∧x.deflt=⟨#[]⟩))∧Fr 0 [] w w'):=by
 obtain ⟨a,s,m,l,f,cm,rfl,ha,hs,hm,hl,hf0,hcm, -⟩:=hR
 obtain ⟨pa,ca,rfl, -⟩:=ha.open
 obtain ⟨ps,c_s,rfl, -⟩:=hs.open
 obtain ⟨pm,c_m,rfl, -⟩:=hm.open
 obtain ⟨pl,cl,rfl, -⟩:=hl.open
 obtain ⟨pf,cf,rfl, -⟩:=hf0.open
 obtain ⟨pc,cc,rfl, -⟩:=hcm.open
 refine startJ (args:=[_]) [(0,.agg (List.toArray [_,_,_,_,_,_,_,_,_,_,_,_,_,_]))] 0 [] [] Tryz.func11 rfl Tryz.ntmps11 rfl rfl .nil ?_
 refine sQ fun K1=>cj_reg (j_boxA (vs:=[_,_,_,_,_,_,_,_,_,_,_,_,_,_]) rfl rfl fun b1=>jA (k:=K1 (sQ fun K2=>cj_reg (jF 6 ru33 so29 (k:=jH 0 ag29 (k:=jE ru29 (k:=jQ (k:=jM (k:=?_)))))))))
 refine j_split (t:=7) rfl (fun hg7=>?_) (fun hg7=>?_)
 ·refine j_gt rfl rfl (jF 1 ru33 so9 (k:=?_))
  refine j_gt rfl rfl (jH 0 ag9 (k:=?_))
  refine j_gt rfl rfl (j_val rfl (fun _ _ h=>r_seql rfl rfl h) (jT (k:=jA (k:=K2 (CJ.t [(2,_)] (k:=cj_ret ?_))))))
  first
  |exact ej_ret1 Tryz.results11 rfl fun w' hH hf=>⟨⟨_,rfl,fun h=>⟨by simp at hg7;exact hg7,by simpa using h⟩⟩,hf⟩
  |exact ej_ret1 Tryz.results11 rfl fun w' hH hf=>⟨⟨_,rfl,fun h=>by cases h⟩,hf⟩
 ·refine j_gf rfl rfl rfl rfl (j_gf rfl rfl rfl rfl (j_gf rfl rfl rfl rfl (jK (k:=jA (k:=K2 (cj_ret ?_))))))
  first
  |exact ej_ret1 Tryz.results11 rfl fun w' hH hf=>⟨⟨_,rfl,fun h=>⟨by simp at hg7;exact hg7,by simpa using h⟩⟩,hf⟩
  |exact ej_ret1 Tryz.results11 rfl fun w' hH hf=>⟨⟨_,rfl,fun h=>by cases h⟩,hf⟩
theorem alike_c (w:World) (cs ds:List Value) (x y:PProf) (hx:RProf w cs x) (hy:RProf w ds y):Calls Tryz.prog 12 #[.agg cs.toArray,.agg ds.toArray] w (Ret fun r w'=>(∃b,r=.bool b∧(b=true→x.types=y.types∧x.per=y.per))∧Fr 0 [] w w'):=by
 obtain ⟨a,s,m,l,f,cm,rfl,ha,hs,hm,hl,hf0,hcm, -⟩:=hx
 obtain ⟨a2,s2,m2,l2,f2,cm2,rfl,ha2,hs2,hm2,hl2,hf02,hcm2, -⟩:=hy
 have ha':=ha
 have ha2':=ha2
 obtain ⟨pa,ca,rfl, -⟩:=ha.open
 obtain ⟨ps,c_s,rfl, -⟩:=hs.open
 obtain ⟨pm,c_m,rfl, -⟩:=hm.open
 obtain ⟨pl,cl,rfl, -⟩:=hl.open
 obtain ⟨pf,cf,rfl, -⟩:=hf0.open
 obtain ⟨pc,cc,rfl, -⟩:=hcm.open
 obtain ⟨pa2,ca2,rfl, -⟩:=ha2.open
 obtain ⟨ps2,c_s2,rfl, -⟩:=hs2.open
 obtain ⟨pm2,c_m2,rfl, -⟩:=hm2.open
 obtain ⟨pl2,cl2,rfl, -⟩:=hl2.open
 obtain ⟨pf2,cf2,rfl, -⟩:=hf02.open
 obtain ⟨pc2,cc2,rfl, -⟩:=hcm2.open
 refine startJ (args:=[_,_]) [(0,.agg (List.toArray [_,_,_,_,_,_,_,_,_,_,_,_,_,_])),(1,.agg (List.toArray [_,_,_,_,_,_,_,_,_,_,_,_,_,_]))] 0 [] [] Tryz.func12 rfl Tryz.ntmps12 rfl rfl .nil ?_
 refine sQ fun K1=>cj_reg (j_boxA (vs:=[_,_,_,_,_,_,_,_,_,_,_,_,_,_]) rfl rfl fun b2=>j_boxA (vs:=[_,_,_,_,_,_,_,_,_,_,_,_,_,_]) rfl rfl fun b3=>jA (k:=K1 (sQ fun K2=>cj_reg (jF 0 ru33 so24 (k:=jH 1 ag24 (k:=jF 0 ru33 so24 (k:=jH 0 ag24 (k:=?_))))))))
 refine j_callQ (φ:=fun v=>∃b,v=.bool b∧(b=true→x.types=y.types)) Tryz.call28 rfl rfl (fun w hH hf=>slTyD_c w _ _ _ _ (ha'.keep (RType.keep (hf.keepAll (.inr rfl))) (hf.keepAll (.inr rfl))) (ha2'.keep (RType.keep (hf.keepAll (.inr rfl))) (hf.keepAll (.inr rfl)))) ?_
 rintro _ ⟨bt,rfl,hbt⟩
 refine jM (k:=?_)
 refine j_split (t:=10) rfl (fun hg10=>?_) (fun hg10=>?_)
 ·refine j_gt rfl rfl (jF 12 ru33 so31 (k:=?_))
  refine j_gt rfl rfl (j_valw rfl (fun a w ha hH hf=>r_ldA (vs:=[_,_]) 1 rfl rfl ag31 so31 rfl rfl rfl ha hH) (j_gt rfl rfl (jF 12 ru33 so31 (k:=?_))))
  refine j_gt rfl rfl (j_valw rfl (fun a w ha hH hf=>r_ldA (vs:=[_,_]) 0 rfl rfl ag31 so31 rfl rfl rfl ha hH) (j_gt rfl rfl ?_))
  first|refine j_gt rfl rfl ?_|skip
  refine j_val rfl (fun _ _ h=>r_eqlD (eqTyD x.per y.per) egTy rfl rfl h) (jT (k:=jA (k:=K2 (CJ.t [(4,_)] (k:=cj_ret ?_)))))
  first
  |exact ej_ret1 Tryz.results12 rfl fun w' hH hf=>⟨⟨_,rfl,fun h=>⟨hbt (by simpa using hg10),by simpa using h⟩⟩,hf⟩
  |exact ej_ret1 Tryz.results12 rfl fun w' hH hf=>⟨⟨_,rfl,fun h=>by cases h⟩,hf⟩
 ·refine j_gf rfl rfl rfl rfl (j_gf rfl rfl rfl rfl (j_gf rfl rfl rfl rfl (j_gf rfl rfl rfl rfl (j_gf rfl rfl rfl rfl (jK (k:=jA (k:=K2 (cj_ret ?_))))))))
  first
  |exact ej_ret1 Tryz.results12 rfl fun w' hH hf=>⟨⟨_,rfl,fun h=>⟨hbt (by simpa using hg10),by simpa using h⟩⟩,hf⟩
  |exact ej_ret1 Tryz.results12 rfl fun w' hH hf=>⟨⟨_,rfl,fun h=>by cases h⟩,hf⟩
def ToldP (xs:List PProf):Prop:=(∀x∈xs,WellP x∧(x.comments=[]∧x.deflt=⟨#[]⟩)∧(∀z,xs[0]? =some z→x.types=z.types∧x.per=z.per)∧0<x.time∧0<x.period)∧1≤xs.length∧xs.length≤10
set_option maxHeartbeats 2000000 in
theorem told_c (w:World) (v:Value) (xs:List PProf) (hv:Lay RProf 14 w v xs) (hb:∀x∈xs,x.mappings.length≤2147483647∧x.locs.length≤2147483647∧x.funcs.length≤2147483647):
  Calls Tryz.prog 5 #[v] w (Ret fun r w'=>(∃b,r=.bool b∧(b=true→ToldP xs))∧Fr 0 [] w w'):=by
 obtain ⟨p,c,rfl,hl,hx⟩:=hv.open
 refine startJ (args:=[_]) [(0,_)] 0 [] [] Tryz.func5 rfl Tryz.ntmps5 rfl rfl .nil ?_
 refine sQ fun K1=>cj_reg (jA (k:=K1 ?_))
 refine cj_seqF fun K2 hK2=>sQ fun K3=>cj_reg (jM (k:=jE ru22 (k:=jM (k:=K3 (cj_block ?_)))))
 refine cj_loop (σ:=Nat) (fun k=>[(0,.slice p xs.length c),(5,.slice p xs.length c),(6,.int .i64 (xs.length:Nat)),(7,.int .i64 (k:Nat))]) (fun _=>[]) (fun k _=>k≤xs.length∧∀x∈xs.take k,WellP x∧(x.comments=[]∧x.deflt=⟨#[]⟩)∧(∀z,xs[0]? =some z→x.types=z.types∧x.per=z.per)∧0<x.time∧0<x.period) (fun k=>xs.length - k) 0 sR (fun w hH hf=>⟨.nil,Nat.zero_le _,fun _ h=>by cases h⟩) ?_
 rintro k w1 ⟨hk,hT⟩ hf1 hH1 KL hKL
 refine C.begin _ [] hf1 .nil ?_
 try dsimp only
 refine sQ fun K4=>cj_reg (jS (k:=K4 (sQ fun K5=>?_)))
 refine cj_dec rfl (fun h8=>?_) (fun h8=>?_)
 ·have hk':k<xs.length:=by omega
  have h0:0<xs.length:=by omega
  obtain ⟨b,o,cs,rfl,hlc,hR,hcell⟩:=hx k xs[k] (List.getElem?_eq_getElem hk')
  obtain ⟨b0,o0,cs0,e0,hlc0,hR0,hcell0⟩:=hx 0 xs[0] (List.getElem?_eq_getElem h0)
  cases e0
  have hRk:=hR
  have hRk0:=hR0
  obtain ⟨hb1,hb2,hb3⟩:=hb _ (List.getElem_mem hk')
  obtain ⟨la,ls,lm,ll,lf,lcm,rfl,hla,hls,hlm,hll,hlf,hlcm, -⟩:=hR
  obtain ⟨pa,ca,rfl, -⟩:=hla.open
  obtain ⟨ps,c_s,rfl, -⟩:=hls.open
  obtain ⟨pm,c_m,rfl, -⟩:=hlm.open
  obtain ⟨pl,cl,rfl, -⟩:=hll.open
  obtain ⟨pf,cf,rfl, -⟩:=hlf.open
  obtain ⟨pc,cc,rfl, -⟩:=hlcm.open
  obtain ⟨la',ls',lm',ll',lf',lcm',rfl,hla',hls',hlm',hll',hlf',hlcm', -⟩:=hR0
  obtain ⟨pa',ca',rfl, -⟩:=hla'.open
  obtain ⟨ps',c_s',rfl, -⟩:=hls'.open
  obtain ⟨pm',c_m',rfl, -⟩:=hlm'.open
  obtain ⟨pl',cl',rfl, -⟩:=hll'.open
  obtain ⟨pf',cf',rfl, -⟩:=hlf'.open
  obtain ⟨pc',cc',rfl, -⟩:=hlcm'.open
  refine cj_skip (K5 (sQ fun K6=>cj_block (sQ fun K7=>cj_reg (jJ ru22 so33 (k:=?_)))))
  refine j_valw rfl (fun a w ha hH hf=>r_loadA ag33 so33 rfl rfl (hcell w (hf.keepAll (.inr rfl))) ha) (j_allocA (zs:=[(.slice none 0 0),(.string ⟨#[]⟩),(.slice none 0 0),(.slice none 0 0),(.slice none 0 0),(.slice none 0 0),(.slice none 0 0),(.string ⟨#[]⟩),(.string ⟨#[]⟩),(.int .i64 0),(.int .i64 0),(.int .i64 0),(.string ⟨#[]⟩),(.string ⟨#[]⟩)]) zv33 rfl fun b4=>jB [_,_,_,_,_,_,_,_,_,_,_,_,_,_] [_] 0 so33 (k:=K7 (sQ fun K8=>?_)))
  refine cj_drawI 26 (lts [0]++(1,false)::(lts [2,3,4]++(5,false)::(lts [6,7,8,9,10,11,12]++(13,false)::lts [14,15,16,17,18,19,20,21,22,23,24,25]))) [0] rfl (by kernel_rfl) (by kernel_rfl) (dj_ld rfl rfl (sub_of [0] rfl) (fun a w ha hS=>r_ldSA (vs:=[_,_,_,_,_,_,_,_,_,_,_,_,_,_]) 0 rfl rfl ag33 so33 rfl rfl rfl ha hS) (dE (h:=fun Kd=>?_)))
  refine j_callQ (φ:=fun v=>∃b,v=.bool b∧(b=true→WellP xs[k])) Tryz.call10 rfl rfl (fun w hH hf=>well_c w _ _ (RProf.keep (hf.keepAll (.inr rfl)) _ _ hRk) hb1 hb2 hb3) ?_
  rintro _ ⟨bw,rfl,hbw⟩
  refine Kd (sb [0]) (dj_val rfl rfl (sub_of [0] rfl) (fun _ _ h=>r_not rfl h) (dM [0] (k:=?_)))
  refine dj_split (t:=14) rfl (fun hg14=>?_) (fun hg14=>?_)
  ·refine dj_gf rfl rfl rfl rfl rfl (sub_of [0] rfl) (dE (h:=fun Kd=>j_gf rfl rfl rfl rfl (Kd (sb [0]) (dj_gf rfl rfl rfl rfl rfl (sub_of [0] rfl) (dj_val rfl rfl (sub_of [0] rfl) (fun _ _ h=>r_pick_t rfl rfl h) (dM [0] (k:=?_)))))))
   refine dj_gf rfl rfl rfl rfl rfl (sub_of [0] rfl) (dj_gf rfl rfl rfl rfl rfl (sub_of [0] rfl) (dj_gf rfl rfl rfl rfl rfl (sub_of [0] rfl) (dj_gf rfl rfl rfl rfl rfl (sub_of [0] rfl) (dE (h:=fun Kd=>j_gf rfl rfl rfl rfl (Kd (sb [0]) (dj_gf rfl rfl rfl rfl rfl (sub_of [0] rfl) (dj_val rfl rfl (sub_of [0] rfl) (fun _ _ h=>r_pick_t rfl rfl h) (dM [0] (k:=?_))))))))))
   refine dj_gf rfl rfl rfl rfl rfl (sub_of [0] rfl) (dj_gf rfl rfl rfl rfl rfl (sub_of [0] rfl) (dj_gf rfl rfl rfl rfl rfl (sub_of [0] rfl) (dj_val rfl rfl (sub_of [0] rfl) (fun _ _ h=>r_pick_t rfl rfl h) (dM [0] (k:=?_)))))
   refine dj_gf rfl rfl rfl rfl rfl (sub_of [0] rfl) (dj_gf rfl rfl rfl rfl rfl (sub_of [0] rfl) (dj_gf rfl rfl rfl rfl rfl (sub_of [0] rfl) (dj_val rfl rfl (sub_of [0] rfl) (fun _ _ h=>r_pick_t rfl rfl h) (K8 (CJ.t [(0,_),(5,_),(6,_),(7,_),(36,_)] (k:=?_))))))
   refine cj_if_t rfl (sQ fun K9=>cj_reg (jA (k:=K9 (cj_ret ?_))))
   first
   |exact ej_ret1 Tryz.results5 rfl fun w' hH hf=>⟨⟨_,rfl,fun h=>⟨hT,by simp at hg41;omega,by simp at h;omega⟩⟩,hf⟩
   |exact ej_ret1 Tryz.results5 rfl fun w' hH hf=>⟨⟨_,rfl,fun h=>by cases h⟩,hf⟩
  ·refine dj_gt rfl rfl rfl rfl (sub_of [0] rfl) (fun a w ha hS=>r_ldSA (vs:=[_,_,_,_,_,_,_,_,_,_,_,_,_,_]) 0 rfl rfl ag33 so33 rfl rfl rfl ha hS) (dE (h:=fun Kd=>j_gt rfl rfl ?_))
   refine j_callQ (φ:=fun v=>∃b,v=.bool b∧(b=true→xs[k].comments=[]∧xs[k].deflt=⟨#[]⟩)) Tryz.call11 rfl rfl (fun w hH hf=>bare_c w _ _ (RProf.keep (hf.keepAll (.inr rfl)) _ _ hRk)) ?_
   rintro _ ⟨bb,rfl,hbb⟩
   refine Kd (sb [0]) (dj_gt rfl rfl rfl rfl (sub_of [0] rfl) (fun a w ha hS=>r_not rfl ha) (dj_val rfl rfl (sub_of [0] rfl) (fun _ _ h=>r_pick_f rfl rfl h) (dM [0] (k:=?_))))
   refine dj_split (t:=19) rfl (fun hg19=>?_) (fun hg19=>?_)
   ·refine dj_gf rfl rfl rfl rfl rfl (sub_of [0] rfl) (dj_gf rfl rfl rfl rfl rfl (sub_of [0] rfl) (dj_gf rfl rfl rfl rfl rfl (sub_of [0] rfl) (dj_gf rfl rfl rfl rfl rfl (sub_of [0] rfl) (dE (h:=fun Kd=>j_gf rfl rfl rfl rfl (Kd (sb [0]) (dj_gf rfl rfl rfl rfl rfl (sub_of [0] rfl) (dj_val rfl rfl (sub_of [0] rfl) (fun _ _ h=>r_pick_t rfl rfl h) (dM [0] (k:=?_))))))))))
    refine dj_gf rfl rfl rfl rfl rfl (sub_of [0] rfl) (dj_gf rfl rfl rfl rfl rfl (sub_of [0] rfl) (dj_gf rfl rfl rfl rfl rfl (sub_of [0] rfl) (dj_val rfl rfl (sub_of [0] rfl) (fun _ _ h=>r_pick_t rfl rfl h) (dM [0] (k:=?_)))))
    refine dj_gf rfl rfl rfl rfl rfl (sub_of [0] rfl) (dj_gf rfl rfl rfl rfl rfl (sub_of [0] rfl) (dj_gf rfl rfl rfl rfl rfl (sub_of [0] rfl) (dj_val rfl rfl (sub_of [0] rfl) (fun _ _ h=>r_pick_t rfl rfl h) (K8 (CJ.t [(0,_),(5,_),(6,_),(7,_),(36,_)] (k:=?_))))))
    refine cj_if_t rfl (sQ fun K10=>cj_reg (jA (k:=K10 (cj_ret ?_))))
    first
    |exact ej_ret1 Tryz.results5 rfl fun w' hH hf=>⟨⟨_,rfl,fun h=>⟨hT,by simp at hg41;omega,by simp at h;omega⟩⟩,hf⟩
    |exact ej_ret1 Tryz.results5 rfl fun w' hH hf=>⟨⟨_,rfl,fun h=>by cases h⟩,hf⟩
   ·refine dj_gt rfl rfl rfl rfl (sub_of [0] rfl) (fun a w ha hS=>r_ldSA (vs:=[_,_,_,_,_,_,_,_,_,_,_,_,_,_]) 0 rfl rfl ag33 so33 rfl rfl rfl ha hS) (dj_gt rfl rfl rfl rfl (sub_of [0] rfl) (fun a w ha hS=>r_move rfl ha) (dj_gt rfl rfl rfl rfl (sub_of [0] rfl) (fun a w ha hS=>r_idx ru22 so33 rfl rfl (by omega) ha) (dj_gt rfl rfl rfl rfl (sub_of [0] rfl) (fun a w ha hS=>r_loadA ag33 so33 rfl rfl (hcell0 w (hS.2.keepAll (.inr rfl))) ha) (dE (h:=fun Kd=>j_gt rfl rfl ?_)))))
    refine j_callQ (φ:=fun v=>∃b,v=.bool b∧(b=true→xs[k].types=xs[0].types∧xs[k].per=xs[0].per)) Tryz.call12 rfl rfl (fun w hH hf=>alike_c w _ _ _ _ (RProf.keep (hf.keepAll (.inr rfl)) _ _ hRk) (RProf.keep (hf.keepAll (.inr rfl)) _ _ hRk0)) ?_
    rintro _ ⟨ba,rfl,hba⟩
    refine Kd (sb [0]) (dj_gt rfl rfl rfl rfl (sub_of [0] rfl) (fun a w ha hS=>r_not rfl ha) (dj_val rfl rfl (sub_of [0] rfl) (fun _ _ h=>r_pick_f rfl rfl h) (dM [0] (k:=?_))))
    refine dj_split (t:=27) rfl (fun hg27=>?_) (fun hg27=>?_)
    ·refine dj_gf rfl rfl rfl rfl rfl (sub_of [0] rfl) (dj_gf rfl rfl rfl rfl rfl (sub_of [0] rfl) (dj_gf rfl rfl rfl rfl rfl (sub_of [0] rfl) (dj_val rfl rfl (sub_of [0] rfl) (fun _ _ h=>r_pick_t rfl rfl h) (dM [0] (k:=?_)))))
     refine dj_gf rfl rfl rfl rfl rfl (sub_of [0] rfl) (dj_gf rfl rfl rfl rfl rfl (sub_of [0] rfl) (dj_gf rfl rfl rfl rfl rfl (sub_of [0] rfl) (dj_val rfl rfl (sub_of [0] rfl) (fun _ _ h=>r_pick_t rfl rfl h) (K8 (CJ.t [(0,_),(5,_),(6,_),(7,_),(36,_)] (k:=?_))))))
     refine cj_if_t rfl (sQ fun K11=>cj_reg (jA (k:=K11 (cj_ret ?_))))
     first
     |exact ej_ret1 Tryz.results5 rfl fun w' hH hf=>⟨⟨_,rfl,fun h=>⟨hT,by simp at hg41;omega,by simp at h;omega⟩⟩,hf⟩
     |exact ej_ret1 Tryz.results5 rfl fun w' hH hf=>⟨⟨_,rfl,fun h=>by cases h⟩,hf⟩
    ·refine dj_gt rfl rfl rfl rfl (sub_of [0] rfl) (fun a w ha hS=>r_fl (q:=9) (ft:=2) ru33 rfl so2 rfl ha) (dj_gt rfl rfl rfl rfl (sub_of [0] rfl) (fun a w ha hS=>r_ldS 0 rfl rfl ag2 rfl rfl ha hS) (dj_gt rfl rfl rfl rfl (sub_of [0] rfl) (fun a w ha hS=>r_leq rfl rfl ha) (dj_val rfl rfl (sub_of [0] rfl) (fun _ _ h=>r_pick_f rfl rfl h) (dM [0] (k:=?_)))))
     refine dj_split (t:=32) rfl (fun hg32=>?_) (fun hg32=>?_)
     ·refine dj_gf rfl rfl rfl rfl rfl (sub_of [0] rfl) (dj_gf rfl rfl rfl rfl rfl (sub_of [0] rfl) (dj_gf rfl rfl rfl rfl rfl (sub_of [0] rfl) (dj_val rfl rfl (sub_of [0] rfl) (fun _ _ h=>r_pick_t rfl rfl h) (K8 (cj_if_t rfl (sQ fun K12=>cj_reg (jA (k:=K12 (CJ.t [(2,_)] (k:=cj_ret ?_))))))))))
      first
      |exact ej_ret1 Tryz.results5 rfl fun w' hH hf=>⟨⟨_,rfl,fun h=>⟨hT,by simp at hg41;omega,by simp at h;omega⟩⟩,hf⟩
      |exact ej_ret1 Tryz.results5 rfl fun w' hH hf=>⟨⟨_,rfl,fun h=>by cases h⟩,hf⟩
     ·refine dj_gt rfl rfl rfl rfl (sub_of [0] rfl) (fun a w ha hS=>r_fl (q:=11) (ft:=2) ru33 rfl so2 rfl ha) (dj_gt rfl rfl rfl rfl (sub_of [0] rfl) (fun a w ha hS=>r_ldS 0 rfl rfl ag2 rfl rfl ha hS) (dj_gt rfl rfl rfl rfl (sub_of [0] rfl) (fun a w ha hS=>r_leq rfl rfl ha) (dj_val rfl rfl (sub_of [0] rfl) (fun _ _ h=>r_pick_f rfl rfl h) (K8 ?_))))
      refine cj_if rfl (fun h36=>?_) (fun h36=>?_)
      ·refine sQ fun K13=>cj_reg (jA (k:=K13 (cj_ret ?_)))
       first
       |exact ej_ret1 Tryz.results5 rfl fun w' hH hf=>⟨⟨_,rfl,fun h=>⟨hT,by simp at hg41;omega,by simp at h;omega⟩⟩,hf⟩
       |exact ej_ret1 Tryz.results5 rfl fun w' hH hf=>⟨⟨_,rfl,fun h=>by cases h⟩,hf⟩
      ·have hall:WellP xs[k]∧(xs[k].comments=[]∧xs[k].deflt=⟨#[]⟩)∧(∀z,xs[0]? =some z→xs[k].types=z.types∧xs[k].per=z.per)∧0<xs[k].time∧0<xs[k].period:=⟨hbw (by simpa using hg14),hbb (by simpa using hg19),fun z hz=>by
         rw[List.getElem?_eq_getElem h0]at hz
         cases hz
         exact hba (by simpa using hg27),by simpa using hg32,by simpa using h36⟩
       refine cj_skip (K6 (cj_reg (jI (k:=jM (k:=j_nil (ej_then ?_))))))
       exact fun w' hH hf=>hKL (k+1) _ w' ⟨hk',fun x hx=>by
         rw[← List.take_append_getElem hk']at hx
         rcases List.mem_append.1 hx with hx|hx
         ·exact hT x hx
         ·simp at hx;subst hx;exact hall⟩ hf .nil (by omega) ⟨rfl,rfl,rfl,rfl,trivial⟩
 ·have hke:k=xs.length:=by omega
  rw[List.take_of_length_le (by omega)]at hT
  refine cj_exit (ej_then_exit (ej_then_exit (ej_blk_hit (ej_then (hK2 _ _ _ (sQ fun K14=>cj_reg (jM (k:=jE ru22 (k:=?_)))))))))
  refine j_val rfl (fun _ _ h=>r_geq rfl rfl h) (jM (k:=?_))
  refine j_split (t:=41) rfl (fun hg41=>?_) (fun hg41=>?_)
  ·refine j_gt rfl rfl (jM (k:=?_))
   refine j_gt rfl rfl (jE ru22 (k:=?_))
   refine j_gt rfl rfl (j_val rfl (fun _ _ h=>r_leq rfl rfl h) (jT (k:=jA (k:=K14 (CJ.t [(2,_)] (k:=cj_ret ?_))))))
   first
   |exact ej_ret1 Tryz.results5 rfl fun w' hH hf=>⟨⟨_,rfl,fun h=>⟨hT,by simp at hg41;omega,by simp at h;omega⟩⟩,hf⟩
   |exact ej_ret1 Tryz.results5 rfl fun w' hH hf=>⟨⟨_,rfl,fun h=>by cases h⟩,hf⟩
  ·refine j_gf rfl rfl rfl rfl (j_gf rfl rfl rfl rfl (j_gf rfl rfl rfl rfl (jK (k:=jA (k:=K14 (cj_ret ?_))))))
   first
   |exact ej_ret1 Tryz.results5 rfl fun w' hH hf=>⟨⟨_,rfl,fun h=>⟨hT,by simp at hg41;omega,by simp at h;omega⟩⟩,hf⟩
   |exact ej_ret1 Tryz.results5 rfl fun w' hH hf=>⟨⟨_,rfl,fun h=>by cases h⟩,hf⟩
theorem zzFits17_c (w:World) (v:Value) (xs:List PProf) (hv:Lay RProf 14 w v xs):Calls Tryz.prog 4 #[v] w (Ret fun r w'=>(∃b,r=.bool b∧(b=true→∀x∈xs,x.mappings.length≤2147483647∧x.locs.length≤2147483647∧x.funcs.length≤2147483647))∧Fr 0 [] w w'):=by
 obtain ⟨p,c,rfl,hl,hx⟩:=hv.open
 refine startJ (args:=[_]) [(0,_)] 0 [] [] Tryz.func4 rfl Tryz.ntmps4 rfl rfl .nil ?_
 refine sQ fun K1=>cj_reg (jA (k:=K1 (sQ fun K2=>sQ fun K3=>cj_reg (jM (k:=jE ru22 (k:=jG (k:=K3 ?_)))))))
 refine cj_if rfl (fun h7=>?_) (fun h7=>?_)
 ·refine sQ fun K4=>cj_reg (jA (k:=K4 (cj_ret ?_)))
  first
  |exact ej_ret1 Tryz.results4 rfl fun w' hH hf=>⟨⟨_,rfl,fun h=>hT⟩,hf⟩
  |exact ej_ret1 Tryz.results4 rfl fun w' hH hf=>⟨⟨_,rfl,fun h=>by cases h⟩,hf⟩
 ·refine cj_skip (K2 (sQ fun K5=>sQ fun K6=>cj_reg (jM (k:=jE ru22 (k:=jM (k:=K6 (cj_block ?_)))))))
  refine cj_loop (σ:=Nat) (fun k=>[(8,.slice p xs.length c),(9,.int .i64 (xs.length:Nat)),(10,.int .i64 (k:Nat))]) (fun _=>[]) (fun k _=>k≤xs.length∧∀x∈xs.take k,x.mappings.length≤2147483647∧x.locs.length≤2147483647∧x.funcs.length≤2147483647) (fun k=>xs.length - k) 0 sR (fun w hH hf=>⟨.nil,Nat.zero_le _,fun _ h=>by cases h⟩) ?_
  rintro k w1 ⟨hk,hT⟩ hf1 hH1 KL hKL
  refine C.begin _ [] hf1 .nil ?_
  try dsimp only
  refine sQ fun K7=>cj_reg (jS (k:=K7 (sQ fun K8=>?_)))
  refine cj_dec rfl (fun h11=>?_) (fun h11=>?_)
  ·have hk':k<xs.length:=by omega
   obtain ⟨b,o,cs,rfl,hlc,hR,hcell⟩:=hx k xs[k] (List.getElem?_eq_getElem hk')
   have hRk:=hR
   obtain ⟨la,ls,lm,ll,lf,lcm,rfl,hla,hls,hlm,hll,hlf,hlcm, -⟩:=hR
   obtain ⟨pa,ca,rfl, -⟩:=hla.open
   obtain ⟨ps,c_s,rfl, -⟩:=hls.open
   obtain ⟨pm,cm,rfl, -⟩:=hlm.open
   obtain ⟨pl,cl,rfl, -⟩:=hll.open
   obtain ⟨pf,cf,rfl, -⟩:=hlf.open
   obtain ⟨pc,cc,rfl, -⟩:=hlcm.open
   refine cj_skip (K8 (sQ fun K9=>cj_block (sQ fun K10=>cj_reg (jJ ru22 so33 (k:=?_)))))
   refine j_valw rfl (fun a w ha hH hf=>r_loadA ag33 so33 rfl rfl (hcell w (hf.keepAll (.inr rfl))) ha) (j_allocA (zs:=[(.slice none 0 0),(.string ⟨#[]⟩),(.slice none 0 0),(.slice none 0 0),(.slice none 0 0),(.slice none 0 0),(.slice none 0 0),(.string ⟨#[]⟩),(.string ⟨#[]⟩),(.int .i64 0),(.int .i64 0),(.int .i64 0),(.string ⟨#[]⟩),(.string ⟨#[]⟩)]) zv33 rfl fun b4=>jB [_,_,_,_,_,_,_,_,_,_,_,_,_,_] [_] 0 so33 (k:=K10 (sQ fun K11=>cj_reg ?_)))
   refine j_valw rfl (fun a w ha hH hf=>r_ldA (vs:=[_,_,_,_,_,_,_,_,_,_,_,_,_,_]) 0 rfl rfl ag33 so33 rfl rfl rfl ha hH) ?_
   refine j_callQ (φ:=fun v=>∃b,v=.bool b∧(b=true→xs[k].mappings.length≤2147483647∧xs[k].locs.length≤2147483647∧xs[k].funcs.length≤2147483647)) Tryz.call9 rfl rfl (fun w hH hf=>by
     have a1:=RProf.keep (hf.keepAll (.inr rfl)) _ _ hRk
     exact zzFits1_c w _ _ a1) ?_
   rintro _ ⟨bf,rfl,hbf⟩
   refine jU (k:=K11 ?_)
   refine cj_if rfl (fun h16=>?_) (fun h16=>?_)
   ·refine sQ fun K12=>cj_reg (jA (k:=K12 (cj_ret ?_)))
    first
    |exact ej_ret1 Tryz.results4 rfl fun w' hH hf=>⟨⟨_,rfl,fun h=>hT⟩,hf⟩
    |exact ej_ret1 Tryz.results4 rfl fun w' hH hf=>⟨⟨_,rfl,fun h=>by cases h⟩,hf⟩
   ·have hall:=hbf (by simpa using h16)
    refine cj_skip (K9 (cj_reg (jI (k:=jM (k:=j_nil (ej_then ?_))))))
    exact fun w' hH hf=>hKL (k+1) _ w' ⟨hk',fun x hx=>by
      rw[← List.take_append_getElem hk']at hx
      rcases List.mem_append.1 hx with hx|hx
      ·exact hT x hx
      ·simp at hx;subst hx;exact hall⟩ hf .nil (by omega) ⟨rfl,rfl,rfl,trivial⟩
  ·have hke:k=xs.length:=by omega
   rw[List.take_of_length_le (by omega)]at hT
   refine cj_exit (K5 (CJ.t [] (k:=sQ fun K13=>cj_reg (jA (k:=K13 (cj_ret ?_))))))
   first
   |exact ej_ret1 Tryz.results4 rfl fun w' hH hf=>⟨⟨_,rfl,fun h=>hT⟩,hf⟩
   |exact ej_ret1 Tryz.results4 rfl fun w' hH hf=>⟨⟨_,rfl,fun h=>by cases h⟩,hf⟩
structure TxB (x:PProf):Prop where
 m:∀m∈x.mappings,SzM m
 f:∀f∈x.funcs,SzF f
 t:∀s∈x.samples,(∀t∈s.texts,t.key.size≤2000000∧∀y∈t.list,y.size≤2000000)∧∀t∈s.nums,t.key.size≤2000000
theorem WellP.srcS {x:PProf} (h:WellP x) (hr:Rng x) (hB:TxB x):∀t∈x.samples,SrcS x x.types.length t:=fun t ht=>by
 obtain ⟨h1,h2,h3,h4,h5⟩:=h.samples t ht
 obtain ⟨b1,b2⟩:=hB.t t ht
 exact ⟨h1,hr.vals t ht,⟨h3,h5⟩,h4,⟨b1,fun u hu=>⟨b2 u hu,hr.nums t ht u hu⟩⟩⟩
theorem WellP.srcL {x:PProf} (h:WellP x) (hr:Rng x):SrcL x:=fun l hl=>by
 obtain ⟨h1,h2,h3⟩:=h.tab.locs l hl
 obtain ⟨r1,r2,r3⟩:=hr.locs l hl
 exact ⟨h1,h2,fun n hn=>⟨h3 n hn,r3 n hn⟩,r2⟩
theorem WellP.plnM {x:PProf} (h:WellP x):PlnM x:=by
 have n1:=h.ntyp
 have n2:=h.nsam
 have n6:=h.ncom
 have n3:=h.tab.m.2.2
 have n5:=h.tab.f.2.2
 have n4:=h.tab.l.2.2
 simp only[List.length_map]at n3 n4 n5
 refine ⟨fun s hs=>?_,by omega,by omega,by omega,by omega,by omega,by omega,fun l hl=>?_⟩
 ·obtain ⟨h1,h2,h3,h4,h5⟩:=h.samples s hs
  exact ⟨by omega,by omega,h4,h5⟩
 ·obtain ⟨h1,h2,h3⟩:=h.tab.locs l hl
  exact ⟨h1,by omega,h3⟩
theorem WellP.srcI {x:PProf} {ty:List PType} {per:PType} (h:WellP x) (hr:Rng x) (hB:TxB x) (hc:x.comments=[]) (hd:x.deflt=⟨#[]⟩) (ht:x.types=ty) (hp:x.per=per):SrcI ty.length ty per x:=by
 have n2:=h.nsam
 have n3:=h.tab.m.2.2
 have n5:=h.tab.f.2.2
 have n4:=h.tab.l.2.2
 simp only[List.length_map]at n3 n4 n5
 refine ⟨h.plnM,fun w g hG=>{ t:={ of:=hG,idm:=h.tab.m.2.1,idf:=h.tab.f.2.1,idl:=h.tab.l.2.1,wm:=fun m hm=>?_,wf:=fun f hf=>?_,nm:=by omega,nf:=by omega,nl:=by omega },l:=h.srcL hr,s:=ht▸h.srcS hr hB,ty:=ht,pe:=hp,co:=hc,df:=hd,ns:=by omega,wr:=⟨hr.time,hr.dur,hr.period⟩ }⟩
 ·obtain ⟨r1,r2,r3,r4⟩:=hr.maps m hm
  exact ⟨r1,r2,r3,r4,hB.m m hm⟩
 ·exact ⟨(hr.funs f hf).2,hB.f f hf⟩
theorem WellP.sumX {x:PProf} {ty:List PType} (h:WellP x) (hr:Rng x) (hB:TxB x) (ht:x.types=ty):SumX ty.length x:=
 ⟨⟨hB.m,hB.f,fun l hl=>h.tab.locs l hl⟩,ht▸h.srcS hr hB,by have:=h.nsam;omega⟩
theorem MrgZ.sumX {ty:List PType} {per:PType} {xs:List PProf} (h:MrgZ n ty per xs z) (b4:nzc xs≤10000):SumX n z:=by
 have h4:=h.ns
 refine ⟨⟨fun m hm=>?_,fun f hf=>?_,fun l hl=>?_⟩,fun t ht=>?_,by omega⟩
 ·obtain ⟨i,hi⟩:=List.mem_iff_getElem?.1 hm
  exact (h.wz.mp i m hi).2.2.2.2
 ·obtain ⟨i,hi⟩:=List.mem_iff_getElem?.1 hf
  exact (h.wz.fn i f hi).2.2
 ·obtain ⟨i,hi⟩:=List.mem_iff_getElem?.1 hl
  obtain ⟨-,r1,r2,r3, -⟩:=h.wz.lc i l hi
  exact ⟨r1,r2,fun n hn=>(r3 n hn).1⟩
 ·obtain ⟨r1,r2,r3,r4,r5,r6⟩:=h.wz.sm t ht
  exact ⟨r1,r2,⟨r3,r4⟩,r5,h.tx t ht⟩
theorem sum_bnd {α:Type} (f:α→Nat) (C:Nat):∀{l:List α},(∀x∈l,f x≤C)→(l.map f).sum≤l.length*C
 |[],_=>by simp
 |a::r,h=>by
    have h1:=sum_bnd f C (l:=r) fun x hx=>h x (List.mem_cons_of_mem _ hx)
    have h2:=h a (List.mem_cons_self ..)
    rw[List.map_cons,List.sum_cons,List.length_cons,Nat.succ_mul];omega
theorem nzc_le {xs:List PProf} {C:Nat} (h:∀x∈xs,x.samples.length≤C):nzc xs≤xs.length*C:=sum_bnd _ C fun x hx=>Nat.le_trans (nzs_le _) (h x hx)
theorem twice {ty:List PType} {per:PType} {xs:List PProf} {z2:PProf} (h1:MrgZ n ty per xs z) (h2:MrgZ n ty per [z,z] z2) (hx:∀x∈xs,SumX n x) (hz:SumX n z) (q:ByteArray):sumV n q (txA FK10 [z2])=sumV n q (txA FK10 (xs++xs)):=by
 have e1:txA FK10 [z2]=txL FK10 z2:=by simp[txA]
 have e2:txA FK10 [z,z]=txL FK10 z++txL FK10 z:=by simp[txA]
 have e3:txA FK10 (xs++xs)=txA FK10 xs++txA FK10 xs:=by simp[txA]
 rw[e1,h2.sum FK10 q,e2,e3,sumV_app (txJ_len hz) (txJ_len hz),sumV_app (txJA_len hx) (txJA_len hx),h1.sum FK10 q]
end Go.Proofs.YtffghbkcomlefaaGreatDoor
namespace Go.Fw
open Go
variable {T l sz:Nat} {v:Value} {w:World}
section
variable {P:Program} {Q:Exit→Act→World→Prop} {n:Nat} {f:Fm} {e:Env} {H:Heap} {ops:Array Oper} {rest:List Oper} {d ty:Nat} {pos:String} {af:Array Edge}
theorem j_bsliceW {t len:Nat} {parts:Array (Nat×Operand)} {vals:List (Nat×Value)} {z:Value} {cells:Array Value} (hu:∀w,(underlying t).run P w=.ok (.slice T) w) (hsz:∀w,(sizeOf T).run P w=.ok sz w) (hz:∀w,(zeroValue T).run P w=.ok z w)
  (hp:evP e parts.toList=some vals) (hb:Nat.ble (len*sz) 1000=true) (h0:Nat.blt 0 (len*sz)=true) (hfill:Instr.fill (fun i=>some (i*sz,sz)) ((Array.range (len*sz)).map (z.cells[· %z.cells.size]!)) vals=some cells) (hd:Nat.blt d n=true)
  (k:∀b,J P ops Q n f ((d,.slice (some ⟨b,0,none⟩) len len)::e) (⟨b,T,cells.toList,true,true,none⟩::H) rest):J P ops Q n f e H (⟨some d,.buildSlice t len parts,ty,pos,af,none⟩::rest):=fun w hH hf=>by
 have hn:New w { w with heap:=w.heap.push (.cells cells T) } w.heap.size (.cells cells T (0,0)):=⟨rfl,rfl,rfl,rfl,rfl⟩
 have hb':len*sz≤1000:=Nat.le_of_ble_eq_true hb
 have h0':0<len*sz:=by simpa using h0
 have hr:∀(vals':Array (Nat×Value)),vals'.toList=vals→(Instr.buildSlice t len vals').run P w=.ok (.slice (some ⟨w.heap.size,0,none⟩) len len) { w with heap:=w.heap.push (.cells cells T) }:=fun vals' hv=>by
  have hgt:¬(2^24<len*sz):=by omega
  have hne:¬(len*sz=0):=by omega
  subst hv
  simp only[Instr.buildSlice]
  simp only[Sem.run_bind,hu,Result.andThen_ok,hsz,Sem.run_ite,if_neg hgt,if_neg hne,hz,Sem.run_pure,gt_iff_lt]
  rw[hfill]
  rfl
 refine L.valw hd (fun a ha=>?_) (k w.heap.size _ (by simpa using hH.new hf hn) (hf.new hn))
 have hm:(parts.map fun p=>(p.1,a.eval p.2)).toList=vals:=by rw[Array.toList_map];exact evP_ok ha hp
 simp only[execOp]
 have:=hr _ hm
 simp[this]
end
theorem SlV.first {P:Program} {cs:List Value} (h:SlV w sz v l cs) (w1:World) (k:Keep w w1):(Builtin.firstCells sz l v).run P w1=.ok cs.toArray w1:=by
 obtain ⟨⟨p,c,rfl,h2,h3⟩,h4,h5⟩:=h
 rcases h3 with h3|⟨b,o,rfl,h3⟩
 ·subst h3
  have:cs=[]:=List.eq_nil_of_length_eq_zero (by simpa using h4)
  subst this
  cases p with
  |none=>simp[Builtin.firstCells]
  |some a=>
   simp only[Builtin.firstCells,Nat.zero_mul]
   rfl
 ·simp only[Builtin.firstCells]
  rw[← h4]
  exact run_loadCells w1 _ _ fun j u hj=>k.cell (h3 j u hj)
section
variable {P:Program} {Q:Exit→Act→World→Prop} {n:Nat} {f:Fm} {e:Env} {H:Heap} {ops:Array Oper} {rest:List Oper} {d ty:Nat} {pos:String} {af:Array Edge}
theorem j_appV {sT by_ m c c2:Nat} {s x:Operand} {y:Ent} {p p2:Option Addr} {xs zs:List Value} {w0:World} (i:Nat) (hy:H[i]? =some y) (hO:Own T sz y p l c xs)
  (hu:∀w,(underlying sT).run P w=.ok (.slice T) w) (hT:ElT P T sz by_) (hby:Nat.ble by_ 1000=true)
  (hs:ev e s=some (.slice p l c)) (hxv:ev e x=some (.slice p2 m c2)) (hx:SlV w0 sz (.slice p2 m c2) m zs) (hk:∀w,f.ok w→Keep w0 w) (hsc:zs.all scal=true) (hbig:l+m≤100000000000) (hd:Nat.blt d n=true)
  (k:∀y' p' c',Own T sz y' p' (l+m) c' (xs++zs)→J P ops Q n f ((d,.slice p' (l+m) c')::e) (putH H i y') rest):
  J P ops Q n f e H (⟨some d,.call ⟨.builtin .append, #[s,x], #[sT,sT]⟩,ty,pos,af,none⟩::rest):=
 j_append i hy hO.hT hO.ho hO.hw hu hu (.inl ⟨_,rfl⟩) hT hby hs hxv hO.sl (lenOf_slice _ _ _) (fun w w1 hH hf k=>hx.first w1 ((hk w hf).trans k)) hx.len hsc hbig hd fun y' p' c' h1 h2 h3 h4=>k y' p' c' ⟨h1,h2,h3,h4⟩
end
theorem lay_css {α:Type} {R:World→List Value→α→Prop} {css:List (List Value)} {xs:List α} (h:OS T sz w v css.flatten) (hp:0<sz) (hl:css.length=xs.length) (hc:∀c∈css,c.length=sz) (hR:∀(i:Nat) c x,css[i]? =some c→xs[i]? =some x→R w c x) (hb:xs.length≤1000000):Lay R sz w v xs:=by
 obtain ⟨p,l,c,rfl,h1,h2,h3⟩:=h.open
 have e:css.flatten.length=css.length*sz:=by
  clear h h1 h3 hR hl
  induction css with
  |nil=>simp
  |cons a r ih=>
   rw[List.flatten_cons,List.length_append,ih fun c hc'=>hc c (List.mem_cons_of_mem _ hc'),hc a (List.mem_cons_self ..),List.length_cons,Nat.succ_mul];omega
 have el:l=xs.length:=by
  rw[e,hl]at h1
  exact (Nat.eq_of_mul_eq_mul_right hp h1).symm
 subst el
 refine ⟨css,⟨⟨p,c,rfl,h2,?_⟩,by rw[e,hl],by omega⟩,hl,hc,hR⟩
 by_cases h0:xs.length=0
 ·exact .inl h0
 ·obtain ⟨b,rfl,h4⟩:=h3 (by omega)
  exact .inr ⟨b,0,rfl,fun j u hj=>by
   have:=h4 w (Keep.refl w) j u hj
   simpa using this⟩
end Go.Fw
namespace Go.Proofs.YtffghbkcomlefaaGreatDoor
open Go Go.Fw Go.Proofs Go.Proofs.Tryz
theorem rprof_scal {w:World} {cs:List Value} {x:PProf} (h:RProf w cs x):cs.all scal=true:=by
 obtain ⟨la,ls,lm,ll,lf,lcm,rfl,hla,hls,hlm,hll,hlf,hlcm, -⟩:=h
 obtain ⟨pa,ca,rfl, -⟩:=hla.open
 obtain ⟨ps,c_s,rfl, -⟩:=hls.open
 obtain ⟨pm,cm,rfl, -⟩:=hlm.open
 obtain ⟨pl,cl,rfl, -⟩:=hll.open
 obtain ⟨pf,cf,rfl, -⟩:=hlf.open
 obtain ⟨pc,cc,rfl, -⟩:=hlcm.open
 rfl
theorem flat_scals {css:List (List Value)} (h:∀c∈css,c.all scal=true):css.flatten.all scal=true:=by
 rw[List.all_eq_true]
 intro v hv
 obtain ⟨c,hc,hvc⟩:=List.mem_flatten.1 hv
 exact List.all_eq_true.1 (h c hc) v hvc
set_option maxHeartbeats 4000000 in
theorem root_merge (w:World) (v:Value) (xs:List PProf) (hv:Lay RProf 14 w v xs) (hB:∀x∈xs,TxB x) (hT:Tabs w):
  Calls Tryz.prog 3 #[v] w (Ret fun r w'=>r=.bool true∧Fr 0 [] w w'):=by
 have hv0:=hv
 obtain ⟨css,hsl,hcl,hc14,hRs⟩:=id hv
 obtain ⟨p,c,rfl,hl,hxv⟩:=hv.open
 have hscs:css.flatten.all scal=true:=flat_scals fun cs hc=>by
  obtain ⟨i,hi⟩:=List.mem_iff_getElem?.1 hc
  have hil:=(List.getElem?_eq_some_iff.1 hi).1
  exact rprof_scal (hRs i cs _ hi (List.getElem?_eq_getElem (by omega)))
 refine startJ (args:=[_]) [(0,_)] 0 [] [] Tryz.func3 rfl Tryz.ntmps3 rfl rfl .nil ?_
 refine sQ fun K1=>cj_reg (jA (k:=K1 (sQ fun K2=>sQ fun K3=>cj_reg (jM (k:=?_)))))
 refine j_callQ (φ:=fun v=>∃b,v=.bool b∧(b=true→∀x∈xs,x.mappings.length≤2147483647∧x.locs.length≤2147483647∧x.funcs.length≤2147483647)) Tryz.call4 rfl rfl (fun w' hH hf=>zzFits17_c w' _ xs (hv0.keep (RProf.keep (hf.keepAll (.inr rfl))) (hf.keepAll (.inr rfl)))) ?_
 rintro _ ⟨bf,rfl,hbf⟩
 refine jU (k:=K3 ?_)
 refine cj_if rfl (fun h9=>?_) (fun h9=>?_)
 ·refine sQ fun K4=>cj_reg (jA (k:=K4 (cj_ret ?_)))
  first
  |exact ej_ret1 Tryz.results3 rfl fun w' hH hf=>⟨rfl,hf⟩
  |exact ej_ret1 Tryz.results3 rfl fun w' hH hf=>⟨rfl,frQ hfr8 hf⟩
 ·have hbf:=hbf (by simpa using h9)
  refine cj_skip (K2 (sQ fun K5=>sQ fun K6=>cj_reg (jM (k:=?_))))
  refine j_callQ (φ:=fun v=>∃b,v=.bool b∧(b=true→ToldP xs)) Tryz.call5 rfl rfl (fun w' hH hf=>told_c w' _ xs (hv0.keep (RProf.keep (hf.keepAll (.inr rfl))) (hf.keepAll (.inr rfl))) hbf) ?_
  rintro _ ⟨bw,rfl,hbw⟩
  refine jU (k:=K6 ?_)
  refine cj_if rfl (fun h12=>?_) (fun h12=>?_)
  ·refine sQ fun K7=>cj_reg (jA (k:=K7 (CJ.t [(2,_)] (k:=cj_ret ?_))))
   first
   |exact ej_ret1 Tryz.results3 rfl fun w' hH hf=>⟨rfl,hf⟩
   |exact ej_ret1 Tryz.results3 rfl fun w' hH hf=>⟨rfl,frQ hfr8 hf⟩
  ·obtain ⟨hall,hl1,hl10⟩:=hbw (by simpa using h12)
   have hrng:∀x∈xs,Rng x:=hv0.each fun c x hR=>RProf.rng hR
   obtain ⟨x0,hx0⟩:∃x0,xs[0]? =some x0:=⟨_,List.getElem?_eq_getElem (by omega)⟩
   have hm0:=List.mem_of_getElem? hx0
   have hty60:x0.types.length≤60:=(hall x0 hm0).1.ntyp
   have hSI:∀x∈xs,SrcI x0.types.length x0.types x0.per x:=fun x hx=>by
    obtain ⟨q1,⟨q2,q3⟩,q4, -⟩:=hall x hx
    exact q1.srcI (hrng x hx) (hB x hx) q2 q3 (q4 x0 hx0).1 (q4 x0 hx0).2
   have hSX:∀x∈xs,SumX x0.types.length x:=fun x hx=>by
    obtain ⟨q1, -,q4, -⟩:=hall x hx
    exact q1.sumX (hrng x hx) (hB x hx) (q4 x0 hx0).1
   have smv:=sum_bnd (fun x:PProf=>x.mappings.length) 60 (l:=xs) fun x hx=>by have:=(hall x hx).1.tab.m.2.2;simpa using this
   have sfv:=sum_bnd (fun x:PProf=>x.funcs.length) 60 (l:=xs) fun x hx=>by have:=(hall x hx).1.tab.f.2.2;simpa using this
   have slv:=sum_bnd (fun x:PProf=>x.locs.length) 60 (l:=xs) fun x hx=>by have:=(hall x hx).1.tab.l.2.2;simpa using this
   have szv:=nzc_le (xs:=xs) (C:=60) fun x hx=>(hall x hx).1.nsam
   have h600:xs.length*60≤10*60:=Nat.mul_le_mul_right _ hl10
   refine cj_skip (K5 (sQ fun K8=>cj_reg (jM (k:=?_))))
   refine j_callE (R:=fun w1 r w2=>(∃cs z,r=.tuple #[.agg (List.toArray cs),.bool true]∧RProf w2 cs z∧MrgZ x0.types.length x0.types x0.per xs z)∧Fr 0 [] w1 w2) Tryz.call6 rfl rfl (fun w1 hH hf=>implMerge_c w1 _ _ _ _ xs (hv0.keep (RProf.keep (hf.keepAll (.inr rfl))) (hf.keepAll (.inr rfl))) (by omega) (by omega) hSI (by omega) hty60 (by omega) (by omega) (by omega) (by omega) (hT.keep (hf.keepAll (.inr rfl)))) fun w1 v w2 hH1 hf1 hR=>?_
   obtain ⟨⟨cz,z,rfl,hRz,hZ⟩,hq2⟩:=hR
   have hfr2:Fr 0 [] w w2:=frQ hf1 hq2
   have hRz0:=hRz
   obtain ⟨la,ls,lm,ll,lf,lcm,rfl,hla,hls,hlm,hll,hlf,hlcm, -⟩:=hRz
   obtain ⟨pa,ca,rfl, -⟩:=hla.open
   obtain ⟨ps,c_s,rfl, -⟩:=hls.open
   obtain ⟨pm,cm,rfl, -⟩:=hlm.open
   obtain ⟨pl,cl,rfl, -⟩:=hll.open
   obtain ⟨pf,cf,rfl, -⟩:=hlf.open
   obtain ⟨pc,cc,rfl, -⟩:=hlcm.open
   have hzm:=hZ.nm
   have hzf:=hZ.nf
   have hzl:=hZ.nl
   have hzs:=hZ.ns
   have hSIz:=hZ.srcI hty60 (by omega) (by omega) (by omega) (by omega) (by omega)
   have hSXz:=hZ.sumX (by omega)
   have hzz:nzc [z,z]≤10000:=by
    have:=nzs_le z.samples
    show nzs z.samples+(nzs z.samples+0)≤10000
    omega
   refine J.begin ⟨w2,0,[]⟩ [] ok_refl .nil ?_
   refine jM (k:=jX (k:=jX (k:=?_)))
   refine j_allocA (zs:=[(.slice none 0 0),(.string ⟨#[]⟩),(.slice none 0 0),(.slice none 0 0),(.slice none 0 0),(.slice none 0 0),(.slice none 0 0),(.string ⟨#[]⟩),(.string ⟨#[]⟩),(.int .i64 0),(.int .i64 0),(.int .i64 0),(.string ⟨#[]⟩),(.string ⟨#[]⟩)]) zv33 rfl fun b3=>jB [_,_,_,_,_,_,_,_,_,_,_,_,_,_] [_] 0 so33 (k:=jA (k:=K8 (sQ fun K9=>cj_reg ?_)))
   refine j_valw rfl (fun a w ha hH hf=>r_ldA (vs:=[_,_,_,_,_,_,_,_,_,_,_,_,_,_]) 0 rfl rfl ag33 so33 rfl rfl rfl ha hH) (j_valw rfl (fun a w ha hH hf=>r_ldA (vs:=[_,_,_,_,_,_,_,_,_,_,_,_,_,_]) 0 rfl rfl ag33 so33 rfl rfl rfl ha hH) ?_)
   refine j_bsliceW (sz:=14) (vals:=[(0,.agg (List.toArray [.slice pa z.types.length ca,.string z.deflt,.slice ps z.samples.length c_s,.slice pm z.mappings.length cm,.slice pl z.locs.length cl,.slice pf z.funcs.length cf,.slice pc z.comments.length cc,.string z.drop,.string z.keep,.int .i64 z.time,.int .i64 z.dur,.int .i64 z.period,.string z.per.ty,.string z.per.unit])),(1,.agg (List.toArray [.slice pa z.types.length ca,.string z.deflt,.slice ps z.samples.length c_s,.slice pm z.mappings.length cm,.slice pl z.locs.length cl,.slice pf z.funcs.length cf,.slice pc z.comments.length cc,.string z.drop,.string z.keep,.int .i64 z.time,.int .i64 z.dur,.int .i64 z.period,.string z.per.ty,.string z.per.unit]))]) (cells:=(List.toArray ([.slice pa z.types.length ca,.string z.deflt,.slice ps z.samples.length c_s,.slice pm z.mappings.length cm,.slice pl z.locs.length cl,.slice pf z.funcs.length cf,.slice pc z.comments.length cc,.string z.drop,.string z.keep,.int .i64 z.time,.int .i64 z.dur,.int .i64 z.period,.string z.per.ty,.string z.per.unit]++[.slice pa z.types.length ca,.string z.deflt,.slice ps z.samples.length c_s,.slice pm z.mappings.length cm,.slice pl z.locs.length cl,.slice pf z.funcs.length cf,.slice pc z.comments.length cc,.string z.drop,.string z.keep,.int .i64 z.time,.int .i64 z.dur,.int .i64 z.period,.string z.per.ty,.string z.per.unit]):Array Value)) ru22 so33 zv33 rfl rfl rfl (by kernel_rfl) rfl fun b21=>?_
   refine j_callE (R:=fun w3 r w4=>(∃cs z2,r=.tuple #[.agg (List.toArray cs),.bool true]∧RProf w4 cs z2∧MrgZ x0.types.length x0.types x0.per [z,z] z2)∧Fr 0 [] w3 w4) Tryz.call6 rfl rfl (fun w3 hH hf=>by
     have hK:=RProf.keep (hf.keepAll (.inr rfl)) _ _ hRz0
     have hL:Lay RProf 14 w3 (.slice (some ⟨b21,0,none⟩) 2 2) [z,z]:=lay_css (css:=[[.slice pa z.types.length ca,.string z.deflt,.slice ps z.samples.length c_s,.slice pm z.mappings.length cm,.slice pl z.locs.length cl,.slice pf z.funcs.length cf,.slice pc z.comments.length cc,.string z.drop,.string z.keep,.int .i64 z.time,.int .i64 z.dur,.int .i64 z.period,.string z.per.ty,.string z.per.unit],[.slice pa z.types.length ca,.string z.deflt,.slice ps z.samples.length c_s,.slice pm z.mappings.length cm,.slice pl z.locs.length cl,.slice pf z.funcs.length cf,.slice pc z.comments.length cc,.string z.drop,.string z.keep,.int .i64 z.time,.int .i64 z.dur,.int .i64 z.period,.string z.per.ty,.string z.per.unit]]) (OS.full (l:=2) (hH.get (i:=0) rfl rfl) rfl) (by omega) rfl (fun c hc=>by
       simp only[List.mem_cons,List.not_mem_nil,or_false,or_self]at hc
       subst hc;rfl) (fun i c x hc hx=>by
       match i,hc,hx with
       |0,hc,hx=>cases hc;cases hx;exact hK
       |1,hc,hx=>cases hc;cases hx;exact hK
       |i+2,hc,hx=>simp at hc) (by simp)
     exact implMerge_c w3 _ _ x0.types x0.per [z,z] hL (by simp) (by simp) (fun y hy=>by
       simp only[List.mem_cons,List.not_mem_nil,or_false,or_self]at hy
       subst hy;exact hSIz) (by omega) hty60 (by simp only[List.map_cons,List.map_nil,List.sum_cons,List.sum_nil];omega) (by simp only[List.map_cons,List.map_nil,List.sum_cons,List.sum_nil];omega) (by simp only[List.map_cons,List.map_nil,List.sum_cons,List.sum_nil];omega) hzz (hT.keep (Keep.trans (hfr2.keepAll (.inr rfl)) (hf.keepAll (.inr rfl))))) fun w3 v w4 hH3 hf3 hR=>?_
   obtain ⟨⟨cz2,z2,rfl,hRz2,hZ2⟩,hq4⟩:=hR
   have hfr4:Fr 0 [] w w4:=frQ (frQ hfr2 hf3) hq4
   have hRz20:=hRz2
   obtain ⟨la2,ls2,lm2,ll2,lf2,lcm2,rfl,hla2,hls2,hlm2,hll2,hlf2,hlcm2, -⟩:=hRz2
   obtain ⟨pa2,ca2,rfl, -⟩:=hla2.open
   obtain ⟨ps2,c_s2,rfl, -⟩:=hls2.open
   obtain ⟨pm2,cm2,rfl, -⟩:=hlm2.open
   obtain ⟨pl2,cl2,rfl, -⟩:=hll2.open
   obtain ⟨pf2,cf2,rfl, -⟩:=hlf2.open
   obtain ⟨pc2,cc2,rfl, -⟩:=hlcm2.open
   have hSX2:=hZ2.sumX hzz
   have hKw4:Keep w w4:=hfr4.keepAll (.inr rfl)
   refine J.begin ⟨w4,0,[]⟩ [] ok_refl .nil ?_
   refine jM (k:=jX (k:=jX (k:=?_)))
   refine j_allocA (zs:=[(.slice none 0 0),(.string ⟨#[]⟩),(.slice none 0 0),(.slice none 0 0),(.slice none 0 0),(.slice none 0 0),(.slice none 0 0),(.string ⟨#[]⟩),(.string ⟨#[]⟩),(.int .i64 0),(.int .i64 0),(.int .i64 0),(.string ⟨#[]⟩),(.string ⟨#[]⟩)]) zv33 rfl fun b5=>jB [_,_,_,_,_,_,_,_,_,_,_,_,_,_] [_] 0 so33 (k:=jA (k:=K9 (CJ.t [(0,_),(4,_),(5,_),(6,_)] (k:=sQ fun K10=>cj_reg (jM (k:=jM (k:=?_)))))))
   refine j_gt rfl rfl (jM (k:=jT (k:=jM (k:=?_))))
   refine j_gt rfl rfl (j_valw rfl (fun a w ha hH hf=>r_ldA (vs:=[_,_,_,_,_,_,_,_,_,_,_,_,_,_]) 0 rfl rfl ag33 so33 rfl rfl rfl ha hH) (j_gt rfl rfl (j_bslice1 ru22 so33 zv33 rfl rfl rfl rfl rfl fun b31=>j_gt rfl rfl ?_)))
   refine j_callE (R:=fun w5 r w6=>SumsR x0.types.length (txA FK10 [z2]) w6 r∧Fr 0 [] w5 w6) Tryz.call8 rfl rfl (fun w5 hH hf=>by
     have hK:=RProf.keep (hf.keepAll (.inr rfl)) _ _ hRz20
     have hL:Lay RProf 14 w5 (.slice (some ⟨b31,0,none⟩) 1 1) [z2]:=lay_css (css:=[[.slice pa2 z2.types.length ca2,.string z2.deflt,.slice ps2 z2.samples.length c_s2,.slice pm2 z2.mappings.length cm2,.slice pl2 z2.locs.length cl2,.slice pf2 z2.funcs.length cf2,.slice pc2 z2.comments.length cc2,.string z2.drop,.string z2.keep,.int .i64 z2.time,.int .i64 z2.dur,.int .i64 z2.period,.string z2.per.ty,.string z2.per.unit]]) (OS.full (l:=1) (hH.get (i:=0) rfl rfl) rfl) (by omega) rfl (fun c hc=>by
       rw[List.mem_singleton.1 hc];rfl) (fun i c x hc hx=>by
       match i,hc,hx with
       |0,hc,hx=>cases hc;cases hx;exact hK
       |i+1,hc,hx=>simp at hc) (by simp)
     exact sums_c w5 _ x0.types.length [z2] hL (by simp) (fun y hy=>by rw[List.mem_singleton.1 hy];exact hSX2) hty60 (hT.keep (Keep.trans hKw4 (hf.keepAll (.inr rfl))))) fun w5 v32 w6 hH5 hf5 hR=>?_
   obtain ⟨hS1,hq6⟩:=hR
   have hfr6:Fr 0 [] w w6:=frQ (frQ hfr4 hf5) hq6
   have hKw6:Keep w w6:=hfr6.keepAll (.inr rfl)
   refine J.begin ⟨w6,0,[]⟩ [] ok_refl .nil ?_
   refine j_gt rfl rfl (j_bslice0 ru22 so33 rfl fun b33=>j_gt rfl rfl (jM (k:=?_)))
   refine j_gt rfl rfl ?_
   refine j_appV 0 rfl Own.empty ru22 el33 rfl rfl rfl hsl (fun w' hf=>hKw6.trans (Fr.keepAll hf (.inr rfl))) hscs (by omega) rfl fun y35 p35 c35 hO35=>?_
   refine j_gt rfl rfl (jM (k:=?_))
   refine j_gt rfl rfl ?_
   refine j_appV 0 rfl hO35 ru22 el33 rfl rfl rfl hsl (fun w' hf=>hKw6.trans (Fr.keepAll hf (.inr rfl))) hscs (by omega) rfl fun y37 p37 c37 hO37=>?_
   refine j_gt rfl rfl ?_
   refine j_callE (R:=fun w7 r w8=>SumsR x0.types.length (txA FK10 (xs++xs)) w8 r∧Fr 0 [] w7 w8) Tryz.call8 rfl rfl (fun w7 hH hf=>by
     have hKw7:Keep w w7:=hKw6.trans (hf.keepAll (.inr rfl))
     have hO:=hO37.os hH (i:=0) rfl
     rw[List.nil_append, ← List.flatten_append]at hO
     have hL:Lay RProf 14 w7 _ (xs++xs):=lay_css hO (by omega) (by rw[List.length_append,List.length_append,hcl]) (fun c hc=>by
       rcases List.mem_append.1 hc with hc|hc
       ·exact hc14 c hc
       ·exact hc14 c hc) (fun i c x hc hx=>by
       by_cases hi:i<xs.length
       ·rw[List.getElem?_append_left (by omega)]at hc hx
        exact RProf.keep hKw7 _ _ (hRs i c x hc hx)
       ·rw[List.getElem?_append_right (by omega)]at hc hx
        rw[hcl]at hc
        exact RProf.keep hKw7 _ _ (hRs _ c x hc hx)) (by rw[List.length_append];omega)
     exact sums_c w7 _ x0.types.length (xs++xs) hL (by rw[List.length_append];omega) (fun y hy=>by
       rcases List.mem_append.1 hy with hy|hy
       ·exact hSX y hy
       ·exact hSX y hy) hty60 (hT.keep hKw7)) fun w7 v38 w8 hH7 hf7 hR=>?_
   obtain ⟨hS2,hq8⟩:=hR
   have hS1':=hS1.keep (Keep.trans (hf7.keepAll (.inr rfl)) (hq8.keepAll (.inr rfl)))
   have hfr8:Fr 0 [] w w8:=frQ (frQ hfr6 hf7) hq8
   refine J.begin ⟨w8,0,[]⟩ [] ok_refl .nil ?_
   refine j_gt rfl rfl ?_
   refine j_callQ (φ:=fun v=>v=.bool true) Tryz.call7 rfl rfl (fun w' hH hf=>by
     have hK:Keep w8 w':=hf.keepAll (.inr rfl)
     exact sameSums_c w' _ _ x0.types.length (txA FK10 [z2]) (txA FK10 (xs++xs)) (hS1'.keep hK) (hS2.keep hK) (txJA_len fun y hy=>by rw[List.mem_singleton.1 hy];exact hSX2) (fun q=>twice hZ hZ2 hSX hSXz q) hty60) fun v hv=>?_
   subst hv
   refine jT (k:=jA (k:=K10 (CJ.t [(2,_)] (k:=cj_ret ?_))))
   first
   |exact ej_ret1 Tryz.results3 rfl fun w' hH hf=>⟨rfl,hf⟩
   |exact ej_ret1 Tryz.results3 rfl fun w' hH hf=>⟨rfl,frQ hfr8 hf⟩
end Go.Proofs.YtffghbkcomlefaaGreatDoor

namespace Go.Fw
open Go Go.Proofs.YtffghbkcomlefaaGreatDoor
variable {sz t:Nat}
section
variable {H:Type} {enc:TypeId×Value→H} {P:Program} {w:World}
def RD {α:Type} (enc:TypeId×Value→H) (P:Program) (w:World) (t:Nat) (R:World→List Value→α→Prop) (m:α→Nat):Prop:=
 ∀(fuel:Nat) (cs:List Value) (x:DataW H×List MemPlace),DataW.trod enc P w 0 (fun _=>true) true fuel t cs=some x→∃a,R w cs a∧m a≤Rows.uptoBulk x.1
theorem wf_wrap_eq {k:IntKind} {n:Int} (h:(Lit.int k n).wf=true):k.wrap n=n:=by
 cases k<;>simp[Lit.wf,IntKind.wrap,IntKind.min,IntKind.max,IntKind.signed,IntKind.bits]at h⊢ <;>omega
theorem rd_str (ht:P.underlying t=some .string):RD enc P w t RStr (fun s=>s.size+1):=fun fuel cs x h=>by
 obtain ⟨s,rfl,rfl, -⟩:=DataW.trod_string ht h
 exact ⟨s,rfl,by simp only[Rows.uptoBulk];rw[Array.length_toList];exact Nat.le_refl _⟩
theorem rd_int {k:IntKind} (ht:P.underlying t=some (.int k)):RD enc P w t (RInt k) (fun _=>0):=fun fuel cs x h=>by
 obtain ⟨n,rfl, -,hw⟩:=DataW.trod_int ht h
 exact ⟨n,⟨rfl,wf_wrap_eq hw⟩,Nat.zero_le _⟩
def RBool (_:World) (c:List Value) (x:Bool):Prop:=c=[.bool x]
theorem rd_bool (ht:P.underlying t=some .bool):RD enc P w t RBool (fun _=>0):=fun fuel cs x h=>by
 obtain ⟨b,rfl, -⟩:=DataW.trod_bool ht h
 exact ⟨b,rfl,Nat.zero_le _⟩
def RSl {α:Type} (R:World→List Value→α→Prop) (sz:Nat) (w:World) (c:List Value) (xs:List α):Prop:=∃v,c=[v]∧Lay R sz w v xs
theorem flat_inv:∀{cs:List (List Value)},(∀c∈cs,c.length=sz)→∀(j:Nat) (u:Value),cs.flatten[j]? =some u→∃(i:Nat) (c:List Value) (r:Nat),cs[i]? =some c∧c[r]? =some u∧j=i*sz+r
 |[],_,j,u,h=>by simp at h
 |a::cs,hl,j,u,h=>by
    have ha:=hl a (by simp)
    rw[List.flatten_cons]at h
    by_cases hj:j<a.length
    ·rw[List.getElem?_append_left hj]at h
     exact ⟨0,a,j,rfl,h,by simp⟩
    ·rw[List.getElem?_append_right (by omega)]at h
     obtain ⟨i,c,r,h1,h2,h3⟩:=flat_inv (fun c hc=>hl c (by simp[hc])) _ u h
     exact ⟨i+1,c,r,by simpa using h1,h2,by rw[Nat.succ_mul];omega⟩
theorem cells_get {a:Addr} {n:Nat} {c:List Value} (h:w.cells? 0 a n=some c):c.length=n∧∀(r:Nat) u,c[r]? =some u→w.cell? (a.add r)=some u:=by
 unfold World.cells? at h
 rw[if_pos (Nat.zero_le _)]at h
 have hl:c.length=n:=by simpa using mapM_some_length h
 refine ⟨hl,fun r u hu=>?_⟩
 have hr:=(List.getElem?_eq_some_iff.1 hu).1
 have:=mapM_some_get h r r (by rw[List.getElem?_range (by omega)])
 rw[this];exact hu
theorem sum_le {α:Type} {m:α→Nat}:∀{ys:List α} {es:List (DataW H×List MemPlace)},ys.length≤es.length→(∀(i:Nat) y e,ys[i]? =some y→es[i]? =some e→m y≤Rows.uptoBulk e.1)→(ys.map m).sum≤Rows.uptoBulkAll (es.map (·.1))
 |[],_,_,_=>Nat.zero_le _
 |_::_,[],h,_=>by simp at h
 |y::ys,e::es,h,hp=>by
    have h1:=sum_le (m:=m) (ys:=ys) (es:=es) (by simpa using h) fun i y' e' hy he=>hp (i+1) y' e' (by simpa using hy) (by simpa using he)
    have h2:=hp 0 y e rfl rfl
    simp only[List.map_cons,List.sum_cons,Rows.uptoBulkAll]
    omega
theorem rd_slice {α:Type} {m:α→Nat} {R:World→List Value→α→Prop} {e:Nat} (ht:P.underlying t=some (.slice e)) (hc:P.cellsOf e=sz) (hp:0<sz) (he:RD enc P w e R m):RD enc P w t (RSl R sz) (fun xs=>(xs.map m).sum):=fun fuel cs x h=>by
 rcases DataW.trod_slice ht h with ⟨rfl, -⟩|⟨a,len,cap,elems,rest,n, -,rfl,rfl, -,hlc,hcm,hel,hget, -, -⟩
 ·exact ⟨[],⟨_,rfl,[],⟨⟨none,0,rfl,Nat.le_refl _,.inl rfl⟩,by simp,Nat.zero_le _⟩,rfl,by simp,by simp⟩,Nat.zero_le _⟩
 ·have key:∀i:Fin len,∃(c:List Value) (y:α),w.cells? 0 (a.add (i.1*sz)) sz=some c∧R w c y∧∀e,elems[i.1]? =some e→m y≤Rows.uptoBulk e.1:=fun i=>by
   have h1:=hget i.1 i.2
   rw[hc,List.getElem?_eq_getElem (by omega)]at h1
   obtain ⟨c,h2,h3⟩:=Option.bind_eq_some_iff.1 h1
   obtain ⟨y,hy⟩:=he _ _ _ h3
   exact ⟨c,y,h2,hy.1,fun e he=>by
    rw[List.getElem?_eq_getElem (by omega)]at he
    cases he;exact hy.2⟩
  let fc:Fin len→List Value:=fun i=>Classical.choose (key i)
  let fy:Fin len→α:=fun i=>Classical.choose (Classical.choose_spec (key i))
  have hk:∀i:Fin len,w.cells? 0 (a.add (i.1*sz)) sz=some (fc i)∧R w (fc i) (fy i)∧∀e,elems[i.1]? =some e→m (fy i)≤Rows.uptoBulk e.1:=fun i=>Classical.choose_spec (Classical.choose_spec (key i))
  have hlen:∀c∈List.ofFn fc,c.length=sz:=fun c hcm=>by
   obtain ⟨i,hi⟩:=List.mem_iff_getElem?.1 hcm
   have hlt:=(List.getElem?_eq_some_iff.1 hi).1
   simp at hlt
   rw[List.getElem?_ofFn,dif_pos hlt]at hi
   cases hi
   exact (cells_get (hk ⟨i,hlt⟩).1).1
  refine ⟨List.ofFn fy,⟨_,rfl,List.ofFn fc,⟨⟨some a,cap,by simp,by simpa using hlc,?_⟩,?_,?_⟩,by simp,hlen,?_⟩,?_⟩
  rotate_left 4
  ·have h1:=sum_le (m:=m) (ys:=List.ofFn fy) (es:=elems) (by simp;omega) fun i y e hy he=>by
    have hlt:=(List.getElem?_eq_some_iff.1 hy).1
    simp at hlt
    rw[List.getElem?_ofFn,dif_pos hlt]at hy
    cases hy
    exact (hk ⟨i,hlt⟩).2.2 e he
   simp only[Rows.uptoBulk]
   omega
  ·by_cases h0:len=0
   ·exact .inl (by simpa using h0)
   ·right
    have hs:a.spot=none:=by
     have h1:=(cells_get (hk ⟨0,by omega⟩).1)
     have h2:0<(fc ⟨0,by omega⟩).length:=by rw[h1.1];exact hp
     have h3:=h1.2 0 _ (List.getElem?_eq_getElem h2)
     have h4:=World.cell?_spot h3
     simpa[Addr.add]using h4
    obtain ⟨b,off,spot⟩:=a
    simp at hs
    subst hs
    refine ⟨b,off,rfl,fun j u hj=>?_⟩
    obtain ⟨i,c,r,h1,h2,rfl⟩:=flat_inv hlen j u hj
    have hlt:=(List.getElem?_eq_some_iff.1 h1).1
    simp at hlt
    rw[List.getElem?_ofFn,dif_pos hlt]at h1
    cases h1
    have h3:=(cells_get (hk ⟨i,hlt⟩).1).2 r u h2
    have h4:(Addr.add ⟨b,off,none⟩ (i*sz)).add r=⟨b,off+(i*sz+r),none⟩:=by
     unfold Addr.add
     by_cases q1:i*sz=0<;>by_cases q2:r=0<;>simp[q1,q2,Nat.add_assoc]
    rw[h4]at h3
    exact h3
  ·have:∀{l:List (List Value)},(∀c∈l,c.length=sz)→l.flatten.length=l.length*sz:=by
    intro l
    induction l with
    |nil=>intro _;simp
    |cons a r ih=>intro h;rw[List.flatten_cons,List.length_append,h a (by simp),ih (fun c hc=>h c (by simp[hc])),List.length_cons,Nat.succ_mul];omega
   rw[this hlen];simp
  ·have:(List.ofFn fy).length=len:=by simp
   rw[this]
   have:maxLen=9223372036854775807:=by decide
   omega
  ·intro i c y h1 h2
   have hlt:=(List.getElem?_eq_some_iff.1 h1).1
   simp at hlt
   rw[List.getElem?_ofFn,dif_pos hlt]at h1 h2
   cases h1;cases h2
   exact (hk ⟨i,hlt⟩).2.1
end
end Go.Fw
namespace Go.Proofs.YtffghbkcomlefaaGreatDoor
open Go Go.Fw Go.Proofs
section
variable {H:Type} {enc:TypeId×Value→H} {w:World}
theorem cellsOf9:Tryz.prog.cellsOf 9=1:=by kernel_rfl
theorem cellsOf3:Tryz.prog.cellsOf 3=1:=by kernel_rfl
theorem cellsOf2:Tryz.prog.cellsOf 2=1:=by kernel_rfl
theorem cellsOf76:Tryz.prog.cellsOf 76=1:=by kernel_rfl
theorem cellsOf4:Tryz.prog.cellsOf 4=1:=by kernel_rfl
theorem cellsOf31:Tryz.prog.cellsOf 31=2:=by kernel_rfl
theorem cellsOf130:Tryz.prog.cellsOf 130=2:=by kernel_rfl
theorem cellsOf133:Tryz.prog.cellsOf 133=2:=by kernel_rfl
theorem cellsOf55:Tryz.prog.cellsOf 55=4:=by kernel_rfl
theorem cellsOf78:Tryz.prog.cellsOf 78=10:=by kernel_rfl
theorem cellsOf95:Tryz.prog.cellsOf 95=2:=by kernel_rfl
theorem cellsOf89:Tryz.prog.cellsOf 89=4:=by kernel_rfl
theorem cellsOf83:Tryz.prog.cellsOf 83=5:=by kernel_rfl
theorem cellsOf33:Tryz.prog.cellsOf 33=14:=by kernel_rfl
theorem cellsOf29:Tryz.prog.cellsOf 29=1:=by kernel_rfl
theorem cellsOf49:Tryz.prog.cellsOf 49=1:=by kernel_rfl
theorem cellsOf51:Tryz.prog.cellsOf 51=1:=by kernel_rfl
theorem cellsOf24:Tryz.prog.cellsOf 24=1:=by kernel_rfl
theorem cellsOf25:Tryz.prog.cellsOf 25=1:=by kernel_rfl
theorem cellsOf26:Tryz.prog.cellsOf 26=1:=by kernel_rfl
theorem cellsOf27:Tryz.prog.cellsOf 27=1:=by kernel_rfl
theorem cellsOf28:Tryz.prog.cellsOf 28=1:=by kernel_rfl
theorem cellsOf52:Tryz.prog.cellsOf 52=1:=by kernel_rfl
theorem cellsOf53:Tryz.prog.cellsOf 53=1:=by kernel_rfl
theorem cellsOf87:Tryz.prog.cellsOf 87=1:=by kernel_rfl
def mS (s:ByteArray):Nat:=s.size+1
def mTy (t:PType):Nat:=(t.ty.size+1)+(t.unit.size+1)
def mTx (t:PTexts):Nat:=(t.key.size+1)+(t.list.map fun s=>s.size+1).sum
def mNu (t:PNums):Nat:=t.key.size+1
def mSm (s:PSample):Nat:=(s.texts.map mTx).sum+(s.nums.map mNu).sum
def mMp (m:PMapping):Nat:=(m.file.size+1)+(m.build.size+1)
def mLn (_:PLine):Nat:=0
def mLc (_:PLoc):Nat:=0
def mFn (f:PFunc):Nat:=(f.name.size+1)+((f.system.size+1)+(f.file.size+1))
def mPf (x:PProf):Nat:=(x.types.map mTy).sum+((x.samples.map mSm).sum+((x.mappings.map mMp).sum+((x.funcs.map mFn).sum+((x.drop.size+1)+((x.keep.size+1)+(mTy x.per+((x.deflt.size+1)+(x.comments.map fun s=>s.size+1).sum)))))))
theorem rd_Type:RD enc Tryz.prog w 31 RType mTy:=fun fuel cs x h=>by
 obtain ⟨xs,n, -,rfl,hlen,hxl,hf⟩:=DataW.trod_struct ud31 h
 rw[cellsOf31]at hlen
 replace hxl:xs.length=2:=hxl
 obtain ⟨y0,y1,rfl⟩:∃y0 y1,xs=[y0,y1]:=by
  clear hf h
  rcases xs with _|⟨y0,xs⟩
  ·simp at hxl
  rcases xs with _|⟨y1,xs⟩
  ·simp at hxl
  rcases xs with _|⟨y,xs⟩
  ·exact ⟨_,_,rfl⟩
  ·simp at hxl
 have t0:=hf 0 _ rfl
 obtain ⟨a0,r0,q0⟩:=(rd_str ud9) _ _ y0 t0
 have g0:RStr w ((cs.drop 0).take (Tryz.prog.cellsOf 9)) a0:=r0
 rw[cellsOf9]at g0
 clear t0 r0
 have t1:=hf 1 _ rfl
 obtain ⟨a1,r1,q1⟩:=(rd_str ud9) _ _ y1 t1
 have g1:RStr w ((cs.drop 1).take (Tryz.prog.cellsOf 9)) a1:=r1
 rw[cellsOf9]at g1
 clear t1 r1
 clear hf
 have hq:Rows.uptoBulk y0.1+(Rows.uptoBulk y1.1+0)+1≤Rows.uptoBulk (.agg ([y0,y1].map (·.1))):=by simp only[Rows.uptoBulk,Rows.uptoBulkAll,List.map_cons,List.map_nil];omega
 obtain ⟨c0,c1,rfl⟩:∃c0 c1,cs=[c0,c1]:=by
  clear h g0 g1
  rcases cs with _|⟨c0,cs⟩
  ·simp at hlen
  rcases cs with _|⟨c1,cs⟩
  ·simp at hlen
  rcases cs with _|⟨c,cs⟩
  ·exact ⟨_,_,rfl⟩
  ·simp at hlen
 have h0:RStr w [c0] a0:=g0
 have h1:RStr w [c1] a1:=g1
 have e0:=h0
 obtain rfl:=(List.cons.inj e0).1
 have e1:=h1
 obtain rfl:=(List.cons.inj e1).1
 have p0:a0.size+1≤Rows.uptoBulk y0.1:=q0
 have p1:a1.size+1≤Rows.uptoBulk y1.1:=q1
 refine ⟨⟨a0,a1⟩,rfl,?_⟩
 refine Nat.le_trans ?_ hq
 simp only[mTy];omega
theorem rd_Texts:RD enc Tryz.prog w 130 RTexts mTx:=fun fuel cs x h=>by
 obtain ⟨xs,n, -,rfl,hlen,hxl,hf⟩:=DataW.trod_struct ud130 h
 rw[cellsOf130]at hlen
 replace hxl:xs.length=2:=hxl
 obtain ⟨y0,y1,rfl⟩:∃y0 y1,xs=[y0,y1]:=by
  clear hf h
  rcases xs with _|⟨y0,xs⟩
  ·simp at hxl
  rcases xs with _|⟨y1,xs⟩
  ·simp at hxl
  rcases xs with _|⟨y,xs⟩
  ·exact ⟨_,_,rfl⟩
  ·simp at hxl
 have t0:=hf 0 _ rfl
 obtain ⟨a0,r0,q0⟩:=(rd_str ud9) _ _ y0 t0
 have g0:RStr w ((cs.drop 0).take (Tryz.prog.cellsOf 9)) a0:=r0
 rw[cellsOf9]at g0
 clear t0 r0
 have t1:=hf 1 _ rfl
 obtain ⟨a1,r1,q1⟩:=(rd_slice ud29 cellsOf9 (by decide) (rd_str ud9)) _ _ y1 t1
 have g1:(RSl RStr 1) w ((cs.drop 1).take (Tryz.prog.cellsOf 29)) a1:=r1
 rw[cellsOf29]at g1
 clear t1 r1
 clear hf
 have hq:Rows.uptoBulk y0.1+(Rows.uptoBulk y1.1+0)+1≤Rows.uptoBulk (.agg ([y0,y1].map (·.1))):=by simp only[Rows.uptoBulk,Rows.uptoBulkAll,List.map_cons,List.map_nil];omega
 obtain ⟨c0,c1,rfl⟩:∃c0 c1,cs=[c0,c1]:=by
  clear h g0 g1
  rcases cs with _|⟨c0,cs⟩
  ·simp at hlen
  rcases cs with _|⟨c1,cs⟩
  ·simp at hlen
  rcases cs with _|⟨c,cs⟩
  ·exact ⟨_,_,rfl⟩
  ·simp at hlen
 have h0:RStr w [c0] a0:=g0
 have h1:(RSl RStr 1) w [c1] a1:=g1
 have e0:=h0
 obtain rfl:=(List.cons.inj e0).1
 obtain ⟨v1,e1,h1⟩:=h1
 obtain rfl:=(List.cons.inj e1).1
 have p0:a0.size+1≤Rows.uptoBulk y0.1:=q0
 have p1:(a1.map (fun s:ByteArray=>s.size+1)).sum≤Rows.uptoBulk y1.1:=q1
 refine ⟨⟨a0,a1⟩,⟨_,rfl,h1⟩,?_⟩
 refine Nat.le_trans ?_ hq
 simp only[mTx];omega
theorem rd_Numbers:RD enc Tryz.prog w 133 RNums mNu:=fun fuel cs x h=>by
 obtain ⟨xs,n, -,rfl,hlen,hxl,hf⟩:=DataW.trod_struct ud133 h
 rw[cellsOf133]at hlen
 replace hxl:xs.length=2:=hxl
 obtain ⟨y0,y1,rfl⟩:∃y0 y1,xs=[y0,y1]:=by
  clear hf h
  rcases xs with _|⟨y0,xs⟩
  ·simp at hxl
  rcases xs with _|⟨y1,xs⟩
  ·simp at hxl
  rcases xs with _|⟨y,xs⟩
  ·exact ⟨_,_,rfl⟩
  ·simp at hxl
 have t0:=hf 0 _ rfl
 obtain ⟨a0,r0,q0⟩:=(rd_str ud9) _ _ y0 t0
 have g0:RStr w ((cs.drop 0).take (Tryz.prog.cellsOf 9)) a0:=r0
 rw[cellsOf9]at g0
 clear t0 r0
 have t1:=hf 1 _ rfl
 obtain ⟨a1,r1,q1⟩:=(rd_slice ud49 cellsOf2 (by decide) (rd_int ud2)) _ _ y1 t1
 have g1:(RSl (RInt .i64) 1) w ((cs.drop 1).take (Tryz.prog.cellsOf 49)) a1:=r1
 rw[cellsOf49]at g1
 clear t1 r1
 clear hf
 have hq:Rows.uptoBulk y0.1+(Rows.uptoBulk y1.1+0)+1≤Rows.uptoBulk (.agg ([y0,y1].map (·.1))):=by simp only[Rows.uptoBulk,Rows.uptoBulkAll,List.map_cons,List.map_nil];omega
 obtain ⟨c0,c1,rfl⟩:∃c0 c1,cs=[c0,c1]:=by
  clear h g0 g1
  rcases cs with _|⟨c0,cs⟩
  ·simp at hlen
  rcases cs with _|⟨c1,cs⟩
  ·simp at hlen
  rcases cs with _|⟨c,cs⟩
  ·exact ⟨_,_,rfl⟩
  ·simp at hlen
 have h0:RStr w [c0] a0:=g0
 have h1:(RSl (RInt .i64) 1) w [c1] a1:=g1
 have e0:=h0
 obtain rfl:=(List.cons.inj e0).1
 obtain ⟨v1,e1,h1⟩:=h1
 obtain rfl:=(List.cons.inj e1).1
 have p0:a0.size+1≤Rows.uptoBulk y0.1:=q0
 have p1:(a1.map (fun _:Int=>0)).sum≤Rows.uptoBulk y1.1:=q1
 refine ⟨⟨a0,a1⟩,⟨_,rfl,h1⟩,?_⟩
 refine Nat.le_trans ?_ hq
 simp only[mNu];omega
theorem rd_Sample:RD enc Tryz.prog w 55 RSample mSm:=fun fuel cs x h=>by
 obtain ⟨xs,n, -,rfl,hlen,hxl,hf⟩:=DataW.trod_struct ud55 h
 rw[cellsOf55]at hlen
 replace hxl:xs.length=4:=hxl
 obtain ⟨y0,y1,y2,y3,rfl⟩:∃y0 y1 y2 y3,xs=[y0,y1,y2,y3]:=by
  clear hf h
  rcases xs with _|⟨y0,xs⟩
  ·simp at hxl
  rcases xs with _|⟨y1,xs⟩
  ·simp at hxl
  rcases xs with _|⟨y2,xs⟩
  ·simp at hxl
  rcases xs with _|⟨y3,xs⟩
  ·simp at hxl
  rcases xs with _|⟨y,xs⟩
  ·exact ⟨_,_,_,_,rfl⟩
  ·simp at hxl
 have t0:=hf 0 _ rfl
 obtain ⟨a0,r0,q0⟩:=(rd_slice ud51 cellsOf3 (by decide) (rd_int ud3)) _ _ y0 t0
 have g0:(RSl (RInt .i64) 1) w ((cs.drop 0).take (Tryz.prog.cellsOf 51)) a0:=r0
 rw[cellsOf51]at g0
 clear t0 r0
 have t1:=hf 1 _ rfl
 obtain ⟨a1,r1,q1⟩:=(rd_slice ud49 cellsOf2 (by decide) (rd_int ud2)) _ _ y1 t1
 have g1:(RSl (RInt .i64) 1) w ((cs.drop 1).take (Tryz.prog.cellsOf 49)) a1:=r1
 rw[cellsOf49]at g1
 clear t1 r1
 have t2:=hf 2 _ rfl
 obtain ⟨a2,r2,q2⟩:=(rd_slice ud52 cellsOf130 (by decide) rd_Texts) _ _ y2 t2
 have g2:(RSl RTexts 2) w ((cs.drop 2).take (Tryz.prog.cellsOf 52)) a2:=r2
 rw[cellsOf52]at g2
 clear t2 r2
 have t3:=hf 3 _ rfl
 obtain ⟨a3,r3,q3⟩:=(rd_slice ud53 cellsOf133 (by decide) rd_Numbers) _ _ y3 t3
 have g3:(RSl RNums 2) w ((cs.drop 3).take (Tryz.prog.cellsOf 53)) a3:=r3
 rw[cellsOf53]at g3
 clear t3 r3
 clear hf
 have hq:Rows.uptoBulk y0.1+(Rows.uptoBulk y1.1+(Rows.uptoBulk y2.1+(Rows.uptoBulk y3.1+0)))+1≤Rows.uptoBulk (.agg ([y0,y1,y2,y3].map (·.1))):=by simp only[Rows.uptoBulk,Rows.uptoBulkAll,List.map_cons,List.map_nil];omega
 obtain ⟨c0,c1,c2,c3,rfl⟩:∃c0 c1 c2 c3,cs=[c0,c1,c2,c3]:=by
  clear h g0 g1 g2 g3
  rcases cs with _|⟨c0,cs⟩
  ·simp at hlen
  rcases cs with _|⟨c1,cs⟩
  ·simp at hlen
  rcases cs with _|⟨c2,cs⟩
  ·simp at hlen
  rcases cs with _|⟨c3,cs⟩
  ·simp at hlen
  rcases cs with _|⟨c,cs⟩
  ·exact ⟨_,_,_,_,rfl⟩
  ·simp at hlen
 have h0:(RSl (RInt .i64) 1) w [c0] a0:=g0
 have h1:(RSl (RInt .i64) 1) w [c1] a1:=g1
 have h2:(RSl RTexts 2) w [c2] a2:=g2
 have h3:(RSl RNums 2) w [c3] a3:=g3
 obtain ⟨v0,e0,h0⟩:=h0
 obtain rfl:=(List.cons.inj e0).1
 obtain ⟨v1,e1,h1⟩:=h1
 obtain rfl:=(List.cons.inj e1).1
 obtain ⟨v2,e2,h2⟩:=h2
 obtain rfl:=(List.cons.inj e2).1
 obtain ⟨v3,e3,h3⟩:=h3
 obtain rfl:=(List.cons.inj e3).1
 have p0:(a0.map (fun _:Int=>0)).sum≤Rows.uptoBulk y0.1:=q0
 have p1:(a1.map (fun _:Int=>0)).sum≤Rows.uptoBulk y1.1:=q1
 have p2:(a2.map mTx).sum≤Rows.uptoBulk y2.1:=q2
 have p3:(a3.map mNu).sum≤Rows.uptoBulk y3.1:=q3
 refine ⟨⟨a0,a1,a2,a3⟩,⟨_,_,_,_,rfl,h0,h1,h2,h3⟩,?_⟩
 refine Nat.le_trans ?_ hq
 simp only[mSm];omega
theorem rd_Mapping:RD enc Tryz.prog w 78 RMapping mMp:=fun fuel cs x h=>by
 obtain ⟨xs,n, -,rfl,hlen,hxl,hf⟩:=DataW.trod_struct ud78 h
 rw[cellsOf78]at hlen
 replace hxl:xs.length=10:=hxl
 obtain ⟨y0,y1,y2,y3,y4,y5,y6,y7,y8,y9,rfl⟩:∃y0 y1 y2 y3 y4 y5 y6 y7 y8 y9,xs=[y0,y1,y2,y3,y4,y5,y6,y7,y8,y9]:=by
  clear hf h
  rcases xs with _|⟨y0,xs⟩
  ·simp at hxl
  rcases xs with _|⟨y1,xs⟩
  ·simp at hxl
  rcases xs with _|⟨y2,xs⟩
  ·simp at hxl
  rcases xs with _|⟨y3,xs⟩
  ·simp at hxl
  rcases xs with _|⟨y4,xs⟩
  ·simp at hxl
  rcases xs with _|⟨y5,xs⟩
  ·simp at hxl
  rcases xs with _|⟨y6,xs⟩
  ·simp at hxl
  rcases xs with _|⟨y7,xs⟩
  ·simp at hxl
  rcases xs with _|⟨y8,xs⟩
  ·simp at hxl
  rcases xs with _|⟨y9,xs⟩
  ·simp at hxl
  rcases xs with _|⟨y,xs⟩
  ·exact ⟨_,_,_,_,_,_,_,_,_,_,rfl⟩
  ·simp at hxl
 have t0:=hf 0 _ rfl
 obtain ⟨a0,r0,q0⟩:=(rd_int ud76) _ _ y0 t0
 have g0:(RInt .u64) w ((cs.drop 0).take (Tryz.prog.cellsOf 76)) a0:=r0
 rw[cellsOf76]at g0
 clear t0 r0
 have t1:=hf 1 _ rfl
 obtain ⟨a1,r1,q1⟩:=(rd_int ud76) _ _ y1 t1
 have g1:(RInt .u64) w ((cs.drop 1).take (Tryz.prog.cellsOf 76)) a1:=r1
 rw[cellsOf76]at g1
 clear t1 r1
 have t2:=hf 2 _ rfl
 obtain ⟨a2,r2,q2⟩:=(rd_int ud76) _ _ y2 t2
 have g2:(RInt .u64) w ((cs.drop 2).take (Tryz.prog.cellsOf 76)) a2:=r2
 rw[cellsOf76]at g2
 clear t2 r2
 have t3:=hf 3 _ rfl
 obtain ⟨a3,r3,q3⟩:=(rd_int ud76) _ _ y3 t3
 have g3:(RInt .u64) w ((cs.drop 3).take (Tryz.prog.cellsOf 76)) a3:=r3
 rw[cellsOf76]at g3
 clear t3 r3
 have t4:=hf 4 _ rfl
 obtain ⟨a4,r4,q4⟩:=(rd_str ud9) _ _ y4 t4
 have g4:RStr w ((cs.drop 4).take (Tryz.prog.cellsOf 9)) a4:=r4
 rw[cellsOf9]at g4
 clear t4 r4
 have t5:=hf 5 _ rfl
 obtain ⟨a5,r5,q5⟩:=(rd_str ud9) _ _ y5 t5
 have g5:RStr w ((cs.drop 5).take (Tryz.prog.cellsOf 9)) a5:=r5
 rw[cellsOf9]at g5
 clear t5 r5
 have t6:=hf 6 _ rfl
 obtain ⟨a6,r6,q6⟩:=(rd_bool ud4) _ _ y6 t6
 have g6:RBool w ((cs.drop 6).take (Tryz.prog.cellsOf 4)) a6:=r6
 rw[cellsOf4]at g6
 clear t6 r6
 have t7:=hf 7 _ rfl
 obtain ⟨a7,r7,q7⟩:=(rd_bool ud4) _ _ y7 t7
 have g7:RBool w ((cs.drop 7).take (Tryz.prog.cellsOf 4)) a7:=r7
 rw[cellsOf4]at g7
 clear t7 r7
 have t8:=hf 8 _ rfl
 obtain ⟨a8,r8,q8⟩:=(rd_bool ud4) _ _ y8 t8
 have g8:RBool w ((cs.drop 8).take (Tryz.prog.cellsOf 4)) a8:=r8
 rw[cellsOf4]at g8
 clear t8 r8
 have t9:=hf 9 _ rfl
 obtain ⟨a9,r9,q9⟩:=(rd_bool ud4) _ _ y9 t9
 have g9:RBool w ((cs.drop 9).take (Tryz.prog.cellsOf 4)) a9:=r9
 rw[cellsOf4]at g9
 clear t9 r9
 clear hf
 have hq:Rows.uptoBulk y0.1+(Rows.uptoBulk y1.1+(Rows.uptoBulk y2.1+(Rows.uptoBulk y3.1+(Rows.uptoBulk y4.1+(Rows.uptoBulk y5.1+(Rows.uptoBulk y6.1+(Rows.uptoBulk y7.1+(Rows.uptoBulk y8.1+(Rows.uptoBulk y9.1+0)))))))))+1≤Rows.uptoBulk (.agg ([y0,y1,y2,y3,y4,y5,y6,y7,y8,y9].map (·.1))):=by simp only[Rows.uptoBulk,Rows.uptoBulkAll,List.map_cons,List.map_nil];omega
 obtain ⟨c0,c1,c2,c3,c4,c5,c6,c7,c8,c9,rfl⟩:∃c0 c1 c2 c3 c4 c5 c6 c7 c8 c9,cs=[c0,c1,c2,c3,c4,c5,c6,c7,c8,c9]:=by
  clear h g0 g1 g2 g3 g4 g5 g6 g7 g8 g9
  rcases cs with _|⟨c0,cs⟩
  ·simp at hlen
  rcases cs with _|⟨c1,cs⟩
  ·simp at hlen
  rcases cs with _|⟨c2,cs⟩
  ·simp at hlen
  rcases cs with _|⟨c3,cs⟩
  ·simp at hlen
  rcases cs with _|⟨c4,cs⟩
  ·simp at hlen
  rcases cs with _|⟨c5,cs⟩
  ·simp at hlen
  rcases cs with _|⟨c6,cs⟩
  ·simp at hlen
  rcases cs with _|⟨c7,cs⟩
  ·simp at hlen
  rcases cs with _|⟨c8,cs⟩
  ·simp at hlen
  rcases cs with _|⟨c9,cs⟩
  ·simp at hlen
  rcases cs with _|⟨c,cs⟩
  ·exact ⟨_,_,_,_,_,_,_,_,_,_,rfl⟩
  ·simp at hlen
 have h0:(RInt .u64) w [c0] a0:=g0
 have h1:(RInt .u64) w [c1] a1:=g1
 have h2:(RInt .u64) w [c2] a2:=g2
 have h3:(RInt .u64) w [c3] a3:=g3
 have h4:RStr w [c4] a4:=g4
 have h5:RStr w [c5] a5:=g5
 have h6:RBool w [c6] a6:=g6
 have h7:RBool w [c7] a7:=g7
 have h8:RBool w [c8] a8:=g8
 have h9:RBool w [c9] a9:=g9
 obtain ⟨e0,h0⟩:=h0
 obtain rfl:=(List.cons.inj e0).1
 obtain ⟨e1,h1⟩:=h1
 obtain rfl:=(List.cons.inj e1).1
 obtain ⟨e2,h2⟩:=h2
 obtain rfl:=(List.cons.inj e2).1
 obtain ⟨e3,h3⟩:=h3
 obtain rfl:=(List.cons.inj e3).1
 have e4:=h4
 obtain rfl:=(List.cons.inj e4).1
 have e5:=h5
 obtain rfl:=(List.cons.inj e5).1
 have e6:=h6
 obtain rfl:=(List.cons.inj e6).1
 have e7:=h7
 obtain rfl:=(List.cons.inj e7).1
 have e8:=h8
 obtain rfl:=(List.cons.inj e8).1
 have e9:=h9
 obtain rfl:=(List.cons.inj e9).1
 have p0:0≤Rows.uptoBulk y0.1:=q0
 have p1:0≤Rows.uptoBulk y1.1:=q1
 have p2:0≤Rows.uptoBulk y2.1:=q2
 have p3:0≤Rows.uptoBulk y3.1:=q3
 have p4:a4.size+1≤Rows.uptoBulk y4.1:=q4
 have p5:a5.size+1≤Rows.uptoBulk y5.1:=q5
 have p6:0≤Rows.uptoBulk y6.1:=q6
 have p7:0≤Rows.uptoBulk y7.1:=q7
 have p8:0≤Rows.uptoBulk y8.1:=q8
 have p9:0≤Rows.uptoBulk y9.1:=q9
 refine ⟨⟨a0,a1,a2,a3,a4,a5,a6,a7,a8,a9⟩,⟨rfl,h0,h1,h2,h3⟩,?_⟩
 refine Nat.le_trans ?_ hq
 simp only[mMp];omega
theorem rd_Line:RD enc Tryz.prog w 95 RLine mLn:=fun fuel cs x h=>by
 obtain ⟨xs,n, -,rfl,hlen,hxl,hf⟩:=DataW.trod_struct ud95 h
 rw[cellsOf95]at hlen
 replace hxl:xs.length=2:=hxl
 obtain ⟨y0,y1,rfl⟩:∃y0 y1,xs=[y0,y1]:=by
  clear hf h
  rcases xs with _|⟨y0,xs⟩
  ·simp at hxl
  rcases xs with _|⟨y1,xs⟩
  ·simp at hxl
  rcases xs with _|⟨y,xs⟩
  ·exact ⟨_,_,rfl⟩
  ·simp at hxl
 have t0:=hf 0 _ rfl
 obtain ⟨a0,r0,q0⟩:=(rd_int ud3) _ _ y0 t0
 have g0:(RInt .i64) w ((cs.drop 0).take (Tryz.prog.cellsOf 3)) a0:=r0
 rw[cellsOf3]at g0
 clear t0 r0
 have t1:=hf 1 _ rfl
 obtain ⟨a1,r1,q1⟩:=(rd_int ud2) _ _ y1 t1
 have g1:(RInt .i64) w ((cs.drop 1).take (Tryz.prog.cellsOf 2)) a1:=r1
 rw[cellsOf2]at g1
 clear t1 r1
 clear hf
 have hq:Rows.uptoBulk y0.1+(Rows.uptoBulk y1.1+0)+1≤Rows.uptoBulk (.agg ([y0,y1].map (·.1))):=by simp only[Rows.uptoBulk,Rows.uptoBulkAll,List.map_cons,List.map_nil];omega
 obtain ⟨c0,c1,rfl⟩:∃c0 c1,cs=[c0,c1]:=by
  clear h g0 g1
  rcases cs with _|⟨c0,cs⟩
  ·simp at hlen
  rcases cs with _|⟨c1,cs⟩
  ·simp at hlen
  rcases cs with _|⟨c,cs⟩
  ·exact ⟨_,_,rfl⟩
  ·simp at hlen
 have h0:(RInt .i64) w [c0] a0:=g0
 have h1:(RInt .i64) w [c1] a1:=g1
 obtain ⟨e0,h0⟩:=h0
 obtain rfl:=(List.cons.inj e0).1
 obtain ⟨e1,h1⟩:=h1
 obtain rfl:=(List.cons.inj e1).1
 have p0:0≤Rows.uptoBulk y0.1:=q0
 have p1:0≤Rows.uptoBulk y1.1:=q1
 refine ⟨⟨a0,a1⟩,⟨rfl,h0,h1⟩,?_⟩
 refine Nat.le_trans ?_ hq
 simp only[mLn];omega
theorem rd_Location:RD enc Tryz.prog w 89 RLoc mLc:=fun fuel cs x h=>by
 obtain ⟨xs,n, -,rfl,hlen,hxl,hf⟩:=DataW.trod_struct ud89 h
 rw[cellsOf89]at hlen
 replace hxl:xs.length=4:=hxl
 obtain ⟨y0,y1,y2,y3,rfl⟩:∃y0 y1 y2 y3,xs=[y0,y1,y2,y3]:=by
  clear hf h
  rcases xs with _|⟨y0,xs⟩
  ·simp at hxl
  rcases xs with _|⟨y1,xs⟩
  ·simp at hxl
  rcases xs with _|⟨y2,xs⟩
  ·simp at hxl
  rcases xs with _|⟨y3,xs⟩
  ·simp at hxl
  rcases xs with _|⟨y,xs⟩
  ·exact ⟨_,_,_,_,rfl⟩
  ·simp at hxl
 have t0:=hf 0 _ rfl
 obtain ⟨a0,r0,q0⟩:=(rd_int ud76) _ _ y0 t0
 have g0:(RInt .u64) w ((cs.drop 0).take (Tryz.prog.cellsOf 76)) a0:=r0
 rw[cellsOf76]at g0
 clear t0 r0
 have t1:=hf 1 _ rfl
 obtain ⟨a1,r1,q1⟩:=(rd_int ud3) _ _ y1 t1
 have g1:(RInt .i64) w ((cs.drop 1).take (Tryz.prog.cellsOf 3)) a1:=r1
 rw[cellsOf3]at g1
 clear t1 r1
 have t2:=hf 2 _ rfl
 obtain ⟨a2,r2,q2⟩:=(rd_int ud76) _ _ y2 t2
 have g2:(RInt .u64) w ((cs.drop 2).take (Tryz.prog.cellsOf 76)) a2:=r2
 rw[cellsOf76]at g2
 clear t2 r2
 have t3:=hf 3 _ rfl
 obtain ⟨a3,r3,q3⟩:=(rd_slice ud87 cellsOf95 (by decide) rd_Line) _ _ y3 t3
 have g3:(RSl RLine 2) w ((cs.drop 3).take (Tryz.prog.cellsOf 87)) a3:=r3
 rw[cellsOf87]at g3
 clear t3 r3
 clear hf
 have hq:Rows.uptoBulk y0.1+(Rows.uptoBulk y1.1+(Rows.uptoBulk y2.1+(Rows.uptoBulk y3.1+0)))+1≤Rows.uptoBulk (.agg ([y0,y1,y2,y3].map (·.1))):=by simp only[Rows.uptoBulk,Rows.uptoBulkAll,List.map_cons,List.map_nil];omega
 obtain ⟨c0,c1,c2,c3,rfl⟩:∃c0 c1 c2 c3,cs=[c0,c1,c2,c3]:=by
  clear h g0 g1 g2 g3
  rcases cs with _|⟨c0,cs⟩
  ·simp at hlen
  rcases cs with _|⟨c1,cs⟩
  ·simp at hlen
  rcases cs with _|⟨c2,cs⟩
  ·simp at hlen
  rcases cs with _|⟨c3,cs⟩
  ·simp at hlen
  rcases cs with _|⟨c,cs⟩
  ·exact ⟨_,_,_,_,rfl⟩
  ·simp at hlen
 have h0:(RInt .u64) w [c0] a0:=g0
 have h1:(RInt .i64) w [c1] a1:=g1
 have h2:(RInt .u64) w [c2] a2:=g2
 have h3:(RSl RLine 2) w [c3] a3:=g3
 obtain ⟨e0,h0⟩:=h0
 obtain rfl:=(List.cons.inj e0).1
 obtain ⟨e1,h1⟩:=h1
 obtain rfl:=(List.cons.inj e1).1
 obtain ⟨e2,h2⟩:=h2
 obtain rfl:=(List.cons.inj e2).1
 obtain ⟨v3,e3,h3⟩:=h3
 obtain rfl:=(List.cons.inj e3).1
 have p0:0≤Rows.uptoBulk y0.1:=q0
 have p1:0≤Rows.uptoBulk y1.1:=q1
 have p2:0≤Rows.uptoBulk y2.1:=q2
 have p3:(a3.map mLn).sum≤Rows.uptoBulk y3.1:=q3
 refine ⟨⟨a0,a1,a2,a3⟩,⟨_,rfl,h0,h1,h2,h3⟩,?_⟩
 refine Nat.le_trans ?_ hq
 simp only[mLc];omega
theorem rd_Func:RD enc Tryz.prog w 83 RFunc mFn:=fun fuel cs x h=>by
 obtain ⟨xs,n, -,rfl,hlen,hxl,hf⟩:=DataW.trod_struct ud83 h
 rw[cellsOf83]at hlen
 replace hxl:xs.length=5:=hxl
 obtain ⟨y0,y1,y2,y3,y4,rfl⟩:∃y0 y1 y2 y3 y4,xs=[y0,y1,y2,y3,y4]:=by
  clear hf h
  rcases xs with _|⟨y0,xs⟩
  ·simp at hxl
  rcases xs with _|⟨y1,xs⟩
  ·simp at hxl
  rcases xs with _|⟨y2,xs⟩
  ·simp at hxl
  rcases xs with _|⟨y3,xs⟩
  ·simp at hxl
  rcases xs with _|⟨y4,xs⟩
  ·simp at hxl
  rcases xs with _|⟨y,xs⟩
  ·exact ⟨_,_,_,_,_,rfl⟩
  ·simp at hxl
 have t0:=hf 0 _ rfl
 obtain ⟨a0,r0,q0⟩:=(rd_int ud76) _ _ y0 t0
 have g0:(RInt .u64) w ((cs.drop 0).take (Tryz.prog.cellsOf 76)) a0:=r0
 rw[cellsOf76]at g0
 clear t0 r0
 have t1:=hf 1 _ rfl
 obtain ⟨a1,r1,q1⟩:=(rd_str ud9) _ _ y1 t1
 have g1:RStr w ((cs.drop 1).take (Tryz.prog.cellsOf 9)) a1:=r1
 rw[cellsOf9]at g1
 clear t1 r1
 have t2:=hf 2 _ rfl
 obtain ⟨a2,r2,q2⟩:=(rd_str ud9) _ _ y2 t2
 have g2:RStr w ((cs.drop 2).take (Tryz.prog.cellsOf 9)) a2:=r2
 rw[cellsOf9]at g2
 clear t2 r2
 have t3:=hf 3 _ rfl
 obtain ⟨a3,r3,q3⟩:=(rd_str ud9) _ _ y3 t3
 have g3:RStr w ((cs.drop 3).take (Tryz.prog.cellsOf 9)) a3:=r3
 rw[cellsOf9]at g3
 clear t3 r3
 have t4:=hf 4 _ rfl
 obtain ⟨a4,r4,q4⟩:=(rd_int ud2) _ _ y4 t4
 have g4:(RInt .i64) w ((cs.drop 4).take (Tryz.prog.cellsOf 2)) a4:=r4
 rw[cellsOf2]at g4
 clear t4 r4
 clear hf
 have hq:Rows.uptoBulk y0.1+(Rows.uptoBulk y1.1+(Rows.uptoBulk y2.1+(Rows.uptoBulk y3.1+(Rows.uptoBulk y4.1+0))))+1≤Rows.uptoBulk (.agg ([y0,y1,y2,y3,y4].map (·.1))):=by simp only[Rows.uptoBulk,Rows.uptoBulkAll,List.map_cons,List.map_nil];omega
 obtain ⟨c0,c1,c2,c3,c4,rfl⟩:∃c0 c1 c2 c3 c4,cs=[c0,c1,c2,c3,c4]:=by
  clear h g0 g1 g2 g3 g4
  rcases cs with _|⟨c0,cs⟩
  ·simp at hlen
  rcases cs with _|⟨c1,cs⟩
  ·simp at hlen
  rcases cs with _|⟨c2,cs⟩
  ·simp at hlen
  rcases cs with _|⟨c3,cs⟩
  ·simp at hlen
  rcases cs with _|⟨c4,cs⟩
  ·simp at hlen
  rcases cs with _|⟨c,cs⟩
  ·exact ⟨_,_,_,_,_,rfl⟩
  ·simp at hlen
 have h0:(RInt .u64) w [c0] a0:=g0
 have h1:RStr w [c1] a1:=g1
 have h2:RStr w [c2] a2:=g2
 have h3:RStr w [c3] a3:=g3
 have h4:(RInt .i64) w [c4] a4:=g4
 obtain ⟨e0,h0⟩:=h0
 obtain rfl:=(List.cons.inj e0).1
 have e1:=h1
 obtain rfl:=(List.cons.inj e1).1
 have e2:=h2
 obtain rfl:=(List.cons.inj e2).1
 have e3:=h3
 obtain rfl:=(List.cons.inj e3).1
 obtain ⟨e4,h4⟩:=h4
 obtain rfl:=(List.cons.inj e4).1
 have p0:0≤Rows.uptoBulk y0.1:=q0
 have p1:a1.size+1≤Rows.uptoBulk y1.1:=q1
 have p2:a2.size+1≤Rows.uptoBulk y2.1:=q2
 have p3:a3.size+1≤Rows.uptoBulk y3.1:=q3
 have p4:0≤Rows.uptoBulk y4.1:=q4
 refine ⟨⟨a0,a1,a2,a3,a4⟩,⟨rfl,h0,h4⟩,?_⟩
 refine Nat.le_trans ?_ hq
 simp only[mFn];omega
theorem rd_Profile:RD enc Tryz.prog w 33 RProf mPf:=fun fuel cs x h=>by
 obtain ⟨xs,n, -,rfl,hlen,hxl,hf⟩:=DataW.trod_struct ud33 h
 rw[cellsOf33]at hlen
 replace hxl:xs.length=13:=hxl
 obtain ⟨y0,y1,y2,y3,y4,y5,y6,y7,y8,y9,y10,y11,y12,rfl⟩:∃y0 y1 y2 y3 y4 y5 y6 y7 y8 y9 y10 y11 y12,xs=[y0,y1,y2,y3,y4,y5,y6,y7,y8,y9,y10,y11,y12]:=by
  clear hf h
  rcases xs with _|⟨y0,xs⟩
  ·simp at hxl
  rcases xs with _|⟨y1,xs⟩
  ·simp at hxl
  rcases xs with _|⟨y2,xs⟩
  ·simp at hxl
  rcases xs with _|⟨y3,xs⟩
  ·simp at hxl
  rcases xs with _|⟨y4,xs⟩
  ·simp at hxl
  rcases xs with _|⟨y5,xs⟩
  ·simp at hxl
  rcases xs with _|⟨y6,xs⟩
  ·simp at hxl
  rcases xs with _|⟨y7,xs⟩
  ·simp at hxl
  rcases xs with _|⟨y8,xs⟩
  ·simp at hxl
  rcases xs with _|⟨y9,xs⟩
  ·simp at hxl
  rcases xs with _|⟨y10,xs⟩
  ·simp at hxl
  rcases xs with _|⟨y11,xs⟩
  ·simp at hxl
  rcases xs with _|⟨y12,xs⟩
  ·simp at hxl
  rcases xs with _|⟨y,xs⟩
  ·exact ⟨_,_,_,_,_,_,_,_,_,_,_,_,_,rfl⟩
  ·simp at hxl
 have t0:=hf 0 _ rfl
 obtain ⟨a0,r0,q0⟩:=(rd_slice ud24 cellsOf31 (by decide) rd_Type) _ _ y0 t0
 have g0:(RSl RType 2) w ((cs.drop 0).take (Tryz.prog.cellsOf 24)) a0:=r0
 rw[cellsOf24]at g0
 clear t0 r0
 have t1:=hf 1 _ rfl
 obtain ⟨a1,r1,q1⟩:=(rd_str ud9) _ _ y1 t1
 have g1:RStr w ((cs.drop 1).take (Tryz.prog.cellsOf 9)) a1:=r1
 rw[cellsOf9]at g1
 clear t1 r1
 have t2:=hf 2 _ rfl
 obtain ⟨a2,r2,q2⟩:=(rd_slice ud25 cellsOf55 (by decide) rd_Sample) _ _ y2 t2
 have g2:(RSl RSample 4) w ((cs.drop 2).take (Tryz.prog.cellsOf 25)) a2:=r2
 rw[cellsOf25]at g2
 clear t2 r2
 have t3:=hf 3 _ rfl
 obtain ⟨a3,r3,q3⟩:=(rd_slice ud26 cellsOf78 (by decide) rd_Mapping) _ _ y3 t3
 have g3:(RSl RMapping 10) w ((cs.drop 3).take (Tryz.prog.cellsOf 26)) a3:=r3
 rw[cellsOf26]at g3
 clear t3 r3
 have t4:=hf 4 _ rfl
 obtain ⟨a4,r4,q4⟩:=(rd_slice ud27 cellsOf89 (by decide) rd_Location) _ _ y4 t4
 have g4:(RSl RLoc 4) w ((cs.drop 4).take (Tryz.prog.cellsOf 27)) a4:=r4
 rw[cellsOf27]at g4
 clear t4 r4
 have t5:=hf 5 _ rfl
 obtain ⟨a5,r5,q5⟩:=(rd_slice ud28 cellsOf83 (by decide) rd_Func) _ _ y5 t5
 have g5:(RSl RFunc 5) w ((cs.drop 5).take (Tryz.prog.cellsOf 28)) a5:=r5
 rw[cellsOf28]at g5
 clear t5 r5
 have t6:=hf 6 _ rfl
 obtain ⟨a6,r6,q6⟩:=(rd_slice ud29 cellsOf9 (by decide) (rd_str ud9)) _ _ y6 t6
 have g6:(RSl RStr 1) w ((cs.drop 6).take (Tryz.prog.cellsOf 29)) a6:=r6
 rw[cellsOf29]at g6
 clear t6 r6
 have t7:=hf 7 _ rfl
 obtain ⟨a7,r7,q7⟩:=(rd_str ud9) _ _ y7 t7
 have g7:RStr w ((cs.drop 7).take (Tryz.prog.cellsOf 9)) a7:=r7
 rw[cellsOf9]at g7
 clear t7 r7
 have t8:=hf 8 _ rfl
 obtain ⟨a8,r8,q8⟩:=(rd_str ud9) _ _ y8 t8
 have g8:RStr w ((cs.drop 8).take (Tryz.prog.cellsOf 9)) a8:=r8
 rw[cellsOf9]at g8
 clear t8 r8
 have t9:=hf 9 _ rfl
 obtain ⟨a9,r9,q9⟩:=(rd_int ud2) _ _ y9 t9
 have g9:(RInt .i64) w ((cs.drop 9).take (Tryz.prog.cellsOf 2)) a9:=r9
 rw[cellsOf2]at g9
 clear t9 r9
 have t10:=hf 10 _ rfl
 obtain ⟨a10,r10,q10⟩:=(rd_int ud2) _ _ y10 t10
 have g10:(RInt .i64) w ((cs.drop 10).take (Tryz.prog.cellsOf 2)) a10:=r10
 rw[cellsOf2]at g10
 clear t10 r10
 have t11:=hf 11 _ rfl
 obtain ⟨a11,r11,q11⟩:=(rd_int ud2) _ _ y11 t11
 have g11:(RInt .i64) w ((cs.drop 11).take (Tryz.prog.cellsOf 2)) a11:=r11
 rw[cellsOf2]at g11
 clear t11 r11
 have t12:=hf 12 _ rfl
 obtain ⟨a12,r12,q12⟩:=rd_Type _ _ y12 t12
 have g12:RType w ((cs.drop 12).take (Tryz.prog.cellsOf 31)) a12:=r12
 rw[cellsOf31]at g12
 clear t12 r12
 clear hf
 have hq:Rows.uptoBulk y0.1+(Rows.uptoBulk y1.1+(Rows.uptoBulk y2.1+(Rows.uptoBulk y3.1+(Rows.uptoBulk y4.1+(Rows.uptoBulk y5.1+(Rows.uptoBulk y6.1+(Rows.uptoBulk y7.1+(Rows.uptoBulk y8.1+(Rows.uptoBulk y9.1+(Rows.uptoBulk y10.1+(Rows.uptoBulk y11.1+(Rows.uptoBulk y12.1+0))))))))))))+1≤Rows.uptoBulk (.agg ([y0,y1,y2,y3,y4,y5,y6,y7,y8,y9,y10,y11,y12].map (·.1))):=by simp only[Rows.uptoBulk,Rows.uptoBulkAll,List.map_cons,List.map_nil];omega
 obtain ⟨c0,c1,c2,c3,c4,c5,c6,c7,c8,c9,c10,c11,c12,c13,rfl⟩:∃c0 c1 c2 c3 c4 c5 c6 c7 c8 c9 c10 c11 c12 c13,cs=[c0,c1,c2,c3,c4,c5,c6,c7,c8,c9,c10,c11,c12,c13]:=by
  clear h g0 g1 g2 g3 g4 g5 g6 g7 g8 g9 g10 g11 g12
  rcases cs with _|⟨c0,cs⟩
  ·simp at hlen
  rcases cs with _|⟨c1,cs⟩
  ·simp at hlen
  rcases cs with _|⟨c2,cs⟩
  ·simp at hlen
  rcases cs with _|⟨c3,cs⟩
  ·simp at hlen
  rcases cs with _|⟨c4,cs⟩
  ·simp at hlen
  rcases cs with _|⟨c5,cs⟩
  ·simp at hlen
  rcases cs with _|⟨c6,cs⟩
  ·simp at hlen
  rcases cs with _|⟨c7,cs⟩
  ·simp at hlen
  rcases cs with _|⟨c8,cs⟩
  ·simp at hlen
  rcases cs with _|⟨c9,cs⟩
  ·simp at hlen
  rcases cs with _|⟨c10,cs⟩
  ·simp at hlen
  rcases cs with _|⟨c11,cs⟩
  ·simp at hlen
  rcases cs with _|⟨c12,cs⟩
  ·simp at hlen
  rcases cs with _|⟨c13,cs⟩
  ·simp at hlen
  rcases cs with _|⟨c,cs⟩
  ·exact ⟨_,_,_,_,_,_,_,_,_,_,_,_,_,_,rfl⟩
  ·simp at hlen
 have h0:(RSl RType 2) w [c0] a0:=g0
 have h1:RStr w [c1] a1:=g1
 have h2:(RSl RSample 4) w [c2] a2:=g2
 have h3:(RSl RMapping 10) w [c3] a3:=g3
 have h4:(RSl RLoc 4) w [c4] a4:=g4
 have h5:(RSl RFunc 5) w [c5] a5:=g5
 have h6:(RSl RStr 1) w [c6] a6:=g6
 have h7:RStr w [c7] a7:=g7
 have h8:RStr w [c8] a8:=g8
 have h9:(RInt .i64) w [c9] a9:=g9
 have h10:(RInt .i64) w [c10] a10:=g10
 have h11:(RInt .i64) w [c11] a11:=g11
 have h12:RType w [c12,c13] a12:=g12
 obtain ⟨v0,e0,h0⟩:=h0
 obtain rfl:=(List.cons.inj e0).1
 have e1:=h1
 obtain rfl:=(List.cons.inj e1).1
 obtain ⟨v2,e2,h2⟩:=h2
 obtain rfl:=(List.cons.inj e2).1
 obtain ⟨v3,e3,h3⟩:=h3
 obtain rfl:=(List.cons.inj e3).1
 obtain ⟨v4,e4,h4⟩:=h4
 obtain rfl:=(List.cons.inj e4).1
 obtain ⟨v5,e5,h5⟩:=h5
 obtain rfl:=(List.cons.inj e5).1
 obtain ⟨v6,e6,h6⟩:=h6
 obtain rfl:=(List.cons.inj e6).1
 have e7:=h7
 obtain rfl:=(List.cons.inj e7).1
 have e8:=h8
 obtain rfl:=(List.cons.inj e8).1
 obtain ⟨e9,h9⟩:=h9
 obtain rfl:=(List.cons.inj e9).1
 obtain ⟨e10,h10⟩:=h10
 obtain rfl:=(List.cons.inj e10).1
 obtain ⟨e11,h11⟩:=h11
 obtain rfl:=(List.cons.inj e11).1
 have e12:=h12
 simp only[RType,List.cons.injEq,and_true]at e12
 obtain ⟨rfl,rfl⟩:=e12
 have p0:(a0.map mTy).sum≤Rows.uptoBulk y0.1:=q0
 have p1:a1.size+1≤Rows.uptoBulk y1.1:=q1
 have p2:(a2.map mSm).sum≤Rows.uptoBulk y2.1:=q2
 have p3:(a3.map mMp).sum≤Rows.uptoBulk y3.1:=q3
 have p4:(a4.map mLc).sum≤Rows.uptoBulk y4.1:=q4
 have p5:(a5.map mFn).sum≤Rows.uptoBulk y5.1:=q5
 have p6:(a6.map (fun s:ByteArray=>s.size+1)).sum≤Rows.uptoBulk y6.1:=q6
 have p7:a7.size+1≤Rows.uptoBulk y7.1:=q7
 have p8:a8.size+1≤Rows.uptoBulk y8.1:=q8
 have p9:0≤Rows.uptoBulk y9.1:=q9
 have p10:0≤Rows.uptoBulk y10.1:=q10
 have p11:0≤Rows.uptoBulk y11.1:=q11
 have p12:(a12.ty.size+1)+(a12.unit.size+1)≤Rows.uptoBulk y12.1:=q12
 refine ⟨⟨a0,a1,a2,a3,a4,a5,a6,a7,a8,a9,a10,a11,a12⟩,⟨_,_,_,_,_,_,rfl,h0,h2,h3,h4,h5,h6,h9,h10,h11⟩,?_⟩
 refine Nat.le_trans ?_ hq
 simp only[mPf];rw[show mTy ⟨a12.ty,a12.unit⟩=(a12.ty.size+1)+(a12.unit.size+1) from rfl];omega
end
theorem sameOf {W W':World} (k:Fr 0 [] W W') {p:MemPlace} (hp:p.block<W.heap.size):W.sameAt W' p:=by
 have h:W'.heap[p.block]? =W.heap[p.block]? :=by
  obtain ⟨o,ho⟩:∃o,W.heap[p.block]? =some o:=⟨_,Array.getElem?_eq_getElem hp⟩
  rw[ho,k.keep _ o ho (.inr (by simp))]
 cases p with
 |cell b off=>
  show W'.cell? ⟨b,off,none⟩=W.cell? ⟨b,off,none⟩
  unfold World.cell?
  have h:W'.heap[b]? =W.heap[b]? :=h
  simp only[h]
 |map b=>exact h
theorem keptOf {W W':World} (k:Fr 0 [] W W') (may:MemPlace→Prop):W.keptBut W' may:=by
 refine ⟨k.os,k.output,fun i hi=>?_⟩
 obtain ⟨o,ho⟩:∃o,W.heap[i]? =some o:=⟨_,Array.getElem?_eq_getElem hi⟩
 rw[ho,k.keep _ o ho (.inr (by simp))]
 cases o<;>simp
end Go.Proofs.YtffghbkcomlefaaGreatDoor
namespace Go.Fw
open Go Go.Lib Go.Proofs
theorem tabIs_of_readsV {P:Program} {W:World} {name:String} {k:IntKind} {zs:List Int} {g:Nat} {t e:TypeId} {n:Nat}
  (hg:P.globalNamed name=some g) (hty:(P.globals[g]?).map (·.type)=some t) (ht:P.underlying t=some (.array n e)) (he:P.underlying e=some (.int k)) (hce:P.cellsOf e=1) (hct:P.cellsOf t=n)
  (h:VarReads P W name (tabData k zs)):TabIs P W name k zs:=by
 obtain ⟨g',t',cs,fuel,p,hg',ht',hvar,hd⟩:=h
 obtain rfl:=Option.some.inj (hg.symm.trans hg')
 obtain rfl:=Option.some.inj (hty.symm.trans ht')
 unfold TabIs
 rw[hvar, ← cells_of_tab ht he hce hct hd]
theorem le_sum {α:Type} (f:α→Nat):∀{l:List α} {a:α},a∈l→f a≤(l.map f).sum
 |b::r,a,h=>by
    rw[List.map_cons,List.sum_cons]
    rcases List.mem_cons.1 h with rfl|h
    ·omega
    ·have:=le_sum f h;omega
end Go.Fw
namespace Go.Proofs.YtffghbkcomlefaaGreatDoor
open Go Go.Fw Go.Proofs Go.Lib
theorem txB_of {x:PProf} (h:mPf x≤1048576):TxB x:=by
 unfold mPf at h
 refine ⟨fun m hm=>?_,fun f hf=>?_,fun s hs=>⟨fun t ht=>?_,fun t ht=>?_⟩⟩
 ·have h1:=le_sum mMp hm
  unfold mMp at h1
  unfold SzM
  exact ⟨by unfold mMp at h;omega,by unfold mMp at h;omega⟩
 ·have h1:=le_sum mFn hf
  unfold mFn at h1
  unfold SzF
  exact ⟨by unfold mFn at h;omega,by unfold mFn at h;omega,by unfold mFn at h;omega⟩
 ·have h1:=le_sum mSm hs
  have h2:=le_sum mTx ht
  have h3:mSm s≤1048576:=by omega
  unfold mSm at h3
  have h4:mTx t≤1048576:=by omega
  unfold mTx at h4
  refine ⟨by omega,fun y hy=>?_⟩
  have h5:=le_sum (fun s:ByteArray=>s.size+1) hy
  replace h5:y.size+1≤(t.list.map fun s:ByteArray=>s.size+1).sum:=h5
  omega
 ·have h1:=le_sum mSm hs
  have h2:=le_sum mNu ht
  have h3:mSm s≤1048576:=by omega
  unfold mSm at h3
  have h4:mNu t≤1048576:=by omega
  unfold mNu at h4
  omega
def z64:List Int:=[0,1,56,2,57,49,28,3,61,58,42,50,38,29,17,4,62,47,59,36,45,43,51,22,53,39,33,30,24,18,12,5,63,55,48,27,60,41,37,16,46,35,44,21,52,32,23,11,54,26,40,15,34,20,31,10,25,14,19,9,13,8,7,6]
theorem u8t:U8Types Tryz.prog Tryz.lays177_ren:=⟨by kernel_rfl,by kernel_rfl,by kernel_rfl,by kernel_rfl⟩
theorem u8x:U8Extra Tryz.prog Tryz.lays177_ren:=⟨by kernel_rfl,by kernel_rfl,by kernel_rfl,by kernel_rfl,by kernel_rfl,by kernel_rfl,by kernel_rfl⟩
set_option maxRecDepth 100000 in
theorem tabs_of {W:World} (h:laidMet Tryz.prog Rows.fnMergeTwiceUptoRow.laid W):Tabs W:=by
 have r1:VarReads Tryz.prog W "math/bits.deBruijn64tab" (tabData .u8 z64):=laidMet.reads h (.tail _ (.head _))
 have r2:VarReads Tryz.prog W "internal/strconv.uint64pow10" (tabData .u64 pow10Tab):=by
  have e:tabData .u64 pow10Tab=(Rows.laid_internal_strconv_uint64pow10:DataW Unit):=by kernel_rfl
  rw[e];exact laidMet.reads h (.tail _ (.tail _ (.head _)))
 have r3:VarReads Tryz.prog W "unicode/utf8.acceptRanges" acceptData:=by
  have e:acceptData=(Rows.laid_unicode_utf8_acceptRanges:DataW Unit):=by kernel_rfl
  rw[e];exact laidMet.reads h (.tail _ (.tail _ (.tail _ (.head _))))
 have r4:VarReads Tryz.prog W "unicode/utf8.first" firstData:=by
  have e:firstData=(Rows.laid_unicode_utf8_first:DataW Unit):=by kernel_rfl
  rw[e];exact laidMet.reads h (.tail _ (.tail _ (.tail _ (.tail _ (.tail _ (.tail _ (.tail _ (.tail _ (.tail _ (.head _))))))))))
 have r5:VarReads Tryz.prog W "strconv.isNotPrint16" (sliceData .u16 goPrintTabs.n16):=by
  have e:sliceData .u16 goPrintTabs.n16=(Rows.laid_strconv_isNotPrint16:DataW Unit):=by kernel_rfl
  rw[e];exact laidMet.reads h (.tail _ (.tail _ (.tail _ (.tail _ (.tail _ (.head _))))))
 have r6:VarReads Tryz.prog W "strconv.isNotPrint32" (sliceData .u16 goPrintTabs.n32):=by
  have e:sliceData .u16 goPrintTabs.n32=(Rows.laid_strconv_isNotPrint32:DataW Unit):=by kernel_rfl
  rw[e];exact laidMet.reads h (.tail _ (.tail _ (.tail _ (.tail _ (.tail _ (.tail _ (.head _)))))))
 have r7:VarReads Tryz.prog W "strconv.isPrint16" (sliceData .u16 goPrintTabs.p16):=by
  have e:sliceData .u16 goPrintTabs.p16=(Rows.laid_strconv_isPrint16:DataW Unit):=by kernel_rfl
  rw[e];exact laidMet.reads h (.tail _ (.tail _ (.tail _ (.tail _ (.tail _ (.tail _ (.tail _ (.head _))))))))
 have r8:VarReads Tryz.prog W "strconv.isPrint32" (sliceData .u32 goPrintTabs.p32):=by
  have e:sliceData .u32 goPrintTabs.p32=(Rows.laid_strconv_isPrint32:DataW Unit):=by kernel_rfl
  rw[e];exact laidMet.reads h (.tail _ (.tail _ (.tail _ (.tail _ (.tail _ (.tail _ (.tail _ (.tail _ (.head _)))))))))
 have d64:TabIs Tryz.prog W "math/bits.deBruijn64tab" .u8 z64:=tabIs_of_readsV (g:=10) (t:=269) (e:=5) (n:=64) (by kernel_rfl) (by kernel_rfl) ud269 ud5 (by kernel_rfl) (by kernel_rfl) r1
 have c16:=fun (t:Nat) (h:Tryz.prog.cellsOf t=1)=>h
 refine ⟨?_,⟨?_,?_,?_,?_,by decide,by decide,by decide⟩,utf8Tabs_of_readsT u8t u8x r4 r3,tabIs_of_readsV (g:=0) (t:=240) (e:=76) (n:=20) (by kernel_rfl) (by kernel_rfl) ud240 ud76 (by kernel_rfl) (by kernel_rfl) r2⟩
 ·have:=d64.cell (g:=10) (by kernel_rfl) 15 (by decide)
  exact this
 ·exact tabSlice_of_reads (t:=261) (e:=260) (by kernel_rfl) (by kernel_rfl) ud261 ud260 (by kernel_rfl) (by decide) r7
 ·exact tabSlice_of_reads (t:=261) (e:=260) (by kernel_rfl) (by kernel_rfl) ud261 ud260 (by kernel_rfl) (by decide) r5
 ·exact tabSlice_of_reads (t:=263) (e:=207) (by kernel_rfl) (by kernel_rfl) ud263 ud207 (by kernel_rfl) (by decide) r8
 ·exact tabSlice_of_reads (t:=261) (e:=260) (by kernel_rfl) (by kernel_rfl) ud261 ud260 (by kernel_rfl) (by decide) r6
end Go.Proofs.YtffghbkcomlefaaGreatDoor
