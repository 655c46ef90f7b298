/-
  Part 7 of the proof. Conditions: as each lemma states them.
-/
import Derived.Test.YtifdadlhmlhfiaaGreatDoorX6
namespace Go.Proofs.YtifdadlhmlhfiaaGreatDoor
open Go Go.Fw Go.Proofs Go.Proofs.Tryz
theorem zzFits3_c (w:World) (cs:List Value) (x:PType) (h:RType w cs x):Calls Tryz.prog 24 #[.agg cs.toArray] w (Ret fun v w'=>(∃b,v=.bool b)∧Fr 0 [] w w'):=by
 unfold RType at h
 subst h
 refine startJ (args:=[_]) [(0,_)] 0 [] [] func24 rfl ntmps24 rfl rfl .nil ?_
 refine sQ fun K1=>cj_reg (j_boxA (vs:=[_,_]) rfl rfl fun b1=>jA (k:=K1 (sQ fun K2=>sQ fun K3=>cj_reg (jF 0 ru29 so9 (k:=jH 0 ag9 (k:=?_))))))
 refine j_val rfl (fun _ _ h=>r_slen ru9 rfl h) (jG (k:=K3 ?_))
 refine cj_dec rfl (fun _=>?_) (fun _=>?_)
 ·refine sQ fun K4=>cj_reg (jA (k:=K4 (cj_ret ?_)))
  exact ej_ret1 results24 rfl fun w' hH hf=>⟨⟨_,rfl⟩,hf⟩
 ·refine cj_skip (K2 (sQ fun K5=>sQ fun K6=>cj_reg (jF 1 ru29 so9 (k:=jH 0 ag9 (k:=?_)))))
  refine j_val rfl (fun _ _ h=>r_slen ru9 rfl h) (jG (k:=K6 (CJ.t [(10,_)] (k:=?_))))
  refine cj_dec rfl (fun _=>?_) (fun _=>?_)
  ·refine sQ fun K7=>cj_reg (jA (k:=K7 (cj_ret ?_)))
   exact ej_ret1 results24 rfl fun w' hH hf=>⟨⟨_,rfl⟩,hf⟩
  ·refine cj_skip (K5 (sQ fun K8=>cj_reg (jA (k:=K8 (cj_ret ?_)))))
   exact ej_ret1 results24 rfl fun w' hH hf=>⟨⟨_,rfl⟩,hf⟩
theorem zzFits2_c (w:World) (v:Value) (xs:List PType) (h:Lay RType 2 w v xs):Calls Tryz.prog 18 #[v] w (Ret fun v w'=>(∃b,v=.bool b∧(b=true→xs.length≤2147483647))∧Fr 0 [] w w'):=by
 obtain ⟨p,c,rfl,hl,hx⟩:=h.open
 refine startJ (args:=[_]) [(0,_)] 0 [] [] func18 rfl ntmps18 rfl rfl .nil ?_
 refine sQ fun K1=>cj_reg (jA (k:=K1 (sQ fun K2=>sQ fun K3=>cj_reg (jM (k:=jE ru22 (k:=jG (k:=K3 ?_)))))))
 refine cj_dec rfl (fun hbig=>?_) (fun hbig=>?_)
 ·refine sQ fun K4=>cj_reg (jA (k:=K4 (cj_ret ?_)))
  exact ej_ret1 results18 rfl fun w' hH hf=>⟨⟨_,rfl,by first|(intro h;exact absurd h (by decide))|(intro _;omega)⟩,hf⟩
 ·refine cj_skip (K2 (sQ fun K5=>sQ fun K6=>cj_reg (jM (k:=jE ru22 (k:=jM (k:=K6 (cj_block ?_)))))))
  refine cj_loop (σ:=Nat) (fun k=>[(8,.slice p xs.length c),(9,.int .i64 (xs.length:Nat)),(10,.int .i64 (k:Nat))]) (fun _=>[]) (fun k _=>k≤xs.length) (fun k=>xs.length - k) 0 sR (fun w hH hf=>⟨.nil,Nat.zero_le _⟩) ?_
  intro k w1 hk hf1 hH1 KL hKL
  refine C.begin _ [] hf1 .nil ?_
  refine sQ fun K7=>cj_reg (jS (k:=K7 (sQ fun K8=>?_)))
  refine cj_dec rfl (fun hlt=>?_) (fun hlt=>?_)
  ·have hlt':k<xs.length:=by omega
   obtain ⟨b,o,cs,rfl,hcs,hR,hcell⟩:=hx k xs[k] (List.getElem?_eq_getElem hlt')
   have hR':=hR
   unfold RType at hR
   subst hR
   refine cj_skip (K8 (sQ fun K9=>cj_block (sQ fun K10=>cj_reg (jJ ru22 so29 (k:=?_)))))
   refine j_valw rfl (fun a w ha hH hf=>r_loadA ag29 so29 rfl rfl (hcell w (hf.keepAll (.inr rfl))) ha) (j_allocA (zs:=[(.string ⟨#[]⟩),(.string ⟨#[]⟩)]) zv29 rfl fun b4=>jB [_,_] [_] 0 so29 (k:=K10 (sQ fun K11=>cj_reg ?_)))
   refine j_valw rfl (fun a w ha hH hf=>r_ldA (vs:=[_,_]) 0 rfl rfl ag29 so29 rfl rfl rfl ha hH) ?_
   refine j_callQ (φ:=fun v=>∃b,v=.bool b) call24 rfl rfl (fun w hH hf=>zzFits3_c w _ _ (RType.keep (hf.keepAll (.inr rfl)) _ _ hR')) ?_
   rintro _ ⟨b15,rfl⟩
   refine jU (k:=K11 ?_)
   refine cj_if rfl (fun _=>?_) (fun _=>?_)
   ·refine sQ fun K12=>cj_reg (jA (k:=K12 (cj_ret ?_)))
    exact ej_ret1 results18 rfl fun w' hH hf=>⟨⟨_,rfl,by first|(intro h;exact absurd h (by decide))|(intro _;omega)⟩,hf⟩
   ·refine cj_skip (K9 (cj_reg (jI (k:=jM (k:=j_nil (ej_then ?_))))))
    exact fun w hH hf=>hKL (k+1) _ w hlt' hf .nil (by omega) sR
  ·refine cj_exit (K5 (CJ.t [] (k:=sQ fun K13=>cj_reg (jA (k:=K13 (cj_ret ?_))))))
   exact ej_ret1 results18 rfl fun w' hH hf=>⟨⟨_,rfl,by first|(intro h;exact absurd h (by decide))|(intro _;omega)⟩,hf⟩
theorem zzFits8_c (w:World) (v:Value) (xs:List ByteArray) (h:Lay RStr 1 w v xs):Calls Tryz.prog 23 #[v] w (Ret fun v w'=>(∃b,v=.bool b∧(b=true→xs.length≤2147483647))∧Fr 0 [] w w'):=by
 obtain ⟨p,c,rfl,hl,hx⟩:=h.open
 refine startJ (args:=[_]) [(0,_)] 0 [] [] func23 rfl ntmps23 rfl rfl .nil ?_
 refine sQ fun K1=>cj_reg (jA (k:=K1 (sQ fun K2=>sQ fun K3=>cj_reg (jM (k:=jE ru27 (k:=jG (k:=K3 ?_)))))))
 refine cj_dec rfl (fun hbig=>?_) (fun hbig=>?_)
 ·refine sQ fun K4=>cj_reg (jA (k:=K4 (cj_ret ?_)))
  exact ej_ret1 results23 rfl fun w' hH hf=>⟨⟨_,rfl,by first|(intro h;exact absurd h (by decide))|(intro _;omega)⟩,hf⟩
 ·refine cj_skip (K2 (sQ fun K5=>sQ fun K6=>cj_reg (jM (k:=jE ru27 (k:=jM (k:=K6 (cj_block ?_)))))))
  refine cj_loop (σ:=Nat) (fun k=>[(8,.slice p xs.length c),(9,.int .i64 (xs.length:Nat)),(10,.int .i64 (k:Nat))]) (fun _=>[]) (fun k _=>k≤xs.length) (fun k=>xs.length - k) 0 sR (fun w hH hf=>⟨.nil,Nat.zero_le _⟩) ?_
  intro k w1 hk hf1 hH1 KL hKL
  refine C.begin _ [] hf1 .nil ?_
  refine sQ fun K7=>cj_reg (jS (k:=K7 (sQ fun K8=>?_)))
  refine cj_dec rfl (fun hlt=>?_) (fun hlt=>?_)
  ·have hlt':k<xs.length:=by omega
   obtain ⟨b,o,cs,rfl,hcs,hR,hcell⟩:=hx k xs[k] (List.getElem?_eq_getElem hlt')
   unfold RStr at hR
   subst hR
   refine cj_skip (K8 (sQ fun K9=>cj_block (sQ fun K10=>cj_reg (jJ ru27 so9 (k:=?_)))))
   refine j_valw rfl (fun a w ha hH hf=>r_load ag9 rfl (hcell w (hf.keepAll (.inr rfl)) 0 _ rfl) ha) (jA (k:=K10 (sQ fun K11=>cj_reg (jM (k:=?_)))))
   refine j_val rfl (fun _ _ h=>r_slen ru9 rfl h) (jG (k:=K11 ?_))
   refine cj_dec rfl (fun _=>?_) (fun _=>?_)
   ·refine sQ fun K12=>cj_reg (jA (k:=K12 (cj_ret ?_)))
    exact ej_ret1 results23 rfl fun w' hH hf=>⟨⟨_,rfl,by first|(intro h;exact absurd h (by decide))|(intro _;omega)⟩,hf⟩
   ·refine cj_skip (K9 (cj_reg (jI (k:=jM (k:=j_nil (ej_then ?_))))))
    exact fun w hH hf=>hKL (k+1) _ w hlt' hf .nil (by omega) sR
  ·refine cj_exit (K5 (CJ.t [] (k:=sQ fun K13=>cj_reg (jA (k:=K13 (cj_ret ?_))))))
   exact ej_ret1 results23 rfl fun w' hH hf=>⟨⟨_,rfl,by first|(intro h;exact absurd h (by decide))|(intro _;omega)⟩,hf⟩
theorem zzFits7_c (w:World) (cs:List Value) (x:PTexts) (h:RTexts w cs x):Calls Tryz.prog 108 #[.agg cs.toArray] w (Ret fun v w'=>(∃b,v=.bool b)∧Fr 0 [] w w'):=by
 obtain ⟨la,rfl,hla⟩:=h
 refine startJ (args:=[_]) [(0,_)] 0 [] [] func108 rfl ntmps108 rfl rfl .nil ?_
 refine sQ fun K1=>cj_reg (j_boxA (vs:=[_,_]) rfl rfl fun b1=>jA (k:=K1 (sQ fun K2=>sQ fun K3=>cj_reg (jF 0 ru109 so9 (k:=jH 0 ag9 (k:=?_))))))
 refine j_val rfl (fun _ _ h=>r_slen ru9 rfl h) (jG (k:=K3 ?_))
 refine cj_dec rfl (fun _=>?_) (fun _=>?_)
 ·refine sQ fun K4=>cj_reg (jA (k:=K4 (cj_ret ?_)))
  exact ej_ret1 results108 rfl fun w' hH hf=>⟨⟨_,rfl⟩,hf⟩
 ·refine cj_skip (K2 (sQ fun K5=>sQ fun K6=>cj_reg (jF 1 ru109 so27 (k:=jH 0 ag27 (k:=?_)))))
  refine j_callQ (φ:=fun v=>∃b,v=.bool b∧(b=true→x.list.length≤2147483647)) call23 rfl rfl (fun w hH hf=>zzFits8_c w _ _ (hla.keep (RStr.keep (hf.keepAll (.inr rfl))) (hf.keepAll (.inr rfl)))) ?_
  rintro _ ⟨b9,rfl,hb9⟩
  refine jU (k:=K6 (CJ.t [(10,_)] (k:=?_)))
  refine cj_if rfl (fun _=>?_) (fun _=>?_)
  ·refine sQ fun K7=>cj_reg (jA (k:=K7 (cj_ret ?_)))
   exact ej_ret1 results108 rfl fun w' hH hf=>⟨⟨_,rfl⟩,hf⟩
  ·refine cj_skip (K5 (sQ fun K8=>cj_reg (jA (k:=K8 (cj_ret ?_)))))
   exact ej_ret1 results108 rfl fun w' hH hf=>⟨⟨_,rfl⟩,hf⟩
theorem zzFits6_c (w:World) (v:Value) (xs:List PTexts) (h:Lay RTexts 2 w v xs):Calls Tryz.prog 92 #[v] w (Ret fun v w'=>(∃b,v=.bool b∧(b=true→xs.length≤2147483647))∧Fr 0 [] w w'):=by
 obtain ⟨p,c,rfl,hl,hx⟩:=h.open
 refine startJ (args:=[_]) [(0,_)] 0 [] [] func92 rfl ntmps92 rfl rfl .nil ?_
 refine sQ fun K1=>cj_reg (jA (k:=K1 (sQ fun K2=>sQ fun K3=>cj_reg (jM (k:=jE ru54 (k:=jG (k:=K3 ?_)))))))
 refine cj_dec rfl (fun hbig=>?_) (fun hbig=>?_)
 ·refine sQ fun K4=>cj_reg (jA (k:=K4 (cj_ret ?_)))
  exact ej_ret1 results92 rfl fun w' hH hf=>⟨⟨_,rfl,by first|(intro h;exact absurd h (by decide))|(intro _;omega)⟩,hf⟩
 ·refine cj_skip (K2 (sQ fun K5=>sQ fun K6=>cj_reg (jM (k:=jE ru54 (k:=jM (k:=K6 (cj_block ?_)))))))
  refine cj_loop (σ:=Nat) (fun k=>[(8,.slice p xs.length c),(9,.int .i64 (xs.length:Nat)),(10,.int .i64 (k:Nat))]) (fun _=>[]) (fun k _=>k≤xs.length) (fun k=>xs.length - k) 0 sR (fun w hH hf=>⟨.nil,Nat.zero_le _⟩) ?_
  intro k w1 hk hf1 hH1 KL hKL
  refine C.begin _ [] hf1 .nil ?_
  refine sQ fun K7=>cj_reg (jS (k:=K7 (sQ fun K8=>?_)))
  refine cj_dec rfl (fun hlt=>?_) (fun hlt=>?_)
  ·have hlt':k<xs.length:=by omega
   obtain ⟨b,o,cs,rfl,hcs,hR,hcell⟩:=hx k xs[k] (List.getElem?_eq_getElem hlt')
   have hR':=hR
   obtain ⟨la,rfl,hla⟩:=hR
   obtain ⟨p1,c1,rfl,hl1, -⟩:=hla.open
   refine cj_skip (K8 (sQ fun K9=>cj_block (sQ fun K10=>cj_reg (jJ ru54 so109 (k:=?_)))))
   refine j_valw rfl (fun a w ha hH hf=>r_loadA ag109 so109 rfl rfl (hcell w (hf.keepAll (.inr rfl))) ha) (j_allocA (zs:=[(.string ⟨#[]⟩),(.slice none 0 0)]) zv109 rfl fun b4=>jB [_,_] [_] 0 so109 (k:=K10 (sQ fun K11=>cj_reg ?_)))
   refine j_valw rfl (fun a w ha hH hf=>r_ldA (vs:=[_,_]) 0 rfl rfl ag109 so109 rfl rfl rfl ha hH) ?_
   refine j_callQ (φ:=fun v=>∃b,v=.bool b) call108 rfl rfl (fun w hH hf=>zzFits7_c w _ _ (RTexts.keep (hf.keepAll (.inr rfl)) _ _ hR')) ?_
   rintro _ ⟨b15,rfl⟩
   refine jU (k:=K11 ?_)
   refine cj_if rfl (fun _=>?_) (fun _=>?_)
   ·refine sQ fun K12=>cj_reg (jA (k:=K12 (cj_ret ?_)))
    exact ej_ret1 results92 rfl fun w' hH hf=>⟨⟨_,rfl,by first|(intro h;exact absurd h (by decide))|(intro _;omega)⟩,hf⟩
   ·refine cj_skip (K9 (cj_reg (jI (k:=jM (k:=j_nil (ej_then ?_))))))
    exact fun w hH hf=>hKL (k+1) _ w hlt' hf .nil (by omega) sR
  ·refine cj_exit (K5 (CJ.t [] (k:=sQ fun K13=>cj_reg (jA (k:=K13 (cj_ret ?_))))))
   exact ej_ret1 results92 rfl fun w' hH hf=>⟨⟨_,rfl,by first|(intro h;exact absurd h (by decide))|(intro _;omega)⟩,hf⟩
theorem zzFits10_c (w:World) (cs:List Value) (x:PNums) (h:RNums w cs x):Calls Tryz.prog 109 #[.agg cs.toArray] w (Ret fun v w'=>(∃b,v=.bool b)∧Fr 0 [] w w'):=by
 obtain ⟨la,rfl,hla⟩:=h
 obtain ⟨p1,c1,rfl,hl1, -⟩:=hla.open
 refine startJ (args:=[_]) [(0,_)] 0 [] [] func109 rfl ntmps109 rfl rfl .nil ?_
 refine sQ fun K1=>cj_reg (j_boxA (vs:=[_,_]) rfl rfl fun b1=>jA (k:=K1 (sQ fun K2=>sQ fun K3=>cj_reg (jF 0 ru112 so9 (k:=jH 0 ag9 (k:=?_))))))
 refine j_val rfl (fun _ _ h=>r_slen ru9 rfl h) (jG (k:=K3 ?_))
 refine cj_dec rfl (fun _=>?_) (fun _=>?_)
 ·refine sQ fun K4=>cj_reg (jA (k:=K4 (cj_ret ?_)))
  exact ej_ret1 results109 rfl fun w' hH hf=>⟨⟨_,rfl⟩,hf⟩
 ·refine cj_skip (K2 (sQ fun K5=>sQ fun K6=>cj_reg (jF 1 ru112 so53 (k:=jH 0 ag53 (k:=jE ru53 (k:=jG (k:=K6 (CJ.t [(10,_)] (k:=?_)))))))))
  refine cj_dec rfl (fun _=>?_) (fun _=>?_)
  ·refine sQ fun K7=>cj_reg (jA (k:=K7 (cj_ret ?_)))
   exact ej_ret1 results109 rfl fun w' hH hf=>⟨⟨_,rfl⟩,hf⟩
  ·refine cj_skip (K5 (sQ fun K8=>cj_reg (jA (k:=K8 (cj_ret ?_)))))
   exact ej_ret1 results109 rfl fun w' hH hf=>⟨⟨_,rfl⟩,hf⟩
theorem zzFits9_c (w:World) (v:Value) (xs:List PNums) (h:Lay RNums 2 w v xs):Calls Tryz.prog 93 #[v] w (Ret fun v w'=>(∃b,v=.bool b∧(b=true→xs.length≤2147483647))∧Fr 0 [] w w'):=by
 obtain ⟨p,c,rfl,hl,hx⟩:=h.open
 refine startJ (args:=[_]) [(0,_)] 0 [] [] func93 rfl ntmps93 rfl rfl .nil ?_
 refine sQ fun K1=>cj_reg (jA (k:=K1 (sQ fun K2=>sQ fun K3=>cj_reg (jM (k:=jE ru55 (k:=jG (k:=K3 ?_)))))))
 refine cj_dec rfl (fun hbig=>?_) (fun hbig=>?_)
 ·refine sQ fun K4=>cj_reg (jA (k:=K4 (cj_ret ?_)))
  exact ej_ret1 results93 rfl fun w' hH hf=>⟨⟨_,rfl,by first|(intro h;exact absurd h (by decide))|(intro _;omega)⟩,hf⟩
 ·refine cj_skip (K2 (sQ fun K5=>sQ fun K6=>cj_reg (jM (k:=jE ru55 (k:=jM (k:=K6 (cj_block ?_)))))))
  refine cj_loop (σ:=Nat) (fun k=>[(8,.slice p xs.length c),(9,.int .i64 (xs.length:Nat)),(10,.int .i64 (k:Nat))]) (fun _=>[]) (fun k _=>k≤xs.length) (fun k=>xs.length - k) 0 sR (fun w hH hf=>⟨.nil,Nat.zero_le _⟩) ?_
  intro k w1 hk hf1 hH1 KL hKL
  refine C.begin _ [] hf1 .nil ?_
  refine sQ fun K7=>cj_reg (jS (k:=K7 (sQ fun K8=>?_)))
  refine cj_dec rfl (fun hlt=>?_) (fun hlt=>?_)
  ·have hlt':k<xs.length:=by omega
   obtain ⟨b,o,cs,rfl,hcs,hR,hcell⟩:=hx k xs[k] (List.getElem?_eq_getElem hlt')
   have hR':=hR
   obtain ⟨la,rfl,hla⟩:=hR
   obtain ⟨p1,c1,rfl,hl1, -⟩:=hla.open
   refine cj_skip (K8 (sQ fun K9=>cj_block (sQ fun K10=>cj_reg (jJ ru55 so112 (k:=?_)))))
   refine j_valw rfl (fun a w ha hH hf=>r_loadA ag112 so112 rfl rfl (hcell w (hf.keepAll (.inr rfl))) ha) (j_allocA (zs:=[(.string ⟨#[]⟩),(.slice none 0 0)]) zv112 rfl fun b4=>jB [_,_] [_] 0 so112 (k:=K10 (sQ fun K11=>cj_reg ?_)))
   refine j_valw rfl (fun a w ha hH hf=>r_ldA (vs:=[_,_]) 0 rfl rfl ag112 so112 rfl rfl rfl ha hH) ?_
   refine j_callQ (φ:=fun v=>∃b,v=.bool b) call109 rfl rfl (fun w hH hf=>zzFits10_c w _ _ (RNums.keep (hf.keepAll (.inr rfl)) _ _ hR')) ?_
   rintro _ ⟨b15,rfl⟩
   refine jU (k:=K11 ?_)
   refine cj_if rfl (fun _=>?_) (fun _=>?_)
   ·refine sQ fun K12=>cj_reg (jA (k:=K12 (cj_ret ?_)))
    exact ej_ret1 results93 rfl fun w' hH hf=>⟨⟨_,rfl,by first|(intro h;exact absurd h (by decide))|(intro _;omega)⟩,hf⟩
   ·refine cj_skip (K9 (cj_reg (jI (k:=jM (k:=j_nil (ej_then ?_))))))
    exact fun w hH hf=>hKL (k+1) _ w hlt' hf .nil (by omega) sR
  ·refine cj_exit (K5 (CJ.t [] (k:=sQ fun K13=>cj_reg (jA (k:=K13 (cj_ret ?_))))))
   exact ej_ret1 results93 rfl fun w' hH hf=>⟨⟨_,rfl,by first|(intro h;exact absurd h (by decide))|(intro _;omega)⟩,hf⟩
theorem zzFits5_c (w:World) (cs:List Value) (x:PSample) (h:RSample w cs x):Calls Tryz.prog 57 #[.agg cs.toArray] w (Ret fun v w'=>(∃b,v=.bool b)∧Fr 0 [] w w'):=by
 obtain ⟨la,lb,lt,lu,rfl,hla,hlb,hlt,hlu⟩:=h
 obtain ⟨p1,c1,rfl,hl1, -⟩:=hla.open
 obtain ⟨p2,c2,rfl,hl2, -⟩:=hlb.open
 refine startJ (args:=[_]) [(0,_)] 0 [] [] func57 rfl ntmps57 rfl rfl .nil ?_
 refine sQ fun K1=>cj_reg (j_boxA (vs:=[_,_,_,_]) rfl rfl fun b1=>jA (k:=K1 (sQ fun K2=>sQ fun K3=>cj_reg (jF 0 ru57 so32 (k:=jH 0 ag32 (k:=jE ru32 (k:=jG (k:=K3 ?_))))))))
 refine cj_dec rfl (fun _=>?_) (fun _=>?_)
 ·refine sQ fun K4=>cj_reg (jA (k:=K4 (cj_ret ?_)))
  exact ej_ret1 results57 rfl fun w' hH hf=>⟨⟨_,rfl⟩,hf⟩
 ·refine cj_skip (K2 (sQ fun K5=>sQ fun K6=>cj_reg (jF 1 ru57 so53 (k:=jH 0 ag53 (k:=jE ru53 (k:=jG (k:=K6 (CJ.t [(1,_),(10,_)] (k:=?_)))))))))
  refine cj_dec rfl (fun _=>?_) (fun _=>?_)
  ·refine sQ fun K7=>cj_reg (jA (k:=K7 (cj_ret ?_)))
   exact ej_ret1 results57 rfl fun w' hH hf=>⟨⟨_,rfl⟩,hf⟩
  ·refine cj_skip (K5 (sQ fun K8=>sQ fun K9=>cj_reg (jF 2 ru57 so54 (k:=jH 0 ag54 (k:=?_)))))
   refine j_callQ (φ:=fun v=>∃b,v=.bool b∧(b=true→x.texts.length≤2147483647)) call92 rfl rfl (fun w hH hf=>zzFits6_c w _ _ (hlt.keep (RTexts.keep (hf.keepAll (.inr rfl))) (hf.keepAll (.inr rfl)))) ?_
   rintro _ ⟨b13,rfl,hb13⟩
   refine jU (k:=K9 ?_)
   refine cj_if rfl (fun _=>?_) (fun _=>?_)
   ·refine sQ fun K10=>cj_reg (jA (k:=K10 (cj_ret ?_)))
    exact ej_ret1 results57 rfl fun w' hH hf=>⟨⟨_,rfl⟩,hf⟩
   ·refine cj_skip (K8 (sQ fun K11=>sQ fun K12=>cj_reg (jF 3 ru57 so55 (k:=jH 0 ag55 (k:=?_)))))
    refine j_callQ (φ:=fun v=>∃b,v=.bool b∧(b=true→x.nums.length≤2147483647)) call93 rfl rfl (fun w hH hf=>zzFits9_c w _ _ (hlu.keep (RNums.keep (hf.keepAll (.inr rfl))) (hf.keepAll (.inr rfl)))) ?_
    rintro _ ⟨b17,rfl,hb17⟩
    refine jU (k:=K12 (CJ.t [(18,_)] (k:=?_)))
    refine cj_if rfl (fun _=>?_) (fun _=>?_)
    ·refine sQ fun K13=>cj_reg (jA (k:=K13 (cj_ret ?_)))
     exact ej_ret1 results57 rfl fun w' hH hf=>⟨⟨_,rfl⟩,hf⟩
    ·refine cj_skip (K11 (sQ fun K14=>cj_reg (jA (k:=K14 (cj_ret ?_)))))
     exact ej_ret1 results57 rfl fun w' hH hf=>⟨⟨_,rfl⟩,hf⟩
theorem zzFits4_c (w:World) (v:Value) (xs:List PSample) (h:Lay RSample 4 w v xs):Calls Tryz.prog 19 #[v] w (Ret fun v w'=>(∃b,v=.bool b∧(b=true→xs.length≤2147483647))∧Fr 0 [] w w'):=by
 obtain ⟨p,c,rfl,hl,hx⟩:=h.open
 refine startJ (args:=[_]) [(0,_)] 0 [] [] func19 rfl ntmps19 rfl rfl .nil ?_
 refine sQ fun K1=>cj_reg (jA (k:=K1 (sQ fun K2=>sQ fun K3=>cj_reg (jM (k:=jE ru23 (k:=jG (k:=K3 ?_)))))))
 refine cj_dec rfl (fun hbig=>?_) (fun hbig=>?_)
 ·refine sQ fun K4=>cj_reg (jA (k:=K4 (cj_ret ?_)))
  exact ej_ret1 results19 rfl fun w' hH hf=>⟨⟨_,rfl,by first|(intro h;exact absurd h (by decide))|(intro _;omega)⟩,hf⟩
 ·refine cj_skip (K2 (sQ fun K5=>sQ fun K6=>cj_reg (jM (k:=jE ru23 (k:=jM (k:=K6 (cj_block ?_)))))))
  refine cj_loop (σ:=Nat) (fun k=>[(8,.slice p xs.length c),(9,.int .i64 (xs.length:Nat)),(10,.int .i64 (k:Nat))]) (fun _=>[]) (fun k _=>k≤xs.length) (fun k=>xs.length - k) 0 sR (fun w hH hf=>⟨.nil,Nat.zero_le _⟩) ?_
  intro k w1 hk hf1 hH1 KL hKL
  refine C.begin _ [] hf1 .nil ?_
  refine sQ fun K7=>cj_reg (jS (k:=K7 (sQ fun K8=>?_)))
  refine cj_dec rfl (fun hlt=>?_) (fun hlt=>?_)
  ·have hlt':k<xs.length:=by omega
   obtain ⟨b,o,cs,rfl,hcs,hR,hcell⟩:=hx k xs[k] (List.getElem?_eq_getElem hlt')
   have hR':=hR
   obtain ⟨la,lb,lt,lu,rfl,hla,hlb,hlt2,hlu⟩:=hR
   obtain ⟨p1,c1,rfl,hl1, -⟩:=hla.open
   obtain ⟨p2,c2,rfl,hl2, -⟩:=hlb.open
   obtain ⟨p3,c3,rfl,hl3, -⟩:=hlt2.open
   obtain ⟨p4,c4,rfl,hl4, -⟩:=hlu.open
   refine cj_skip (K8 (sQ fun K9=>cj_block (sQ fun K10=>cj_reg (jJ ru23 so57 (k:=?_)))))
   refine j_valw rfl (fun a w ha hH hf=>r_loadA ag57 so57 rfl rfl (hcell w (hf.keepAll (.inr rfl))) ha) (j_allocA (zs:=[(.slice none 0 0),(.slice none 0 0),(.slice none 0 0),(.slice none 0 0)]) zv57 rfl fun b4=>jB [_,_,_,_] [_] 0 so57 (k:=K10 (sQ fun K11=>cj_reg ?_)))
   refine j_valw rfl (fun a w ha hH hf=>r_ldA (vs:=[_,_,_,_]) 0 rfl rfl ag57 so57 rfl rfl rfl ha hH) ?_
   refine j_callQ (φ:=fun v=>∃b,v=.bool b) call57 rfl rfl (fun w hH hf=>zzFits5_c w _ _ (RSample.keep (hf.keepAll (.inr rfl)) _ _ hR')) ?_
   rintro _ ⟨b15,rfl⟩
   refine jU (k:=K11 ?_)
   refine cj_if rfl (fun _=>?_) (fun _=>?_)
   ·refine sQ fun K12=>cj_reg (jA (k:=K12 (cj_ret ?_)))
    exact ej_ret1 results19 rfl fun w' hH hf=>⟨⟨_,rfl,by first|(intro h;exact absurd h (by decide))|(intro _;omega)⟩,hf⟩
   ·refine cj_skip (K9 (cj_reg (jI (k:=jM (k:=j_nil (ej_then ?_))))))
    exact fun w hH hf=>hKL (k+1) _ w hlt' hf .nil (by omega) sR
  ·refine cj_exit (K5 (CJ.t [] (k:=sQ fun K13=>cj_reg (jA (k:=K13 (cj_ret ?_))))))
   exact ej_ret1 results19 rfl fun w' hH hf=>⟨⟨_,rfl,by first|(intro h;exact absurd h (by decide))|(intro _;omega)⟩,hf⟩
theorem zzFits12_c (w:World) (cs:List Value) (x:PMapping) (h:RMapping w cs x):Calls Tryz.prog 58 #[.agg cs.toArray] w (Ret fun v w'=>(∃b,v=.bool b)∧Fr 0 [] w w'):=by
 obtain ⟨rfl, -⟩:=h
 refine startJ (args:=[_]) [(0,_)] 0 [] [] func58 rfl ntmps58 rfl rfl .nil ?_
 refine sQ fun K1=>cj_reg (j_boxA (vs:=[_,_,_,_,_,_,_,_,_,_]) rfl rfl fun b1=>jA (k:=K1 (sQ fun K2=>sQ fun K3=>cj_reg (jF 4 ru73 so9 (k:=jH 0 ag9 (k:=?_))))))
 refine j_val rfl (fun _ _ h=>r_slen ru9 rfl h) (jG (k:=K3 ?_))
 refine cj_dec rfl (fun _=>?_) (fun _=>?_)
 ·refine sQ fun K4=>cj_reg (jA (k:=K4 (cj_ret ?_)))
  exact ej_ret1 results58 rfl fun w' hH hf=>⟨⟨_,rfl⟩,hf⟩
 ·refine cj_skip (K2 (sQ fun K5=>sQ fun K6=>cj_reg (jF 5 ru73 so9 (k:=jH 0 ag9 (k:=?_)))))
  refine j_val rfl (fun _ _ h=>r_slen ru9 rfl h) (jG (k:=K6 (CJ.t [(10,_)] (k:=?_))))
  refine cj_dec rfl (fun _=>?_) (fun _=>?_)
  ·refine sQ fun K7=>cj_reg (jA (k:=K7 (cj_ret ?_)))
   exact ej_ret1 results58 rfl fun w' hH hf=>⟨⟨_,rfl⟩,hf⟩
  ·refine cj_skip (K5 (sQ fun K8=>cj_reg (jA (k:=K8 (cj_ret ?_)))))
   exact ej_ret1 results58 rfl fun w' hH hf=>⟨⟨_,rfl⟩,hf⟩
theorem zzFits11_c (w:World) (v:Value) (xs:List PMapping) (h:Lay RMapping 10 w v xs):Calls Tryz.prog 20 #[v] w (Ret fun v w'=>(∃b,v=.bool b∧(b=true→xs.length≤2147483647))∧Fr 0 [] w w'):=by
 obtain ⟨p,c,rfl,hl,hx⟩:=h.open
 refine startJ (args:=[_]) [(0,_)] 0 [] [] func20 rfl ntmps20 rfl rfl .nil ?_
 refine sQ fun K1=>cj_reg (jA (k:=K1 (sQ fun K2=>sQ fun K3=>cj_reg (jM (k:=jE ru24 (k:=jG (k:=K3 ?_)))))))
 refine cj_dec rfl (fun hbig=>?_) (fun hbig=>?_)
 ·refine sQ fun K4=>cj_reg (jA (k:=K4 (cj_ret ?_)))
  exact ej_ret1 results20 rfl fun w' hH hf=>⟨⟨_,rfl,by first|(intro h;exact absurd h (by decide))|(intro _;omega)⟩,hf⟩
 ·refine cj_skip (K2 (sQ fun K5=>sQ fun K6=>cj_reg (jM (k:=jE ru24 (k:=jM (k:=K6 (cj_block ?_)))))))
  refine cj_loop (σ:=Nat) (fun k=>[(8,.slice p xs.length c),(9,.int .i64 (xs.length:Nat)),(10,.int .i64 (k:Nat))]) (fun _=>[]) (fun k _=>k≤xs.length) (fun k=>xs.length - k) 0 sR (fun w hH hf=>⟨.nil,Nat.zero_le _⟩) ?_
  intro k w1 hk hf1 hH1 KL hKL
  refine C.begin _ [] hf1 .nil ?_
  refine sQ fun K7=>cj_reg (jS (k:=K7 (sQ fun K8=>?_)))
  refine cj_dec rfl (fun hlt=>?_) (fun hlt=>?_)
  ·have hlt':k<xs.length:=by omega
   obtain ⟨b,o,cs,rfl,hcs,hR,hcell⟩:=hx k xs[k] (List.getElem?_eq_getElem hlt')
   have hR':=hR
   obtain ⟨rfl, -⟩:=hR
   refine cj_skip (K8 (sQ fun K9=>cj_block (sQ fun K10=>cj_reg (jJ ru24 so73 (k:=?_)))))
   refine j_valw rfl (fun a w ha hH hf=>r_loadA ag73 so73 rfl rfl (hcell w (hf.keepAll (.inr rfl))) ha) (j_allocA (zs:=[(.int .u64 0),(.int .u64 0),(.int .u64 0),(.int .u64 0),(.string ⟨#[]⟩),(.string ⟨#[]⟩),(.bool false),(.bool false),(.bool false),(.bool false)]) zv73 rfl fun b4=>jB [_,_,_,_,_,_,_,_,_,_] [_] 0 so73 (k:=K10 (sQ fun K11=>cj_reg ?_)))
   refine j_valw rfl (fun a w ha hH hf=>r_ldA (vs:=[_,_,_,_,_,_,_,_,_,_]) 0 rfl rfl ag73 so73 rfl rfl rfl ha hH) ?_
   refine j_callQ (φ:=fun v=>∃b,v=.bool b) call58 rfl rfl (fun w hH hf=>zzFits12_c w _ _ (RMapping.keep (hf.keepAll (.inr rfl)) _ _ hR')) ?_
   rintro _ ⟨b15,rfl⟩
   refine jU (k:=K11 ?_)
   refine cj_if rfl (fun _=>?_) (fun _=>?_)
   ·refine sQ fun K12=>cj_reg (jA (k:=K12 (cj_ret ?_)))
    exact ej_ret1 results20 rfl fun w' hH hf=>⟨⟨_,rfl,by first|(intro h;exact absurd h (by decide))|(intro _;omega)⟩,hf⟩
   ·refine cj_skip (K9 (cj_reg (jI (k:=jM (k:=j_nil (ej_then ?_))))))
    exact fun w hH hf=>hKL (k+1) _ w hlt' hf .nil (by omega) sR
  ·refine cj_exit (K5 (CJ.t [] (k:=sQ fun K13=>cj_reg (jA (k:=K13 (cj_ret ?_))))))
   exact ej_ret1 results20 rfl fun w' hH hf=>⟨⟨_,rfl,by first|(intro h;exact absurd h (by decide))|(intro _;omega)⟩,hf⟩
theorem zzFits14_c (w:World) (cs:List Value) (x:PLoc) (h:RLoc w cs x):Calls Tryz.prog 59 #[.agg cs.toArray] w (Ret fun v w'=>(∃b,v=.bool b)∧Fr 0 [] w w'):=by
 obtain ⟨la,rfl, -, -, -,hla⟩:=h
 obtain ⟨p1,c1,rfl,hl1, -⟩:=hla.open
 refine startJ (args:=[_]) [(0,_)] 0 [] [] func59 rfl ntmps59 rfl rfl .nil ?_
 refine sQ fun K1=>cj_reg (j_boxA (vs:=[_,_,_,_]) rfl rfl fun b1=>jA (k:=K1 (sQ fun K2=>sQ fun K3=>cj_reg (jF 3 ru77 so75 (k:=jH 0 ag75 (k:=jE ru75 (k:=jG (k:=K3 ?_))))))))
 refine cj_dec rfl (fun _=>?_) (fun _=>?_)
 ·refine sQ fun K4=>cj_reg (jA (k:=K4 (cj_ret ?_)))
  exact ej_ret1 results59 rfl fun w' hH hf=>⟨⟨_,rfl⟩,hf⟩
 ·refine cj_skip (K2 (sQ fun K5=>cj_reg (jA (k:=K5 (cj_ret ?_)))))
  exact ej_ret1 results59 rfl fun w' hH hf=>⟨⟨_,rfl⟩,hf⟩
theorem zzFits13_c (w:World) (v:Value) (xs:List PLoc) (h:Lay RLoc 4 w v xs):Calls Tryz.prog 21 #[v] w (Ret fun v w'=>(∃b,v=.bool b∧(b=true→xs.length≤2147483647))∧Fr 0 [] w w'):=by
 obtain ⟨p,c,rfl,hl,hx⟩:=h.open
 refine startJ (args:=[_]) [(0,_)] 0 [] [] func21 rfl ntmps21 rfl rfl .nil ?_
 refine sQ fun K1=>cj_reg (jA (k:=K1 (sQ fun K2=>sQ fun K3=>cj_reg (jM (k:=jE ru25 (k:=jG (k:=K3 ?_)))))))
 refine cj_dec rfl (fun hbig=>?_) (fun hbig=>?_)
 ·refine sQ fun K4=>cj_reg (jA (k:=K4 (cj_ret ?_)))
  exact ej_ret1 results21 rfl fun w' hH hf=>⟨⟨_,rfl,by first|(intro h;exact absurd h (by decide))|(intro _;omega)⟩,hf⟩
 ·refine cj_skip (K2 (sQ fun K5=>sQ fun K6=>cj_reg (jM (k:=jE ru25 (k:=jM (k:=K6 (cj_block ?_)))))))
  refine cj_loop (σ:=Nat) (fun k=>[(8,.slice p xs.length c),(9,.int .i64 (xs.length:Nat)),(10,.int .i64 (k:Nat))]) (fun _=>[]) (fun k _=>k≤xs.length) (fun k=>xs.length - k) 0 sR (fun w hH hf=>⟨.nil,Nat.zero_le _⟩) ?_
  intro k w1 hk hf1 hH1 KL hKL
  refine C.begin _ [] hf1 .nil ?_
  refine sQ fun K7=>cj_reg (jS (k:=K7 (sQ fun K8=>?_)))
  refine cj_dec rfl (fun hlt=>?_) (fun hlt=>?_)
  ·have hlt':k<xs.length:=by omega
   obtain ⟨b,o,cs,rfl,hcs,hR,hcell⟩:=hx k xs[k] (List.getElem?_eq_getElem hlt')
   have hR':=hR
   obtain ⟨la,rfl, -, -, -,hla⟩:=hR
   obtain ⟨p1,c1,rfl,hl1, -⟩:=hla.open
   refine cj_skip (K8 (sQ fun K9=>cj_block (sQ fun K10=>cj_reg (jJ ru25 so77 (k:=?_)))))
   refine j_valw rfl (fun a w ha hH hf=>r_loadA ag77 so77 rfl rfl (hcell w (hf.keepAll (.inr rfl))) ha) (j_allocA (zs:=[(.int .u64 0),(.int .i64 0),(.int .u64 0),(.slice none 0 0)]) zv77 rfl fun b4=>jB [_,_,_,_] [_] 0 so77 (k:=K10 (sQ fun K11=>cj_reg ?_)))
   refine j_valw rfl (fun a w ha hH hf=>r_ldA (vs:=[_,_,_,_]) 0 rfl rfl ag77 so77 rfl rfl rfl ha hH) ?_
   refine j_callQ (φ:=fun v=>∃b,v=.bool b) call59 rfl rfl (fun w hH hf=>zzFits14_c w _ _ (RLoc.keep (hf.keepAll (.inr rfl)) _ _ hR')) ?_
   rintro _ ⟨b15,rfl⟩
   refine jU (k:=K11 ?_)
   refine cj_if rfl (fun _=>?_) (fun _=>?_)
   ·refine sQ fun K12=>cj_reg (jA (k:=K12 (cj_ret ?_)))
    exact ej_ret1 results21 rfl fun w' hH hf=>⟨⟨_,rfl,by first|(intro h;exact absurd h (by decide))|(intro _;omega)⟩,hf⟩
   ·refine cj_skip (K9 (cj_reg (jI (k:=jM (k:=j_nil (ej_then ?_))))))
    exact fun w hH hf=>hKL (k+1) _ w hlt' hf .nil (by omega) sR
  ·refine cj_exit (K5 (CJ.t [] (k:=sQ fun K13=>cj_reg (jA (k:=K13 (cj_ret ?_))))))
   exact ej_ret1 results21 rfl fun w' hH hf=>⟨⟨_,rfl,by first|(intro h;exact absurd h (by decide))|(intro _;omega)⟩,hf⟩
theorem zzFits16_c (w:World) (cs:List Value) (x:PFunc) (h:RFunc w cs x):Calls Tryz.prog 60 #[.agg cs.toArray] w (Ret fun v w'=>(∃b,v=.bool b)∧Fr 0 [] w w'):=by
 obtain ⟨rfl, -⟩:=h
 refine startJ (args:=[_]) [(0,_)] 0 [] [] func60 rfl ntmps60 rfl rfl .nil ?_
 refine sQ fun K1=>cj_reg (j_boxA (vs:=[_,_,_,_,_]) rfl rfl fun b1=>jA (k:=K1 (sQ fun K2=>sQ fun K3=>cj_reg (jF 1 ru80 so9 (k:=jH 0 ag9 (k:=?_))))))
 refine j_val rfl (fun _ _ h=>r_slen ru9 rfl h) (jG (k:=K3 ?_))
 refine cj_dec rfl (fun _=>?_) (fun _=>?_)
 ·refine sQ fun K4=>cj_reg (jA (k:=K4 (cj_ret ?_)))
  exact ej_ret1 results60 rfl fun w' hH hf=>⟨⟨_,rfl⟩,hf⟩
 ·refine cj_skip (K2 (sQ fun K5=>sQ fun K6=>cj_reg (jF 2 ru80 so9 (k:=jH 0 ag9 (k:=?_)))))
  refine j_val rfl (fun _ _ h=>r_slen ru9 rfl h) (jG (k:=K6 (CJ.t [(1,_),(10,_)] (k:=?_))))
  refine cj_dec rfl (fun _=>?_) (fun _=>?_)
  ·refine sQ fun K7=>cj_reg (jA (k:=K7 (cj_ret ?_)))
   exact ej_ret1 results60 rfl fun w' hH hf=>⟨⟨_,rfl⟩,hf⟩
  ·refine cj_skip (K5 (sQ fun K8=>sQ fun K9=>cj_reg (jF 3 ru80 so9 (k:=jH 0 ag9 (k:=?_)))))
   refine j_val rfl (fun _ _ h=>r_slen ru9 rfl h) (jG (k:=K9 ?_))
   refine cj_dec rfl (fun _=>?_) (fun _=>?_)
   ·refine sQ fun K10=>cj_reg (jA (k:=K10 (cj_ret ?_)))
    exact ej_ret1 results60 rfl fun w' hH hf=>⟨⟨_,rfl⟩,hf⟩
   ·refine cj_skip (K8 (sQ fun K11=>cj_reg (jA (k:=K11 (cj_ret ?_)))))
    exact ej_ret1 results60 rfl fun w' hH hf=>⟨⟨_,rfl⟩,hf⟩
theorem zzFits15_c (w:World) (v:Value) (xs:List PFunc) (h:Lay RFunc 5 w v xs):Calls Tryz.prog 22 #[v] w (Ret fun v w'=>(∃b,v=.bool b∧(b=true→xs.length≤2147483647))∧Fr 0 [] w w'):=by
 obtain ⟨p,c,rfl,hl,hx⟩:=h.open
 refine startJ (args:=[_]) [(0,_)] 0 [] [] func22 rfl ntmps22 rfl rfl .nil ?_
 refine sQ fun K1=>cj_reg (jA (k:=K1 (sQ fun K2=>sQ fun K3=>cj_reg (jM (k:=jE ru26 (k:=jG (k:=K3 ?_)))))))
 refine cj_dec rfl (fun hbig=>?_) (fun hbig=>?_)
 ·refine sQ fun K4=>cj_reg (jA (k:=K4 (cj_ret ?_)))
  exact ej_ret1 results22 rfl fun w' hH hf=>⟨⟨_,rfl,by first|(intro h;exact absurd h (by decide))|(intro _;omega)⟩,hf⟩
 ·refine cj_skip (K2 (sQ fun K5=>sQ fun K6=>cj_reg (jM (k:=jE ru26 (k:=jM (k:=K6 (cj_block ?_)))))))
  refine cj_loop (σ:=Nat) (fun k=>[(8,.slice p xs.length c),(9,.int .i64 (xs.length:Nat)),(10,.int .i64 (k:Nat))]) (fun _=>[]) (fun k _=>k≤xs.length) (fun k=>xs.length - k) 0 sR (fun w hH hf=>⟨.nil,Nat.zero_le _⟩) ?_
  intro k w1 hk hf1 hH1 KL hKL
  refine C.begin _ [] hf1 .nil ?_
  refine sQ fun K7=>cj_reg (jS (k:=K7 (sQ fun K8=>?_)))
  refine cj_dec rfl (fun hlt=>?_) (fun hlt=>?_)
  ·have hlt':k<xs.length:=by omega
   obtain ⟨b,o,cs,rfl,hcs,hR,hcell⟩:=hx k xs[k] (List.getElem?_eq_getElem hlt')
   have hR':=hR
   obtain ⟨rfl, -⟩:=hR
   refine cj_skip (K8 (sQ fun K9=>cj_block (sQ fun K10=>cj_reg (jJ ru26 so80 (k:=?_)))))
   refine j_valw rfl (fun a w ha hH hf=>r_loadA ag80 so80 rfl rfl (hcell w (hf.keepAll (.inr rfl))) ha) (j_allocA (zs:=[(.int .u64 0),(.string ⟨#[]⟩),(.string ⟨#[]⟩),(.string ⟨#[]⟩),(.int .i64 0)]) zv80 rfl fun b4=>jB [_,_,_,_,_] [_] 0 so80 (k:=K10 (sQ fun K11=>cj_reg ?_)))
   refine j_valw rfl (fun a w ha hH hf=>r_ldA (vs:=[_,_,_,_,_]) 0 rfl rfl ag80 so80 rfl rfl rfl ha hH) ?_
   refine j_callQ (φ:=fun v=>∃b,v=.bool b) call60 rfl rfl (fun w hH hf=>zzFits16_c w _ _ (RFunc.keep (hf.keepAll (.inr rfl)) _ _ hR')) ?_
   rintro _ ⟨b15,rfl⟩
   refine jU (k:=K11 ?_)
   refine cj_if rfl (fun _=>?_) (fun _=>?_)
   ·refine sQ fun K12=>cj_reg (jA (k:=K12 (cj_ret ?_)))
    exact ej_ret1 results22 rfl fun w' hH hf=>⟨⟨_,rfl,by first|(intro h;exact absurd h (by decide))|(intro _;omega)⟩,hf⟩
   ·refine cj_skip (K9 (cj_reg (jI (k:=jM (k:=j_nil (ej_then ?_))))))
    exact fun w hH hf=>hKL (k+1) _ w hlt' hf .nil (by omega) sR
  ·refine cj_exit (K5 (CJ.t [] (k:=sQ fun K13=>cj_reg (jA (k:=K13 (cj_ret ?_))))))
   exact ej_ret1 results22 rfl fun w' hH hf=>⟨⟨_,rfl,by first|(intro h;exact absurd h (by decide))|(intro _;omega)⟩,hf⟩
theorem zzFits1_c (w:World) (cs:List Value) (x:PProf) (h:RProf w cs x):Calls Tryz.prog 7 #[.agg cs.toArray] w (Ret fun v w'=>(∃b,v=.bool b∧(b=true→x.mappings.length≤2147483647∧x.locs.length≤2147483647∧x.funcs.length≤2147483647))∧Fr 0 [] w w'):=by
 obtain ⟨la,ls,lm,ll,lf,lcm,rfl,ha,hs,hm,hll,hfu,hcm, -⟩:=h
 refine startJ (args:=[_]) [(0,_)] 0 [] [] func7 rfl ntmps7 rfl rfl .nil ?_
 refine sQ fun K1=>cj_reg (j_boxA (vs:=[_,_,_,_,_,_,_,_,_,_,_,_,_,_]) rfl rfl fun b1=>jA (k:=K1 (sQ fun K2=>sQ fun K3=>cj_reg (jF 0 ru31 so22 (k:=jH 0 ag22 (k:=?_))))))
 refine j_callQ (φ:=fun v=>∃b,v=.bool b∧(b=true→x.types.length≤2147483647)) call18 rfl rfl (fun w hH hf=>zzFits2_c w _ _ (ha.keep (RType.keep (hf.keepAll (.inr rfl))) (hf.keepAll (.inr rfl)))) ?_
 rintro _ ⟨b5,rfl,hb5⟩
 refine jU (k:=K3 ?_)
 refine cj_if rfl (fun _=>?_) (fun _=>?_)
 ·refine sQ fun K4=>cj_reg (jA (k:=K4 (cj_ret ?_)))
  exact ej_ret1 results7 rfl fun w' hH hf=>⟨⟨_,rfl,by first|(intro h;exact absurd h (by decide))|(intro _;simp at h18 h22 h26;exact ⟨hb17 h18,hb21 h22,hb25 h26⟩)⟩,hf⟩
 ·refine cj_skip (K2 (sQ fun K5=>sQ fun K6=>cj_reg (jF 1 ru31 so9 (k:=jH 0 ag9 (k:=?_)))))
  refine j_val rfl (fun _ _ h=>r_slen ru9 rfl h) (jG (k:=K6 (CJ.t [(1,_),(10,_)] (k:=?_))))
  refine cj_dec rfl (fun _=>?_) (fun _=>?_)
  ·refine sQ fun K7=>cj_reg (jA (k:=K7 (cj_ret ?_)))
   exact ej_ret1 results7 rfl fun w' hH hf=>⟨⟨_,rfl,by first|(intro h;exact absurd h (by decide))|(intro _;simp at h18 h22 h26;exact ⟨hb17 h18,hb21 h22,hb25 h26⟩)⟩,hf⟩
  ·refine cj_skip (K5 (sQ fun K8=>sQ fun K9=>cj_reg (jF 2 ru31 so23 (k:=jH 0 ag23 (k:=?_)))))
   refine j_callQ (φ:=fun v=>∃b,v=.bool b∧(b=true→x.samples.length≤2147483647)) call19 rfl rfl (fun w hH hf=>zzFits4_c w _ _ (hs.keep (RSample.keep (hf.keepAll (.inr rfl))) (hf.keepAll (.inr rfl)))) ?_
   rintro _ ⟨b13,rfl,hb13⟩
   refine jU (k:=K9 ?_)
   refine cj_if rfl (fun _=>?_) (fun _=>?_)
   ·refine sQ fun K10=>cj_reg (jA (k:=K10 (cj_ret ?_)))
    exact ej_ret1 results7 rfl fun w' hH hf=>⟨⟨_,rfl,by first|(intro h;exact absurd h (by decide))|(intro _;simp at h18 h22 h26;exact ⟨hb17 h18,hb21 h22,hb25 h26⟩)⟩,hf⟩
   ·refine cj_skip (K8 (sQ fun K11=>sQ fun K12=>cj_reg (jF 3 ru31 so24 (k:=jH 0 ag24 (k:=?_)))))
    refine j_callQ (φ:=fun v=>∃b,v=.bool b∧(b=true→x.mappings.length≤2147483647)) call20 rfl rfl (fun w hH hf=>zzFits11_c w _ _ (hm.keep (RMapping.keep (hf.keepAll (.inr rfl))) (hf.keepAll (.inr rfl)))) ?_
    rintro _ ⟨b17,rfl,hb17⟩
    refine jU (k:=K12 (CJ.t [(1,_),(18,_)] (k:=?_)))
    refine cj_if rfl (fun h18=>?_) (fun h18=>?_)
    ·refine sQ fun K13=>cj_reg (jA (k:=K13 (cj_ret ?_)))
     exact ej_ret1 results7 rfl fun w' hH hf=>⟨⟨_,rfl,by first|(intro h;exact absurd h (by decide))|(intro _;simp at h18 h22 h26;exact ⟨hb17 h18,hb21 h22,hb25 h26⟩)⟩,hf⟩
    ·refine cj_skip (K11 (sQ fun K14=>sQ fun K15=>cj_reg (jF 4 ru31 so25 (k:=jH 0 ag25 (k:=?_)))))
     refine j_callQ (φ:=fun v=>∃b,v=.bool b∧(b=true→x.locs.length≤2147483647)) call21 rfl rfl (fun w hH hf=>zzFits13_c w _ _ (hll.keep (RLoc.keep (hf.keepAll (.inr rfl))) (hf.keepAll (.inr rfl)))) ?_
     rintro _ ⟨b21,rfl,hb21⟩
     refine jU (k:=K15 ?_)
     refine cj_if rfl (fun h22=>?_) (fun h22=>?_)
     ·refine sQ fun K16=>cj_reg (jA (k:=K16 (cj_ret ?_)))
      exact ej_ret1 results7 rfl fun w' hH hf=>⟨⟨_,rfl,by first|(intro h;exact absurd h (by decide))|(intro _;simp at h18 h22 h26;exact ⟨hb17 h18,hb21 h22,hb25 h26⟩)⟩,hf⟩
     ·refine cj_skip (K14 (sQ fun K17=>sQ fun K18=>cj_reg (jF 5 ru31 so26 (k:=jH 0 ag26 (k:=?_)))))
      refine j_callQ (φ:=fun v=>∃b,v=.bool b∧(b=true→x.funcs.length≤2147483647)) call22 rfl rfl (fun w hH hf=>zzFits15_c w _ _ (hfu.keep (RFunc.keep (hf.keepAll (.inr rfl))) (hf.keepAll (.inr rfl)))) ?_
      rintro _ ⟨b25,rfl,hb25⟩
      refine jU (k:=K18 (CJ.t [(1,_),(26,_)] (k:=?_)))
      refine cj_if rfl (fun h26=>?_) (fun h26=>?_)
      ·refine sQ fun K19=>cj_reg (jA (k:=K19 (cj_ret ?_)))
       exact ej_ret1 results7 rfl fun w' hH hf=>⟨⟨_,rfl,by first|(intro h;exact absurd h (by decide))|(intro _;simp at h18 h22 h26;exact ⟨hb17 h18,hb21 h22,hb25 h26⟩)⟩,hf⟩
      ·refine cj_skip (K17 (sQ fun K20=>sQ fun K21=>cj_reg (jF 6 ru31 so27 (k:=jH 0 ag27 (k:=?_)))))
       refine j_callQ (φ:=fun v=>∃b,v=.bool b∧(b=true→x.comments.length≤2147483647)) call23 rfl rfl (fun w hH hf=>zzFits8_c w _ _ (hcm.keep (RStr.keep (hf.keepAll (.inr rfl))) (hf.keepAll (.inr rfl)))) ?_
       rintro _ ⟨b29,rfl,hb29⟩
       refine jU (k:=K21 ?_)
       refine cj_if rfl (fun _=>?_) (fun _=>?_)
       ·refine sQ fun K22=>cj_reg (jA (k:=K22 (cj_ret ?_)))
        exact ej_ret1 results7 rfl fun w' hH hf=>⟨⟨_,rfl,by first|(intro h;exact absurd h (by decide))|(intro _;simp at h18 h22 h26;exact ⟨hb17 h18,hb21 h22,hb25 h26⟩)⟩,hf⟩
       ·refine cj_skip (K20 (sQ fun K23=>sQ fun K24=>cj_reg (jF 7 ru31 so9 (k:=jH 0 ag9 (k:=?_)))))
        refine j_val rfl (fun _ _ h=>r_slen ru9 rfl h) (jG (k:=K24 (CJ.t [(1,_),(34,_)] (k:=?_))))
        refine cj_dec rfl (fun _=>?_) (fun _=>?_)
        ·refine sQ fun K25=>cj_reg (jA (k:=K25 (cj_ret ?_)))
         exact ej_ret1 results7 rfl fun w' hH hf=>⟨⟨_,rfl,by first|(intro h;exact absurd h (by decide))|(intro _;simp at h18 h22 h26;exact ⟨hb17 h18,hb21 h22,hb25 h26⟩)⟩,hf⟩
        ·refine cj_skip (K23 (sQ fun K26=>sQ fun K27=>cj_reg (jF 8 ru31 so9 (k:=jH 0 ag9 (k:=?_)))))
         refine j_val rfl (fun _ _ h=>r_slen ru9 rfl h) (jG (k:=K27 ?_))
         refine cj_dec rfl (fun _=>?_) (fun _=>?_)
         ·refine sQ fun K28=>cj_reg (jA (k:=K28 (cj_ret ?_)))
          exact ej_ret1 results7 rfl fun w' hH hf=>⟨⟨_,rfl,by first|(intro h;exact absurd h (by decide))|(intro _;simp at h18 h22 h26;exact ⟨hb17 h18,hb21 h22,hb25 h26⟩)⟩,hf⟩
         ·refine cj_skip (K26 (sQ fun K29=>sQ fun K30=>cj_reg (jF 12 ru31 so29 (k:=?_))))
          refine j_valw rfl (fun a w ha hH hf=>r_ldA (vs:=[_,_]) 0 rfl rfl ag29 so29 rfl rfl rfl ha hH) ?_
          refine j_callQ (φ:=fun v=>∃b,v=.bool b) call24 rfl rfl (fun w hH hf=>zzFits3_c w _ x.per rfl) ?_
          rintro _ ⟨b41,rfl⟩
          refine jU (k:=K30 (CJ.t [(42,_)] (k:=?_)))
          refine cj_if rfl (fun _=>?_) (fun _=>?_)
          ·refine sQ fun K31=>cj_reg (jA (k:=K31 (cj_ret ?_)))
           exact ej_ret1 results7 rfl fun w' hH hf=>⟨⟨_,rfl,by first|(intro h;exact absurd h (by decide))|(intro _;simp at h18 h22 h26;exact ⟨hb17 h18,hb21 h22,hb25 h26⟩)⟩,hf⟩
          ·refine cj_skip (K29 (sQ fun K32=>cj_reg (jA (k:=K32 (cj_ret ?_)))))
           exact ej_ret1 results7 rfl fun w' hH hf=>⟨⟨_,rfl,by first|(intro h;exact absurd h (by decide))|(intro _;simp at h18 h22 h26;exact ⟨hb17 h18,hb21 h22,hb25 h26⟩)⟩,hf⟩
end Go.Proofs.YtifdadlhmlhfiaaGreatDoor
namespace Go.Fw
open Go
end Go.Fw
namespace Go.Proofs.YtifdadlhmlhfiaaGreatDoor
open Go Go.Fw Go.Proofs Go.Proofs.Tryz
theorem GotP.rprof {w:World} {cs:List Value} {x:PProf} (hx:WellP x) (hr:Rng x) (h:GotP w cs x):RProf w cs x:=by
 obtain ⟨vT,vS,vM,vL,vF,vC,sq,rfl,hPV,h7,h8,h9⟩:=h
 obtain ⟨lq,h4,h5,h6⟩:=hPV.lc
 have n1:=hx.ntyp
 have n2:=hx.nsam
 have n6:=hx.ncom
 have n3:=hx.tab.m.2.2
 have n5:=hx.tab.f.2.2
 have n4:=hx.tab.l.2.2
 simp only[List.length_map]at n3 n4 n5
 refine ⟨_,_,_,_,_,_,rfl,lay_of_os (f:=fun x=>x) hPV.ty (by simp) (fun _=>rfl) (by omega) (fun _ _=>rfl) (by omega),lay_of_os h8 h7 (fun _=>rfl) (by omega) (fun q hq=>?_) (by omega),lay_of_os (f:=fun x=>x) hPV.mp (by simp) (fun _=>rfl) (by omega) (fun m hm=>⟨rfl,hr.maps m hm⟩) (by omega),
  lay_of_os h5 h4 (fun _=>rfl) (by omega) (fun q hq=>?_) (by omega),lay_of_os (f:=fun x=>x) hPV.fn (by simp) (fun _=>rfl) (by omega) (fun m hm=>⟨rfl,hr.funs m hm⟩) (by omega),lay_of_os1 hPV.co (fun _ _=>rfl) (by omega),hr.time,hr.dur,hr.period⟩
 ·have hm:q.1∈x.samples:=by rw[← h7];exact List.mem_map_of_mem hq
  obtain ⟨hv1,hv2,hst,hLab,hsk⟩:=hx.samples _ hm
  have hq9:=h9 q hq
  obtain ⟨ys,t1,t2,t3,t4⟩:=hq9.tx
  obtain ⟨zs,u1,u2,u3,u4⟩:=hq9.nu
  exact ⟨_,_,_,_,rfl,lay_of_os1 hq9.st (fun z hz=>⟨rfl,by have:=hsk z hz;exact wrap64_small (by omega) (by omega)⟩) (by omega),lay_of_os1 hq9.vs (fun z hz=>⟨rfl,hr.vals _ hm z hz⟩) (by omega),lay_texts hLab t1 t2 t3 t4,lay_nums hLab (fun t ht n hn=>hr.nums _ hm t ht n hn) u1 u2 u3 u4⟩
 ·have hm:q.1∈x.locs:=by rw[← h4];exact List.mem_map_of_mem hq
  obtain ⟨r1,r2,r3⟩:=hr.locs _ hm
  obtain ⟨⟨m1,m2⟩,m3,m4⟩:=hx.tab.locs _ hm
  refine ⟨_,rfl,r1,wrap64_small (by omega) (by omega),r2,lay_of_os (f:=fun x=>x) (h6 q hq) (by simp) (fun _=>rfl) (by omega) (fun n hn=>⟨rfl,?_,r3 n hn⟩) (by omega)⟩
  have:=m4 n hn
  exact wrap64_small (by omega) (by omega)
end Go.Proofs.YtifdadlhmlhfiaaGreatDoor
namespace Go.Fw
open Go
section
variable {P:Program} {Q:Exit→Act→World→Prop} {n:Nat} {f:Fm} {e:Env} {H:Heap}
theorem ej_ret2C {fn:Func} {R:Value→World→Prop} {s T m t:Nat} {b:Nat} {vs:List Value} {u:Value} (hres:fn.results= #[.cell s T,.tmp t]) (hag:∀w,(isAgg T).run P w=.ok true w) (hsz:∀w,(sizeOf T).run P w=.ok m w) (hvm:vs.length=m)
  (hs:look e s=some (.pointer (some ⟨b,0,none⟩))) (ht:look e t=some u) (hb:∀w,Hp f w H→f.ok w→∃U,Blk w b U vs) (h:∀w,Hp f w H→f.ok w→R (.tuple #[.agg vs.toArray,u]) w):
  EJ (bodyPost P fn (Ret R)) .ret n f e H:=fun w hH hf a ha=>by
 refine ⟨ha.defs,_,?_,h w hH hf⟩
 have h2:=ha.has s _ hs
 have h4:=ha.has t _ ht
 obtain ⟨U,hbk⟩:=hb w hH hf
 have h3:=run_loadCells (P:=P) (b:=b) w vs 0 hbk.cells
 simp only[results,hres]
 simp[Array.getD_eq_getD_getElem?,h2,h4,asAddr,loadVar,hag,hsz, ← hvm,h3]
end
end Go.Fw
namespace Go.Proofs.YtifdadlhmlhfiaaGreatDoor
open Go Go.Fw Go.Proofs Go.Proofs.Tryz
theorem GEnc.pos {g:GFld} {bs:List Nat} (h:GEnc g bs):0<bs.length:=by
 cases g with
 |fld f=>
  cases f with
  |num k n=>obtain ⟨t,v,rfl,h1, -⟩:=h;have:=h1.pos;simp;omega
  |bys k B=>obtain ⟨t,v,rfl,h1, -⟩:=h;have:=h1.pos;simp;omega
 |fix8 k B=>obtain ⟨t,rfl,h1, -⟩:=h;have:=h1.pos;simp;omega
 |fix4 k B=>obtain ⟨t,rfl,h1, -⟩:=h;have:=h1.pos;simp;omega
theorem UIn.pos {x:PProf} {T:List ByteArray} {m:Msg} (h:UIn x T m):0<(mB m).length:=by
 have h1:=h.z0
 have h2:=h.tab
 have h3:=h.ok.enc
 cases m with
 |nil=>
  have h4:T=[]:=by simpa[flds]using h2.symm
  rw[h4]at h1;cases h1
 |cons a r=>
  have h5:=GEnc.pos (h3 a (List.Mem.head _))
  simp only[mB,List.flatMap_cons,List.length_append]
  omega
set_option maxHeartbeats 1000000 in
theorem parseU_c (w:World) (x:PProf) (T:List ByteArray) (hx:WellP x) (b c:Nat) (m:Msg) (hI:UIn x T m) (hB:Bys w b 0 c (mB m)):
  Calls Tryz.prog 63 #[.slice (some ⟨b,0,none⟩) (mB m).length c] w (Ret fun v w'=>(∃B g,v=.tuple #[ptr g.pb,.nilIface]∧OfQ B w' x g)∧Fr 0 [] w w'):=by
 have hpos:=hI.pos
 refine startJ (args:=[_]) [(0,_)] 0 [] [] Tryz.func63 rfl Tryz.ntmps63 rfl rfl .nil ?_
 refine sQ fun K1=>cj_reg (jA (k:=jA (k:=K1 (sQ fun K2=>sQ fun K3=>cj_reg (jM (k:=jE ru36 (k:=jQ (k:=?_))))))))
 refine j_eqv (u:=.bool false) (congrArg Value.bool (decide_eq_false (by omega))) ?_
 refine K3 (cj_if_f rfl (cj_skip (K2 (sQ fun K4=>cj_reg (j_val rfl (fun _ _ h=>r_build (cs:=[(.slice none 0 0),(.string ⟨#[]⟩),(.slice none 0 0),(.slice none 0 0),(.slice none 0 0),(.slice none 0 0),(.slice none 0 0),(.string ⟨#[]⟩),(.string ⟨#[]⟩),(.int .i64 0),(.int .i64 0),(.pointer none),(.int .i64 0),(.slice none 0 0),(.int .i64 0),(.int .i64 0),(.slice none 0 0),(.int .i64 0)]) bt125 rfl rfl h) (j_boxA (vs:=[_,_,_,_,_,_,_,_,_,_,_,_,_,_,_,_,_,_]) rfl rfl fun b12=>jA (k:=K4 (sQ fun K5=>sQ fun K6=>cj_reg (jM (k:=jM (k:=?_)))))))))))
 refine j_val rfl (fun _ _ h=>r_mki ru59 rfl rfl h) ?_
 refine j_callE (R:=fun w5 v w6=>v=.nilIface∧(∃g' vp,g'.pb=b12∧RawP w5.heap.size T x g' vp w6)∧KeepX [b12] w5 w6) Tryz.call88 rfl rfl (fun w5 hH hf=>unmarshal_c x T hx w5 b 0 c b12 m hI (hB.keep hf) (hH.get (i:=0) rfl rfl)) fun w5 v w6 hH5 hf5 hR=>?_
 obtain ⟨rfl,⟨g',vp,hgb,hRaw⟩,hk6⟩:=hR
 have hnb:w.heap.size≤b12:=hH5.fresh (i:=0) rfl rfl rfl
 have hfr6:Fr 0 [] w w6:=frK hf5 hk6 fun b hb=>by
  simp at hb;subst hb
  exact .inl hnb
 subst hgb
 refine J.begin ⟨w6,0,[]⟩ [] ok_refl .nil ?_
 refine jA (k:=K6 (CJ.t [(4,_),(5,_)] (k:=sQ fun K7=>cj_reg (jM (k:=?_)))))
 refine j_val rfl (fun _ _ h=>r_inil ud61 rfl h) (K7 (cj_if_f rfl (cj_skip (K5 (sQ fun K8=>sQ fun K9=>cj_reg (jM (k:=?_)))))))
 refine j_callE (R:=fun w7 v w8=>v=.nilIface∧∃g2,g2.pb=g'.pb∧OfQ w.heap.size w8 x g2∧Fr w.heap.size (tProf::wP) w7 w8) Tryz.call89 rfl rfl (fun w7 hH hf=>postDecode_c w.heap.size w7 x T g' vp ((hRaw.fr hf).le hf5.size) hx hnb hI.tl hI.z0) fun w7 v w8 hH7 hf7 hR=>?_
 obtain ⟨rfl,g2,hg2,hQ,hfr8⟩:=hR
 have hfr9:Fr 0 [] w w8:=Fr.trans (frQ hfr6 hf7) hfr8 (.inl (Nat.le_refl _))
 rw[← hg2]
 refine J.begin ⟨w8,0,[]⟩ [] ok_refl .nil ?_
 refine jA (k:=K9 (sQ fun K10=>cj_reg (jM (k:=?_))))
 refine j_val rfl (fun _ _ h=>r_inil ud61 rfl h) (K10 (cj_if_f rfl (cj_skip (K8 (sQ fun K11=>cj_reg (jM (k:=jA (k:=jA (k:=K11 (CJ.t [(2,_),(3,_)] (k:=cj_ret ?_)))))))))))
 exact ej_ret2 Tryz.results63 rfl rfl fun w' hH hf=>⟨⟨_,g2,rfl,hQ.fr hf⟩,frQ hfr9 hf⟩
set_option maxHeartbeats 1000000 in
theorem parseBytes_c (w:World) (x:PProf) (T:List ByteArray) (hx:WellP x) (b c:Nat) (m:Msg) (hI:UIn x T m) (hB:Bys w b 0 c (mB m)):
  Calls Tryz.prog 27 #[.slice (some ⟨b,0,none⟩) (mB m).length c] w (Ret fun v w'=>(∃B g,v=.tuple #[ptr g.pb,.nilIface]∧OfQ B w' x g)∧Fr 0 [] w w'):=by
 refine startJ (args:=[_]) [(0,_)] 0 [] [] Tryz.func27 rfl Tryz.ntmps27 rfl rfl .nil ?_
 refine sQ fun K1=>cj_reg (jA (k:=jA (k:=K1 (sQ fun K2=>cj_reg (jM (k:=?_))))))
 refine j_callE (R:=fun w1 v w2=>(∃B g,v=.tuple #[ptr g.pb,.nilIface]∧OfQ B w2 x g)∧Fr 0 [] w1 w2) Tryz.call63 rfl rfl (fun w1 hH hf=>parseU_c w1 x T hx b c m hI (hB.keep hf)) fun w1 v w2 hH1 hf1 hR=>?_
 obtain ⟨⟨B,g,rfl,hQ⟩,hf2⟩:=hR
 have hfr2:Fr 0 [] w w2:=frQ hf1 hf2
 refine J.begin ⟨w2,0,[]⟩ [] ok_refl .nil ?_
 refine jM (k:=jX (k:=jX (k:=jA (k:=jA (k:=K2 (sQ fun K3=>sQ fun K4=>cj_reg (jM (k:=?_))))))))
 refine j_val rfl (fun _ _ h=>r_inil ud61 rfl h) (K4 (CJ.t [(4,_),(5,_),(13,_)] (k:=?_)))
 refine cj_if_f rfl (cj_skip (K3 (sQ fun K5=>sQ fun K6=>cj_reg (jM (k:=?_)))))
 refine j_callE (R:=fun w3 v w4=>v=.nilIface∧Fr 0 [] w3 w4) Tryz.call65 rfl rfl (fun w3 hH hf=>checkValid_c _ w3 x g (hQ.fr hf) hx.chk) fun w3 v w4 hH3 hf3 hR=>?_
 obtain ⟨rfl,hf4⟩:=hR
 have hfr4:Fr 0 [] w w4:=frQ (frQ hfr2 hf3) hf4
 have hQ4:=(hQ.fr hf3).fr hf4
 refine J.begin ⟨w4,0,[]⟩ [] ok_refl .nil ?_
 refine jA (k:=K6 (sQ fun K7=>cj_reg (jM (k:=?_))))
 refine j_val rfl (fun _ _ h=>r_inil ud61 rfl h) (K7 (cj_if_f rfl (cj_skip (K5 (sQ fun K8=>cj_reg (jM (k:=jA (k:=jA (k:=K8 (cj_ret ?_))))))))))
 exact ej_ret2 Tryz.results27 rfl rfl fun w' hH hf=>⟨⟨B,g,rfl,hQ4.fr hf⟩,frQ hfr4 hf⟩
set_option maxHeartbeats 1000000 in
theorem implRead_c (w:World) (x:PProf) (T:List ByteArray) (hx:WellP x) (hr:Rng x) (v0:Value) (m:Msg) (hI:UIn x T m) (hB:OS tU8 1 w v0 ((mB m).map bv)):
  Calls Tryz.prog 9 #[v0] w (Ret fun v w'=>(∃ds,v=.tuple #[.agg (List.toArray ds),.bool true]∧RProf w' ds x)∧Fr 0 [] w w'):=by
 have hpos:=hI.pos
 have hlen:=hI.ok.len
 obtain ⟨b0,c0,rfl,hB0⟩:=bys_of_os hB hpos
 refine startJ (args:=[_]) [(0,_)] 0 [] [] Tryz.func9 rfl Tryz.ntmps9 rfl rfl .nil ?_
 refine sQ fun K1=>cj_reg (j_allocA (zs:=[(.slice none 0 0),(.string ⟨#[]⟩),(.slice none 0 0),(.slice none 0 0),(.slice none 0 0),(.slice none 0 0),(.slice none 0 0),(.string ⟨#[]⟩),(.string ⟨#[]⟩),(.int .i64 0),(.int .i64 0),(.int .i64 0),(.string ⟨#[]⟩),(.string ⟨#[]⟩)]) zv31 rfl fun b2=>jA (k:=K1 (sQ fun K2=>cj_reg ?_)))
 refine j_bslice0 ru36 so5 rfl fun b7=>jM (k:=?_)
 refine j_appS 0 rfl Own.empty ru36 el5 rfl rfl rfl hB rfl (fun z hz=>by obtain ⟨u, -,rfl⟩:=List.mem_map.1 hz;rfl) (by omega) rfl fun y9 p9 c9 hO9=>?_
 refine j_callE (R:=fun w1 v w2=>(∃B g,v=.tuple #[ptr g.pb,.nilIface]∧OfQ B w2 x g)∧Fr 0 [] w1 w2) Tryz.call27 rfl rfl (fun w1 hH hf=>by
   obtain ⟨b,c,e,hB1⟩:=bys_of_os (hO9.os hH (i:=0) rfl) hpos
   rw[Nat.zero_add]at e⊢
   rw[e]
   exact parseBytes_c w1 x T hx b c m hI hB1) fun w1 v w2 hH1 hf1 hR=>?_
 obtain ⟨⟨B,g,rfl,hQ⟩,hf2⟩:=hR
 have hfr2:Fr 0 [] w w2:=frQ hf1 hf2
 have hb2:Blk w2 b2 tIP zIP:=hf2.blk (hH1.get (i:=1) rfl rfl) (.inr (by simp))
 have hge2:w.heap.size≤b2:=hH1.fresh (i:=1) rfl rfl rfl
 refine J.begin ⟨w2,0,[]⟩ [] ok_refl .nil ?_
 refine jM (k:=jX (k:=jX (k:=jA (k:=jA (k:=K2 (sQ fun K3=>sQ fun K4=>cj_reg (jM (k:=?_))))))))
 refine j_val rfl (fun _ _ h=>r_inil ud61 rfl h) (K4 (CJ.t [(2,_),(4,_),(14,_)] (k:=?_)))
 refine cj_if_f rfl (cj_skip (K3 (sQ fun K5=>cj_reg (jM (k:=?_)))))
 refine j_callE (R:=fun w5 v w6=>(∃ds,v=.agg (List.toArray ds)∧GotP w6 ds x)∧Fr 0 [] w5 w6) Tryz.call28 rfl rfl (fun w5 hH hf=>plain_c _ w5 x g (hQ.fr hf) hx) fun w5 v w6 hH5 hf5 hR=>?_
 obtain ⟨⟨ds,rfl,hGP⟩,hf6⟩:=hR
 have hfr6:Fr 0 [] w w6:=frQ hfr2 (frQ hf5 hf6)
 have hb6:Blk w6 b2 tIP zIP:=hf6.blk (hf5.blk hb2 (.inr (by simp))) (.inr (by simp))
 obtain ⟨vT,vS,vM,vL,vF,vC,sq,rfl,hPV,hsq,hOS,hSM⟩:=id hGP
 obtain ⟨lqX, -,hlcX, -⟩:=hPV.lc
 obtain ⟨pT,lT,cT,rfl, -⟩:=hPV.ty.open
 obtain ⟨pS,lS,cS,rfl, -⟩:=hOS.open
 obtain ⟨pM,lM,cM',rfl, -⟩:=hPV.mp.open
 obtain ⟨pL,lL,cL,rfl, -⟩:=hlcX.open
 obtain ⟨pF,lF,cF,rfl, -⟩:=hPV.fn.open
 obtain ⟨pC,lC,cC,rfl, -⟩:=hPV.co.open
 refine J.begin ⟨w6,w.heap.size,[tIP]⟩ (⟨b2,tIP,zIP,true,true,none⟩::restH w6 [b2]) ok_refl (Hp.one hb6 hge2 rfl) ?_
 refine j_storeW 0 rfl rfl rfl rfl so31 rfl rfl rfl rfl rfl ?_
 refine jA (k:=K5 (cj_ret ?_))
 exact ej_ret2C Tryz.results9 ag31 so31 rfl rfl rfl (fun w' hH hf=>⟨_,hH.get (i:=0) rfl rfl⟩) fun w' hH hf=>⟨⟨_,rfl,GotP.rprof hx hr ⟨_,_,_,_,_,_,sq,rfl,hPV.fr hf rfl,hsq,hOS.mono (fr_row hf rfl),hSM.fr hf rfl⟩⟩,Fr.trans hfr6 hf (.inl (Nat.le_refl _))⟩
set_option maxHeartbeats 1000000 in
theorem root_road (w:World) (cs:List Value) (x:PProf) (h:RProf w cs x) (hS:sumS (allS x)≤100000000):
  Calls Tryz.prog 5 #[.agg cs.toArray] w (Ret fun v w'=>v=.bool true∧Fr 0 [] w w'):=by
 have hP:=h
 have hr:=RProf.rng h
 obtain ⟨la,ls,lm,ll,lf,lcm,rfl,hla,hls,hlm,hll,hlf,hlcm, -⟩:=h
 obtain ⟨pa,ca,rfl, -⟩:=hla.open
 obtain ⟨ps,c_s,rfl, -⟩:=hls.open
 obtain ⟨pm,c_m,rfl, -⟩:=hlm.open
 obtain ⟨pl,cl,rfl, -⟩:=hll.open
 obtain ⟨pf,cf,rfl, -⟩:=hlf.open
 obtain ⟨pc,cc,rfl, -⟩:=hlcm.open
 refine startJ (args:=[_]) [(0,.agg (List.toArray [_,_,_,_,_,_,_,_,_,_,_,_,_,_]))] 0 [] [] func5 rfl ntmps5 rfl rfl .nil ?_
 refine sQ fun K1=>cj_reg (j_boxA (vs:=[_,_,_,_,_,_,_,_,_,_,_,_,_,_]) rfl rfl fun b1=>jA (k:=K1 (sQ fun K2=>sQ fun K3=>cj_reg ?_)))
 refine j_valw rfl (fun a w ha hH hf=>r_ldA (vs:=[_,_,_,_,_,_,_,_,_,_,_,_,_,_]) 0 rfl rfl ag31 so31 rfl rfl rfl ha hH) ?_
 refine j_callQ (φ:=fun v=>∃b,v=.bool b∧(b=true→x.mappings.length≤2147483647∧x.locs.length≤2147483647∧x.funcs.length≤2147483647)) call7 rfl rfl (fun w hH hf=>zzFits1_c w _ _ (RProf.keep (hf.keepAll (.inr rfl)) _ _ hP)) ?_
 rintro _ ⟨bf,rfl,hbf⟩
 refine jU (k:=K3 ?_)
 refine cj_if rfl (fun h7=>?_) (fun h7=>?_)
 ·refine sQ fun K4=>cj_reg (jA (k:=K4 (cj_ret ?_)))
  first
  |exact ej_ret1 results5 rfl fun w' hH hf=>⟨rfl,hf⟩
  |exact ej_ret1 results5 rfl fun w' hH hf=>⟨rfl,frQ hfr4 hf⟩
 ·have hbf:=hbf (by simpa using h7)
  refine cj_skip (K2 (sQ fun K5=>sQ fun K6=>cj_reg (j_valw rfl (fun a w ha hH hf=>r_ldA (vs:=[_,_,_,_,_,_,_,_,_,_,_,_,_,_]) 0 rfl rfl ag31 so31 rfl rfl rfl ha hH) ?_)))
  refine j_callQ (φ:=fun v=>∃b,v=.bool b∧(b=true→WellP x)) call8 rfl rfl (fun w hH hf=>well_c w _ _ (RProf.keep (hf.keepAll (.inr rfl)) _ _ hP) hbf.1 hbf.2.1 hbf.2.2) ?_
  rintro _ ⟨bw,rfl,hbw⟩
  refine jU (k:=jM (k:=?_))
  refine j_split (t:=11) rfl (fun hg11=>?_) (fun hg11=>?_)
  ·refine j_gf rfl rfl rfl rfl (j_gf rfl rfl rfl rfl (j_gf rfl rfl rfl rfl (jT (k:=K6 (CJ.t [(1,_),(15,_)] (k:=?_))))))
   refine cj_if_t rfl (sQ fun K7=>cj_reg (jA (k:=K7 (cj_ret ?_))))
   first
   |exact ej_ret1 results5 rfl fun w' hH hf=>⟨rfl,hf⟩
   |exact ej_ret1 results5 rfl fun w' hH hf=>⟨rfl,frQ hfr4 hf⟩
  ·refine j_gt rfl rfl (j_valw rfl (fun a w ha hH hf=>r_ldA (vs:=[_,_,_,_,_,_,_,_,_,_,_,_,_,_]) 0 rfl rfl ag31 so31 rfl rfl rfl ha hH) (j_gt rfl rfl ?_))
   refine j_callQ (φ:=fun v=>∃b,v=.bool b∧(b=true→x.comments=[]∧x.deflt=⟨#[]⟩)) call12 rfl rfl (fun w hH hf=>bare_c w _ _ (RProf.keep (hf.keepAll (.inr rfl)) _ _ hP)) ?_
   rintro _ ⟨bb,rfl,hbb⟩
   refine j_gt rfl rfl (jU (k:=jK (k:=K6 ?_)))
   refine cj_if rfl (fun h15=>?_) (fun h15=>?_)
   ·refine sQ fun K8=>cj_reg (jA (k:=K8 (cj_ret ?_)))
    first
    |exact ej_ret1 results5 rfl fun w' hH hf=>⟨rfl,hf⟩
    |exact ej_ret1 results5 rfl fun w' hH hf=>⟨rfl,frQ hfr4 hf⟩
   ·have hx:WellP x:=hbw (by simpa using hg11)
    obtain ⟨hc,hd⟩:=hbb (by simpa using h15)
    refine cj_skip (K5 (sQ fun K9=>cj_reg (j_valw rfl (fun a w ha hH hf=>r_ldA (vs:=[_,_,_,_,_,_,_,_,_,_,_,_,_,_]) 0 rfl rfl ag31 so31 rfl rfl rfl ha hH) ?_)))
    refine j_callE (R:=fun w1 v w2=>(∃T q,PR x T q∧OS tU8 1 w2 v ((pfB q).map bv))∧Fr 0 [] w1 w2) call14 rfl rfl (fun w1 hH hf=>write_c w1 _ x (RProf.keep (hf.keepAll (.inr rfl)) _ _ hP) hx hS) fun w1 v w2 hH1 hf1 hR=>?_
    obtain ⟨⟨T,q,hPR,hos⟩,hf2⟩:=hR
    have hI:=uin hPR hx hr hS hc hd
    rw[← pfF_enc, ← mB_cM]at hos
    have hfr:Fr 0 [] w w2:=frQ hf1 hf2
    have hb1:=hf2.blk (hH1.get (i:=0) rfl rfl) (.inr (by simp))
    refine J.begin ⟨w2,0,[]⟩ [⟨b1,tIP,_,false,true,none⟩] ok_refl (Hp.add trivial hb1 (fun h=>by cases h) (by simp)) ?_
    refine j_callE (R:=fun w1 v w2=>(∃ds,v=.tuple #[.agg (List.toArray ds),.bool true]∧RProf w2 ds x)∧Fr 0 [] w1 w2) call9 rfl rfl (fun w3 hH hf=>implRead_c w3 x T hx hr v (cM (pfF q)) hI (hos.mono fun b cs h=>hf.blk h (.inr (by simp)))) fun w3 v w4 hH3 hf3 hR=>?_
    obtain ⟨⟨ds,rfl,hRP⟩,hf4⟩:=hR
    have hfr4:Fr 0 [] w w4:=frQ hfr (frQ hf3 hf4)
    obtain ⟨la,ls,lm,ll,lf,lcm,rfl,hla,hls,hlm,hll,hlf,hlcm, -⟩:=id hRP
    obtain ⟨pa2,ca2,rfl, -⟩:=hla.open
    obtain ⟨ps2,cs2,rfl, -⟩:=hls.open
    obtain ⟨pm2,cm2,rfl, -⟩:=hlm.open
    obtain ⟨pl2,cl2,rfl, -⟩:=hll.open
    obtain ⟨pf2,cf2,rfl, -⟩:=hlf.open
    obtain ⟨pc2,cc2,rfl, -⟩:=hlcm.open
    have hb4:=hf4.blk (hH3.get (i:=0) rfl rfl) (.inr (by simp))
    refine J.begin ⟨w4,0,[]⟩ [⟨b1,tIP,_,false,true,none⟩] ok_refl (Hp.add trivial hb4 (fun h=>by cases h) (by simp)) ?_
    refine jM (k:=jX (k:=jX (k:=?_)))
    refine j_allocA (zs:=[(.slice none 0 0),(.string ⟨#[]⟩),(.slice none 0 0),(.slice none 0 0),(.slice none 0 0),(.slice none 0 0),(.slice none 0 0),(.string ⟨#[]⟩),(.string ⟨#[]⟩),(.int .i64 0),(.int .i64 0),(.int .i64 0),(.string ⟨#[]⟩),(.string ⟨#[]⟩)]) zv31 rfl fun b3=>jB [_,_,_,_,_,_,_,_,_,_,_,_,_,_] [_,_] 0 so31 (k:=jA (k:=K9 (CJ.t [(1,_),(3,_),(4,_)] (k:=sQ fun K10=>cj_reg (jM (k:=jM (k:=?_)))))))
    refine j_gt rfl rfl (j_valw rfl (fun a w ha hH hf=>r_ldA (vs:=[_,_,_,_,_,_,_,_,_,_,_,_,_,_]) 0 rfl rfl ag31 so31 rfl rfl rfl ha hH) (j_gt rfl rfl (j_valw rfl (fun a w ha hH hf=>r_ldA (vs:=[_,_,_,_,_,_,_,_,_,_,_,_,_,_]) 1 rfl rfl ag31 so31 rfl rfl rfl ha hH) (j_gt rfl rfl ?_))))
    refine j_callQ (φ:=fun v=>v=.bool true) call11 rfl rfl (fun w5 hH hf=>same_c w5 _ _ x (RProf.keep (hf.keepAll (.inr rfl)) _ _ hRP) (RProf.keep (Keep.trans (hfr4.keepAll (.inr rfl)) (hf.keepAll (.inr rfl))) _ _ hP)) fun v hv=>?_
    subst hv
    refine jT (k:=jA (k:=K10 (cj_ret ?_)))
    first
    |exact ej_ret1 results5 rfl fun w' hH hf=>⟨rfl,hf⟩
    |exact ej_ret1 results5 rfl fun w' hH hf=>⟨rfl,frQ hfr4 hf⟩
end Go.Proofs.YtifdadlhmlhfiaaGreatDoor
