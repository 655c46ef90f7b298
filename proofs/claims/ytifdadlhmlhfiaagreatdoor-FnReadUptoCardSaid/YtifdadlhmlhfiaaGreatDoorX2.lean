/-
  Part 2 of the proof. Conditions: as each lemma states them.
-/
import Derived.Test.YtifdadlhmlhfiaaGreatDoorX1
import Derived.Sort.OwnSorted
namespace Go.Proofs.YtifdadlhmlhfiaaGreatDoor
open Go Go.Fw Go.Proofs Go.Proofs.Tryz
variable {g:G} {T':List ByteArray} {fs:List Fld} {es:List MapEntry} {cs:List Value} {B T b ck i k mb:Nat} {s:PSample} {v:Value} {w w' w0:World}
theorem take_succ_mem {α:Type} {xs:List α} (hk:k<xs.length) {x:α}:x∈xs.take (k+1)↔x∈xs.take k∨x=xs[k]:=by
 rw[← List.take_append_getElem hk,List.mem_append,List.mem_singleton]
theorem indexStr_c (w:World) (v:Value) (xs:List ByteArray) (x:ByteArray) (h:Lay RStr 1 w v xs):Calls Tryz.prog 76 #[v,.string x] w (Ret fun v w'=>(∃i:Int,v=.int .i64 i∧(i<0→x∉xs))∧Fr 0 [] w w'):=by
 obtain ⟨p,c,rfl,hl,hx⟩:=h.open
 refine startJ (args:=[_,_]) [(0,_),(1,_)] 0 [] [] func76 rfl ntmps76 rfl rfl .nil ?_
 refine sQ fun K1=>cj_reg (jA (k:=K1 (sQ fun K2=>sQ fun K3=>cj_reg (jM (k:=jE ru27 (k:=jM (k:=K3 (cj_block ?_))))))))
 refine cj_loop (σ:=Nat) (fun k=>[(0,.slice p xs.length c),(1,.string x),(7,.int .i64 (xs.length:Nat)),(8,.int .i64 (k:Nat))]) (fun _=>[]) (fun k _=>k≤xs.length∧x∉xs.take k) (fun k=>xs.length - k) 0 sR (fun w hH hf=>⟨.nil,Nat.zero_le _,by simp⟩) ?_
 rintro k w1 ⟨hk,hk'⟩ hf1 hH1 KL hKL
 refine C.begin _ [] hf1 .nil ?_
 refine sQ fun K4=>cj_reg (jS (k:=K4 (sQ fun K5=>?_)))
 refine cj_dec rfl (fun hlt=>?_) (fun hlt=>?_)
 ·have hlt':k<xs.length:=by omega
  obtain ⟨b,o,cs,rfl,hcs,hR,hcell⟩:=hx k xs[k] (List.getElem?_eq_getElem hlt')
  unfold RStr at hR
  subst hR
  refine cj_skip (K5 (sQ fun K6=>cj_block (sQ fun K7=>cj_reg (jM (k:=jA (k:=K7 (sQ fun K8=>cj_reg (jM (k:=jM (k:=jM (k:=jJ ru27 so9 (k:=?_))))))))))))
  refine j_valw rfl (fun a w ha hH hf=>r_load ag9 rfl (hcell w (hf.keepAll (.inr rfl)) 0 _ rfl) ha) (j_val rfl (fun _ _ h=>r_seql rfl rfl h) (K8 ?_))
  refine cj_dec rfl (fun heq=>?_) (fun heq=>?_)
  ·refine sQ fun K9=>cj_reg (jM (k:=jA (k:=K9 (CJ.t [(4,_)] (k:=cj_ret ?_)))))
   first|exact ej_ret1 results76 rfl fun w' hH hf=>⟨⟨_,rfl,fun h=>absurd h (by omega)⟩,hf⟩|exact ej_ret1 results76 rfl fun w' hH hf=>⟨⟨_,rfl,fun _ hm=>hk' (by rw[List.take_of_length_le (by omega)];exact hm)⟩,hf⟩
  ·refine cj_skip (K6 (cj_reg (jI (k:=jM (k:=j_nil (ej_then ?_))))))
   exact fun w hH hf=>hKL (k+1) _ w ⟨hlt',by rw[take_succ_mem hlt'];rintro (h|h)<;>simp_all⟩ hf .nil (by omega) sR
 ·refine cj_exit (K2 (sQ fun K10=>cj_reg (jA (k:=K10 (cj_ret ?_)))))
  first|exact ej_ret1 results76 rfl fun w' hH hf=>⟨⟨_,rfl,fun h=>absurd h (by omega)⟩,hf⟩|exact ej_ret1 results76 rfl fun w' hH hf=>⟨⟨_,rfl,fun _ hm=>hk' (by rw[List.take_of_length_le (by omega)];exact hm)⟩,hf⟩
theorem containsStr_c (w:World) (v:Value) (xs:List ByteArray) (x:ByteArray) (h:Lay RStr 1 w v xs):Calls Tryz.prog 61 #[v,.string x] w (Ret fun v w'=>(∃b,v=.bool b∧(b=false→x∉xs))∧Fr 0 [] w w'):=by
 refine startJ (args:=[_,_]) [(0,_),(1,_)] 0 [] [] func61 rfl ntmps61 rfl rfl .nil ?_
 refine sQ fun K1=>cj_reg (jA (k:=K1 (sQ fun K2=>cj_reg (jM (k:=jM (k:=?_))))))
 refine j_callQ (φ:=fun v=>∃i:Int,v=.int .i64 i∧(i<0→x∉xs)) call76 rfl rfl (fun w hH hf=>indexStr_c w _ _ _ (h.keep (RStr.keep (hf.keepAll (.inr rfl))) (hf.keepAll (.inr rfl)))) ?_
 rintro _ ⟨i7,rfl,hi7⟩
 refine j_val rfl (fun _ _ h=>r_geq rfl rfl h) (jA (k:=K2 (cj_ret ?_)))
 exact ej_ret1 results61 rfl fun w' hH hf=>⟨⟨_,rfl,fun h=>hi7 (by simpa using h)⟩,hf⟩
theorem indexU64_c (w:World) (v:Value) (xs:List Int) (x:Int) (h:Lay (RInt .u64) 1 w v xs):Calls Tryz.prog 110 #[v,.int .u64 x] w (Ret fun v w'=>(∃i:Int,v=.int .i64 i∧(i<0→x∉xs))∧Fr 0 [] w w'):=by
 obtain ⟨p,c,rfl,hl,hx⟩:=h.open
 refine startJ (args:=[_,_]) [(0,_),(1,_)] 0 [] [] func110 rfl ntmps110 rfl rfl .nil ?_
 refine sQ fun K1=>cj_reg (jA (k:=K1 (sQ fun K2=>sQ fun K3=>cj_reg (jM (k:=jE ru84 (k:=jM (k:=K3 (cj_block ?_))))))))
 refine cj_loop (σ:=Nat) (fun k=>[(0,.slice p xs.length c),(1,.int .u64 x),(7,.int .i64 (xs.length:Nat)),(8,.int .i64 (k:Nat))]) (fun _=>[]) (fun k _=>k≤xs.length∧x∉xs.take k) (fun k=>xs.length - k) 0 sR (fun w hH hf=>⟨.nil,Nat.zero_le _,by simp⟩) ?_
 rintro k w1 ⟨hk,hk'⟩ hf1 hH1 KL hKL
 refine C.begin _ [] hf1 .nil ?_
 refine sQ fun K4=>cj_reg (jS (k:=K4 (sQ fun K5=>?_)))
 refine cj_dec rfl (fun hlt=>?_) (fun hlt=>?_)
 ·have hlt':k<xs.length:=by omega
  obtain ⟨b,o,cs,rfl,hcs,hR,hcell⟩:=hx k xs[k] (List.getElem?_eq_getElem hlt')
  obtain ⟨rfl, -⟩:=hR
  refine cj_skip (K5 (sQ fun K6=>cj_block (sQ fun K7=>cj_reg (jM (k:=jA (k:=K7 (sQ fun K8=>cj_reg (jM (k:=jM (k:=jM (k:=jJ ru84 so71 (k:=?_))))))))))))
  refine j_valw rfl (fun a w ha hH hf=>r_load ag71 rfl (hcell w (hf.keepAll (.inr rfl)) 0 _ rfl) ha) (jQ (k:=K8 ?_))
  refine cj_dec rfl (fun heq=>?_) (fun heq=>?_)
  ·refine sQ fun K9=>cj_reg (jM (k:=jA (k:=K9 (CJ.t [(4,_)] (k:=cj_ret ?_)))))
   first|exact ej_ret1 results110 rfl fun w' hH hf=>⟨⟨_,rfl,fun h=>absurd h (by omega)⟩,hf⟩|exact ej_ret1 results110 rfl fun w' hH hf=>⟨⟨_,rfl,fun _ hm=>hk' (by rw[List.take_of_length_le (by omega)];exact hm)⟩,hf⟩
  ·refine cj_skip (K6 (cj_reg (jI (k:=jM (k:=j_nil (ej_then ?_))))))
   exact fun w hH hf=>hKL (k+1) _ w ⟨hlt',by rw[take_succ_mem hlt'];rintro (h|h)<;>simp_all⟩ hf .nil (by omega) sR
 ·refine cj_exit (K2 (sQ fun K10=>cj_reg (jA (k:=K10 (cj_ret ?_)))))
  first|exact ej_ret1 results110 rfl fun w' hH hf=>⟨⟨_,rfl,fun h=>absurd h (by omega)⟩,hf⟩|exact ej_ret1 results110 rfl fun w' hH hf=>⟨⟨_,rfl,fun _ hm=>hk' (by rw[List.take_of_length_le (by omega)];exact hm)⟩,hf⟩
theorem containsU64_c (w:World) (v:Value) (xs:List Int) (x:Int) (h:Lay (RInt .u64) 1 w v xs):Calls Tryz.prog 94 #[v,.int .u64 x] w (Ret fun v w'=>(∃b,v=.bool b∧(b=false→x∉xs))∧Fr 0 [] w w'):=by
 refine startJ (args:=[_,_]) [(0,_),(1,_)] 0 [] [] func94 rfl ntmps94 rfl rfl .nil ?_
 refine sQ fun K1=>cj_reg (jA (k:=K1 (sQ fun K2=>cj_reg (jM (k:=jM (k:=?_))))))
 refine j_callQ (φ:=fun v=>∃i:Int,v=.int .i64 i∧(i<0→x∉xs)) call110 rfl rfl (fun w hH hf=>indexU64_c w _ _ _ (h.keep (RInt.keep (hf.keepAll (.inr rfl))) (hf.keepAll (.inr rfl)))) ?_
 rintro _ ⟨i7,rfl,hi7⟩
 refine j_val rfl (fun _ _ h=>r_geq rfl rfl h) (jA (k:=K2 (cj_ret ?_)))
 exact ej_ret1 results94 rfl fun w' hH hf=>⟨⟨_,rfl,fun h=>hi7 (by simpa using h)⟩,hf⟩
theorem nodup_take_succ {α:Type} {xs:List α} (hk:k<xs.length) (h:(xs.take k).Nodup) (hn:xs[k]∉xs.take k):(xs.take (k+1)).Nodup:=by
 rw[← List.take_append_getElem hk,List.nodup_append]
 exact ⟨h,by simp,by simp;rintro a ha rfl;exact hn ha⟩
theorem ids_c (w:World) (v:Value) (xs:List Int) (h:Lay (RInt .u64) 1 w v xs):Calls Tryz.prog 62 #[v] w (Ret fun v w'=>(∃b,v=.bool b∧(b=true→0∉xs∧xs.Nodup∧xs.length≤60))∧Fr 0 [] w w'):=by
 obtain ⟨p,c,rfl,hl,hx⟩:=h.open
 have hcap:=h.cap
 refine startJ (args:=[_]) [(0,_)] 0 [] [] func62 rfl ntmps62 rfl rfl .nil ?_
 refine sQ fun K1=>cj_reg (jA (k:=K1 (sQ fun K2=>sQ fun K3=>cj_reg (jM (k:=jE ru84 (k:=jM (k:=K3 (cj_block ?_))))))))
 refine cj_loop (σ:=Nat) (fun k=>[(0,.slice p xs.length c),(5,.slice p xs.length c),(6,.int .i64 (xs.length:Nat)),(7,.int .i64 (k:Nat))]) (fun _=>[]) (fun k _=>k≤xs.length∧0∉xs.take k∧(xs.take k).Nodup) (fun k=>xs.length - k) 0 sR (fun w hH hf=>⟨.nil,Nat.zero_le _,by simp,by simp⟩) ?_
 rintro k w1 ⟨hk,hz,hd⟩ hf1 hH1 KL hKL
 refine C.begin _ [] hf1 .nil ?_
 refine sQ fun K4=>cj_reg (jS (k:=K4 (sQ fun K5=>?_)))
 refine cj_dec rfl (fun hlt=>?_) (fun hlt=>?_)
 ·have hlt':k<xs.length:=by omega
  obtain ⟨b,o,cs,rfl,hcs,hR,hcell⟩:=hx k xs[k] (List.getElem?_eq_getElem hlt')
  obtain ⟨rfl, -⟩:=hR
  refine cj_skip (K5 (sQ fun K6=>cj_block (sQ fun K7=>cj_reg (jM (k:=jJ ru84 so71 (k:=?_))))))
  refine j_valw rfl (fun a w ha hH hf=>r_load ag71 rfl (hcell w (hf.keepAll (.inr rfl)) 0 _ rfl) ha) (jA (k:=jA (k:=K7 (sQ fun K8=>cj_reg (jM (k:=jQ (k:=jM (k:=?_))))))))
  refine j_split (t:=14) rfl (fun hg14=>?_) (fun hg14=>?_)
  ·refine j_gf rfl rfl rfl rfl (j_gf rfl rfl rfl rfl (j_gf rfl rfl rfl rfl (j_gf rfl rfl rfl rfl (j_gf rfl rfl rfl rfl (jT (k:=K8 (CJ.t [(0,_),(5,_),(6,_),(7,_),(20,_)] (k:=?_))))))))
   refine cj_if_t rfl (sQ fun K9=>cj_reg (jA (k:=K9 (cj_ret ?_))))
   first|exact ej_ret1 results62 rfl fun w' hH hf=>⟨⟨_,rfl,fun h=>absurd h (by decide)⟩,hf⟩|exact ej_ret1 results62 rfl fun w' hH hf=>⟨⟨_,rfl,fun h=>by
    rw[List.take_of_length_le (by omega)]at hz hd
    simp at h
    exact ⟨hz,hd,by omega⟩⟩,hf⟩
  ·refine j_gt rfl rfl (jM (k:=?_))
   refine j_gt rfl rfl (jM (k:=?_))
   refine j_gt rfl rfl (j_val rfl (fun _ _ h=>r_slhi ru84 so71 rfl rfl (by omega) h) (j_gt rfl rfl (jM (k:=?_))))
   refine j_gt rfl rfl ?_
   refine j_callQ (φ:=fun v=>∃b,v=.bool b∧(b=false→xs[k]∉xs.take k)) call94 rfl rfl (fun w hH hf=>containsU64_c w _ _ _ ((h.take k hk).keep (RInt.keep (hf.keepAll (.inr rfl))) (hf.keepAll (.inr rfl)))) ?_
   rintro _ ⟨b19,rfl,hb19⟩
   refine jK (k:=K8 (CJ.t [(0,_),(5,_),(6,_),(7,_),(20,_)] (k:=?_)))
   refine cj_if rfl (fun h20=>?_) (fun h20=>?_)
   ·refine sQ fun K10=>cj_reg (jA (k:=K10 (cj_ret ?_)))
    first|exact ej_ret1 results62 rfl fun w' hH hf=>⟨⟨_,rfl,fun h=>absurd h (by decide)⟩,hf⟩|exact ej_ret1 results62 rfl fun w' hH hf=>⟨⟨_,rfl,fun h=>by
     rw[List.take_of_length_le (by omega)]at hz hd
     simp at h
     exact ⟨hz,hd,by omega⟩⟩,hf⟩
   ·refine cj_skip (K6 (cj_reg (jI (k:=jM (k:=j_nil (ej_then ?_))))))
    have hne:xs[k]≠0:=by simpa using hg14
    exact fun w hH hf=>hKL (k+1) _ w ⟨hlt',fun h=>((take_succ_mem hlt').1 h).elim hz (fun h=>hne h.symm),nodup_take_succ hlt' hd (hb19 h20)⟩ hf .nil (by omega) sR
 ·refine cj_exit (K2 (sQ fun K11=>cj_reg (jM (k:=jE ru84 (k:=?_)))))
  refine j_val rfl (fun _ _ h=>r_leq rfl rfl h) (jA (k:=K11 (cj_ret ?_)))
  first|exact ej_ret1 results62 rfl fun w' hH hf=>⟨⟨_,rfl,fun h=>absurd h (by decide)⟩,hf⟩|exact ej_ret1 results62 rfl fun w' hH hf=>⟨⟨_,rfl,fun h=>by
   rw[List.take_of_length_le (by omega)]at hz hd
   simp at h
   exact ⟨hz,hd,by omega⟩⟩,hf⟩
structure LabP (x:PSample):Prop where
 tlen:x.texts.length≤60
 nlen:x.nums.length≤60
 tasc:∀(i:Nat) (t u:PTexts),x.texts[i]? =some t→x.texts[i+1]? =some u→ltB t.key u.key=true
 nasc:∀(i:Nat) (t u:PNums),x.nums[i]? =some t→x.nums[i+1]? =some u→ltB t.key u.key=true
 tl:∀t∈x.texts,t.list≠[]∧t.list.length≤60∧⟨#[]⟩∉t.list
 nl:∀t∈x.nums,t.list≠[]∧t.list.length≤60
theorem ne_nil_of {α:Type} {l:List α} (h:decide ((l.length:Int)=0)=false):l≠[]:=by
 rintro rfl;simp at h
theorem le60_of {l:Nat} (h:decide ((60:Int)<(l:Int))=false):l≤60:=by simp at h;omega
theorem asc_step {α:Type} {xs:List α} {lt:α→α→Bool} (hk:k<xs.length) (h:∀(i:Nat) (t u:α),i+1<k→xs[i]? =some t→xs[i+1]? =some u→lt t u=true) (hn:∀(h0:0<k),lt (xs[k - 1]'(by omega)) xs[k]=true):
  ∀(i:Nat) (t u:α),i+1<k+1→xs[i]? =some t→xs[i+1]? =some u→lt t u=true:=by
 intro i t u hi ht hu
 by_cases hik:i+1<k
 ·exact h i t u hik ht hu
 ·have:i+1=k:=by omega
  subst this
  have:=hn (by omega)
  rw[List.getElem?_eq_getElem (by omega)]at ht
  rw[List.getElem?_eq_getElem hk]at hu
  simp at ht hu
  rw[← ht, ← hu]
  simpa using this
theorem all_step {α:Type} {xs:List α} {φ:α→Prop} (hk:k<xs.length) (h:∀t∈xs.take k,φ t) (hn:φ xs[k]):∀t∈xs.take (k+1),φ t:=by
 intro t ht
 rcases (take_succ_mem hk).1 ht with h1|rfl
 ·exact h t h1
 ·exact hn
theorem labeled_c (w:World) (cs:List Value) (x:PSample) (h:RSample w cs x):Calls Tryz.prog 25 #[.agg cs.toArray] w (Ret fun v w'=>(∃b,v=.bool b∧(b=true→LabP x))∧Fr 0 [] w w'):=by
 obtain ⟨la,lb,lt,lu,rfl,hla,hlb,hlt,hlu⟩:=h
 obtain ⟨p3,c3,rfl,hl3,hx3⟩:=hlt.open
 obtain ⟨p4,c4,rfl,hl4,hx4⟩:=hlu.open
 refine startJ (args:=[_]) [(0,_)] 0 [] [] func25 rfl ntmps25 rfl rfl .nil ?_
 refine sQ fun K1=>cj_reg (j_boxA (vs:=[_,_,_,_]) rfl rfl fun b1=>jA (k:=K1 ?_))
 refine cj_seqF fun K2 hK2=>sQ fun K3=>cj_reg (jF 2 ru57 so54 (k:=jH 0 ag54 (k:=jE ru54 (k:=jM (k:=K3 (cj_block ?_))))))
 refine cj_loop (σ:=Nat) (fun k=>[(1,.pointer (some ⟨b1,0,none⟩)),(8,.slice p3 x.texts.length c3),(9,.int .i64 (x.texts.length:Nat)),(10,.int .i64 (k:Nat))]) (fun _=>[⟨b1,57,[la,lb,.slice p3 x.texts.length c3,.slice p4 x.nums.length c4],true,true,none⟩])
  (fun k _=>k≤x.texts.length∧(∀(i:Nat) (t u:PTexts),i+1<k→x.texts[i]? =some t→x.texts[i+1]? =some u→ltB t.key u.key=true)∧∀t∈x.texts.take k,t.list≠[]∧t.list.length≤60∧⟨#[]⟩∉t.list)
  (fun k=>x.texts.length - k) 0 sR (fun w hH hf=>⟨hH,Nat.zero_le _,by intro i t u h;omega,by simp⟩) ?_
 rintro k w1 ⟨hk,hT1,hT2⟩ hf1 hH1 KL hKL
 refine C.begin _ _ hf1 hH1 ?_
 refine sQ fun K4=>cj_reg (jS (k:=K4 (sQ fun K5=>?_)))
 refine cj_dec rfl (fun hlt11=>?_) (fun hlt11=>?_)
 ·have hk':k<x.texts.length:=by omega
  obtain ⟨b,o,cs,rfl,hcs,⟨l1,rfl,hl1⟩,hcell⟩:=hx3 k x.texts[k] (List.getElem?_eq_getElem hk')
  obtain ⟨p1,c1,rfl,hs1, -⟩:=hl1.open
  refine cj_skip (K5 (sQ fun K6=>cj_block (sQ fun K7=>cj_reg (jM (k:=jJ ru54 so109 (k:=?_))))))
  refine j_valw rfl (fun a w ha hH hf=>r_loadA ag109 so109 rfl rfl (hcell w (hf.keepAll (.inr rfl))) ha) (j_allocA (zs:=[(.string ⟨#[]⟩),(.slice none 0 0)]) zv109 rfl fun b4=>jA (k:=jB [_,_] [_,_] 0 so109 (k:=K7 (sQ fun K8=>?_))))
  refine cj_drawI 31 (lts [0,1,2,3,4,5,6,7,8,9,10,11,12,13,14,15,16,17,18,19,20,21,22,23,24,25,26,27,28]++(29,false)::lts [30]) [0,1] rfl (by kernel_rfl) (by kernel_rfl) (dM [0,1] (k:=?_))
  refine dj_val rfl rfl (sub_of [0,1] rfl) (fun _ _ h=>r_gtr rfl rfl h) (dM [0,1] (k:=?_))
  refine dj_split (t:=17) rfl (fun hg17=>?_) (fun hg17=>?_)
  ·have h0k:0<k:=by simpa using hg17
   obtain ⟨b',o',cs',hp, -,⟨l',rfl, -⟩,hcell'⟩:=hx3 (k - 1) (x.texts[k - 1]'(by omega)) (List.getElem?_eq_getElem (by omega))
   injection hp with hp;injection hp with hp1 hp2;subst hp1;subst hp2
   refine dj_gt rfl rfl rfl rfl (sub_of [0,1] rfl) (fun a w ha hS=>r_fl (q:=2) (ft:=54) ru57 rfl so54 rfl ha) (dj_gt rfl rfl rfl rfl (sub_of [0,1] rfl) (fun a w ha hS=>r_ldS 1 rfl rfl ag54 rfl rfl ha hS) (dj_gt rfl rfl rfl rfl (sub_of [0,1] rfl) (fun a w ha hS=>r_move rfl ha) (dj_gt rfl rfl rfl rfl (sub_of [0,1] rfl) (fun a w ha hS=>r_dec h0k (by omega) rfl rfl ha) (dj_gt rfl rfl rfl rfl (sub_of [0,1] rfl) (fun a w ha hS=>r_idx ru54 so109 rfl rfl (by omega) ha) (dj_gt rfl rfl rfl rfl (sub_of [0,1] rfl) (fun a w ha hS=>r_fl (q:=0) (ft:=9) ru109 rfl so9 rfl ha) (dj_gt rfl rfl rfl rfl (sub_of [0,1] rfl) (fun a w ha hS=>r_load ag9 rfl (hcell' w (hS.2.keepAll (.inr rfl)) 0 _ rfl) ha) (dj_gt rfl rfl rfl rfl (sub_of [0,1] rfl) (fun a w ha hS=>r_fl (q:=0) (ft:=9) ru109 rfl so9 rfl ha) (dj_gt rfl rfl rfl rfl (sub_of [0,1] rfl) (fun a w ha hS=>r_ldS 0 rfl rfl ag9 rfl rfl ha hS) (dj_gt rfl rfl rfl rfl (sub_of [0,1] rfl) (fun a w ha hS=>r_sgeq rfl rfl ha) (dj_val rfl rfl (sub_of [0,1] rfl) (fun _ _ h=>r_pick_t rfl rfl h) (dM [0,1] (k:=?_))))))))))))
   refine dj_split (t:=29) rfl (fun hg29=>?_) (fun hg29=>?_)
   ·refine dj_gf rfl rfl rfl rfl rfl (sub_of [0,1] rfl) (dj_gf rfl rfl rfl rfl rfl (sub_of [0,1] rfl) (dj_gf rfl rfl rfl rfl rfl (sub_of [0,1] rfl) (dj_gf rfl rfl rfl rfl rfl (sub_of [0,1] rfl) (dj_val rfl rfl (sub_of [0,1] rfl) (fun _ _ h=>r_pick_t rfl rfl h) (dM [0,1] (k:=?_))))))
    refine dj_gf rfl rfl rfl rfl rfl (sub_of [0,1] rfl) (dj_gf rfl rfl rfl rfl rfl (sub_of [0,1] rfl) (dj_gf rfl rfl rfl rfl rfl (sub_of [0,1] rfl) (dj_gf rfl rfl rfl rfl rfl (sub_of [0,1] rfl) (dj_val rfl rfl (sub_of [0,1] rfl) (fun _ _ h=>r_pick_t rfl rfl h) (dM [0,1] (k:=?_))))))
    refine dj_gf rfl rfl rfl rfl rfl (sub_of [0,1] rfl) (dj_gf rfl rfl rfl rfl rfl (sub_of [0,1] rfl) (dE (h:=fun Kd=>j_gf rfl rfl rfl rfl (Kd (sb [0,1]) (dj_val rfl rfl (sub_of [0,1] rfl) (fun _ _ h=>r_pick_t rfl rfl h) (K8 (CJ.t [(1,_),(8,_),(9,_),(10,_),(45,_)] (k:=?_))))))))
    refine cj_if_t rfl (sQ fun K9=>cj_reg (jA (k:=K9 (cj_ret ?_))))
    first|exact ej_ret1 results25 rfl fun w' hH hf=>⟨⟨_,rfl,fun h=>absurd h (by decide)⟩,hf⟩|exact ej_ret1 results25 rfl fun w' hH hf=>⟨⟨_,rfl,fun h=>by
     rw[List.take_of_length_le (by omega)]at hT2 hN2
     simp at h hg86
     exact ⟨by omega,by omega,fun i t u ht hu=>hT1 i t u (by have:=(List.getElem?_eq_some_iff.1 hu).1;omega) ht hu,fun i t u ht hu=>hN1 i t u (by have:=(List.getElem?_eq_some_iff.1 hu).1;omega) ht hu,hT2,hN2⟩⟩,hf⟩
   ·refine dj_gt rfl rfl rfl rfl (sub_of [0,1] rfl) (fun a w ha hS=>r_fl (q:=1) (ft:=27) ru109 rfl so27 rfl ha) (dj_gt rfl rfl rfl rfl (sub_of [0,1] rfl) (fun a w ha hS=>r_ldS 0 rfl rfl ag27 rfl rfl ha hS) (dj_gt rfl rfl rfl rfl (sub_of [0,1] rfl) (fun a w ha hS=>r_len ru27 rfl ha) (dj_gt rfl rfl rfl rfl (sub_of [0,1] rfl) (fun a w ha hS=>r_eql rfl rfl ha) (dj_val rfl rfl (sub_of [0,1] rfl) (fun _ _ h=>r_pick_f rfl rfl h) (dM [0,1] (k:=?_))))))
    refine dj_split (t:=35) rfl (fun hg35=>?_) (fun hg35=>?_)
    ·refine dj_gf rfl rfl rfl rfl rfl (sub_of [0,1] rfl) (dj_gf rfl rfl rfl rfl rfl (sub_of [0,1] rfl) (dj_gf rfl rfl rfl rfl rfl (sub_of [0,1] rfl) (dj_gf rfl rfl rfl rfl rfl (sub_of [0,1] rfl) (dj_val rfl rfl (sub_of [0,1] rfl) (fun _ _ h=>r_pick_t rfl rfl h) (dM [0,1] (k:=?_))))))
     refine dj_gf rfl rfl rfl rfl rfl (sub_of [0,1] rfl) (dj_gf rfl rfl rfl rfl rfl (sub_of [0,1] rfl) (dE (h:=fun Kd=>j_gf rfl rfl rfl rfl (Kd (sb [0,1]) (dj_val rfl rfl (sub_of [0,1] rfl) (fun _ _ h=>r_pick_t rfl rfl h) (K8 (CJ.t [(1,_),(8,_),(9,_),(10,_),(45,_)] (k:=?_))))))))
     refine cj_if_t rfl (sQ fun K10=>cj_reg (jA (k:=K10 (cj_ret ?_))))
     first|exact ej_ret1 results25 rfl fun w' hH hf=>⟨⟨_,rfl,fun h=>absurd h (by decide)⟩,hf⟩|exact ej_ret1 results25 rfl fun w' hH hf=>⟨⟨_,rfl,fun h=>by
      rw[List.take_of_length_le (by omega)]at hT2 hN2
      simp at h hg86
      exact ⟨by omega,by omega,fun i t u ht hu=>hT1 i t u (by have:=(List.getElem?_eq_some_iff.1 hu).1;omega) ht hu,fun i t u ht hu=>hN1 i t u (by have:=(List.getElem?_eq_some_iff.1 hu).1;omega) ht hu,hT2,hN2⟩⟩,hf⟩
    ·refine dj_gt rfl rfl rfl rfl (sub_of [0,1] rfl) (fun a w ha hS=>r_fl (q:=1) (ft:=27) ru109 rfl so27 rfl ha) (dj_gt rfl rfl rfl rfl (sub_of [0,1] rfl) (fun a w ha hS=>r_ldS 0 rfl rfl ag27 rfl rfl ha hS) (dj_gt rfl rfl rfl rfl (sub_of [0,1] rfl) (fun a w ha hS=>r_len ru27 rfl ha) (dj_gt rfl rfl rfl rfl (sub_of [0,1] rfl) (fun a w ha hS=>r_gtr rfl rfl ha) (dj_val rfl rfl (sub_of [0,1] rfl) (fun _ _ h=>r_pick_f rfl rfl h) (dM [0,1] (k:=?_))))))
     refine dj_split (t:=41) rfl (fun hg41=>?_) (fun hg41=>?_)
     ·refine dj_gf rfl rfl rfl rfl rfl (sub_of [0,1] rfl) (dj_gf rfl rfl rfl rfl rfl (sub_of [0,1] rfl) (dE (h:=fun Kd=>j_gf rfl rfl rfl rfl (Kd (sb [0,1]) (dj_val rfl rfl (sub_of [0,1] rfl) (fun _ _ h=>r_pick_t rfl rfl h) (K8 (CJ.t [(1,_),(8,_),(9,_),(10,_),(45,_)] (k:=?_))))))))
      refine cj_if_t rfl (sQ fun K11=>cj_reg (jA (k:=K11 (cj_ret ?_))))
      first|exact ej_ret1 results25 rfl fun w' hH hf=>⟨⟨_,rfl,fun h=>absurd h (by decide)⟩,hf⟩|exact ej_ret1 results25 rfl fun w' hH hf=>⟨⟨_,rfl,fun h=>by
       rw[List.take_of_length_le (by omega)]at hT2 hN2
       simp at h hg86
       exact ⟨by omega,by omega,fun i t u ht hu=>hT1 i t u (by have:=(List.getElem?_eq_some_iff.1 hu).1;omega) ht hu,fun i t u ht hu=>hN1 i t u (by have:=(List.getElem?_eq_some_iff.1 hu).1;omega) ht hu,hT2,hN2⟩⟩,hf⟩
     ·refine dj_gt rfl rfl rfl rfl (sub_of [0,1] rfl) (fun a w ha hS=>r_fl (q:=1) (ft:=27) ru109 rfl so27 rfl ha) (dj_gt rfl rfl rfl rfl (sub_of [0,1] rfl) (fun a w ha hS=>r_ldS 0 rfl rfl ag27 rfl rfl ha hS) (dE (h:=fun Kd=>j_gt rfl rfl ?_)))
      refine j_callQ (φ:=fun v=>∃b,v=.bool b∧(b=false→⟨#[]⟩∉x.texts[k].list)) call61 rfl rfl (fun w hH hf=>containsStr_c w _ _ _ (hl1.keep (RStr.keep (hf.keepAll (.inr rfl))) (hf.keepAll (.inr rfl)))) ?_
      rintro _ ⟨b44,rfl,hb44⟩
      refine Kd (sb [0,1]) (dj_val rfl rfl (sub_of [0,1] rfl) (fun _ _ h=>r_pick_f rfl rfl h) (K8 ?_))
      refine cj_if rfl (fun h45=>?_) (fun h45=>?_)
      ·refine sQ fun K12=>cj_reg (jA (k:=K12 (cj_ret ?_)))
       first|exact ej_ret1 results25 rfl fun w' hH hf=>⟨⟨_,rfl,fun h=>absurd h (by decide)⟩,hf⟩|exact ej_ret1 results25 rfl fun w' hH hf=>⟨⟨_,rfl,fun h=>by
        rw[List.take_of_length_le (by omega)]at hT2 hN2
        simp at h hg86
        exact ⟨by omega,by omega,fun i t u ht hu=>hT1 i t u (by have:=(List.getElem?_eq_some_iff.1 hu).1;omega) ht hu,fun i t u ht hu=>hN1 i t u (by have:=(List.getElem?_eq_some_iff.1 hu).1;omega) ht hu,hT2,hN2⟩⟩,hf⟩
      ·refine cj_skip (K6 (cj_reg (jI (k:=jM (k:=j_nil (ej_then ?_))))))
       refine fun w hH hf=>hKL (k+1) _ w ⟨hk',asc_step (lt:=fun t u=>ltB t.key u.key) hk' hT1 (fun h0=>?_),all_step hk' hT2 ⟨ne_nil_of hg35,le60_of hg41,hb44 h45⟩⟩ hf hH.2.2.2 (by omega) sR
       first|(simp at hg17;omega)|simpa using hg29
  ·refine dj_gf rfl rfl rfl rfl rfl (sub_of [0,1] rfl) (dj_gf rfl rfl rfl rfl rfl (sub_of [0,1] rfl) (dj_gf rfl rfl rfl rfl rfl (sub_of [0,1] rfl) (dj_gf rfl rfl rfl rfl rfl (sub_of [0,1] rfl) (dj_gf rfl rfl rfl rfl rfl (sub_of [0,1] rfl) (dj_gf rfl rfl rfl rfl rfl (sub_of [0,1] rfl) (dj_gf rfl rfl rfl rfl rfl (sub_of [0,1] rfl) (dj_gf rfl rfl rfl rfl rfl (sub_of [0,1] rfl) (dj_gf rfl rfl rfl rfl rfl (sub_of [0,1] rfl) (dj_gf rfl rfl rfl rfl rfl (sub_of [0,1] rfl) (dj_val rfl rfl (sub_of [0,1] rfl) (fun _ _ h=>r_pick_f rfl rfl h) (dM [0,1] (k:=?_))))))))))))
   refine dj_gt rfl rfl rfl rfl (sub_of [0,1] rfl) (fun a w ha hS=>r_fl (q:=1) (ft:=27) ru109 rfl so27 rfl ha) (dj_gt rfl rfl rfl rfl (sub_of [0,1] rfl) (fun a w ha hS=>r_ldS 0 rfl rfl ag27 rfl rfl ha hS) (dj_gt rfl rfl rfl rfl (sub_of [0,1] rfl) (fun a w ha hS=>r_len ru27 rfl ha) (dj_gt rfl rfl rfl rfl (sub_of [0,1] rfl) (fun a w ha hS=>r_eql rfl rfl ha) (dj_val rfl rfl (sub_of [0,1] rfl) (fun _ _ h=>r_pick_f rfl rfl h) (dM [0,1] (k:=?_))))))
   refine dj_split (t:=35) rfl (fun hg35=>?_) (fun hg35=>?_)
   ·refine dj_gf rfl rfl rfl rfl rfl (sub_of [0,1] rfl) (dj_gf rfl rfl rfl rfl rfl (sub_of [0,1] rfl) (dj_gf rfl rfl rfl rfl rfl (sub_of [0,1] rfl) (dj_gf rfl rfl rfl rfl rfl (sub_of [0,1] rfl) (dj_val rfl rfl (sub_of [0,1] rfl) (fun _ _ h=>r_pick_t rfl rfl h) (dM [0,1] (k:=?_))))))
    refine dj_gf rfl rfl rfl rfl rfl (sub_of [0,1] rfl) (dj_gf rfl rfl rfl rfl rfl (sub_of [0,1] rfl) (dE (h:=fun Kd=>j_gf rfl rfl rfl rfl (Kd (sb [0,1]) (dj_val rfl rfl (sub_of [0,1] rfl) (fun _ _ h=>r_pick_t rfl rfl h) (K8 (CJ.t [(1,_),(8,_),(9,_),(10,_),(45,_)] (k:=?_))))))))
    refine cj_if_t rfl (sQ fun K13=>cj_reg (jA (k:=K13 (cj_ret ?_))))
    first|exact ej_ret1 results25 rfl fun w' hH hf=>⟨⟨_,rfl,fun h=>absurd h (by decide)⟩,hf⟩|exact ej_ret1 results25 rfl fun w' hH hf=>⟨⟨_,rfl,fun h=>by
     rw[List.take_of_length_le (by omega)]at hT2 hN2
     simp at h hg86
     exact ⟨by omega,by omega,fun i t u ht hu=>hT1 i t u (by have:=(List.getElem?_eq_some_iff.1 hu).1;omega) ht hu,fun i t u ht hu=>hN1 i t u (by have:=(List.getElem?_eq_some_iff.1 hu).1;omega) ht hu,hT2,hN2⟩⟩,hf⟩
   ·refine dj_gt rfl rfl rfl rfl (sub_of [0,1] rfl) (fun a w ha hS=>r_fl (q:=1) (ft:=27) ru109 rfl so27 rfl ha) (dj_gt rfl rfl rfl rfl (sub_of [0,1] rfl) (fun a w ha hS=>r_ldS 0 rfl rfl ag27 rfl rfl ha hS) (dj_gt rfl rfl rfl rfl (sub_of [0,1] rfl) (fun a w ha hS=>r_len ru27 rfl ha) (dj_gt rfl rfl rfl rfl (sub_of [0,1] rfl) (fun a w ha hS=>r_gtr rfl rfl ha) (dj_val rfl rfl (sub_of [0,1] rfl) (fun _ _ h=>r_pick_f rfl rfl h) (dM [0,1] (k:=?_))))))
    refine dj_split (t:=41) rfl (fun hg41=>?_) (fun hg41=>?_)
    ·refine dj_gf rfl rfl rfl rfl rfl (sub_of [0,1] rfl) (dj_gf rfl rfl rfl rfl rfl (sub_of [0,1] rfl) (dE (h:=fun Kd=>j_gf rfl rfl rfl rfl (Kd (sb [0,1]) (dj_val rfl rfl (sub_of [0,1] rfl) (fun _ _ h=>r_pick_t rfl rfl h) (K8 (CJ.t [(1,_),(8,_),(9,_),(10,_),(45,_)] (k:=?_))))))))
     refine cj_if_t rfl (sQ fun K14=>cj_reg (jA (k:=K14 (cj_ret ?_))))
     first|exact ej_ret1 results25 rfl fun w' hH hf=>⟨⟨_,rfl,fun h=>absurd h (by decide)⟩,hf⟩|exact ej_ret1 results25 rfl fun w' hH hf=>⟨⟨_,rfl,fun h=>by
      rw[List.take_of_length_le (by omega)]at hT2 hN2
      simp at h hg86
      exact ⟨by omega,by omega,fun i t u ht hu=>hT1 i t u (by have:=(List.getElem?_eq_some_iff.1 hu).1;omega) ht hu,fun i t u ht hu=>hN1 i t u (by have:=(List.getElem?_eq_some_iff.1 hu).1;omega) ht hu,hT2,hN2⟩⟩,hf⟩
    ·refine dj_gt rfl rfl rfl rfl (sub_of [0,1] rfl) (fun a w ha hS=>r_fl (q:=1) (ft:=27) ru109 rfl so27 rfl ha) (dj_gt rfl rfl rfl rfl (sub_of [0,1] rfl) (fun a w ha hS=>r_ldS 0 rfl rfl ag27 rfl rfl ha hS) (dE (h:=fun Kd=>j_gt rfl rfl ?_)))
     refine j_callQ (φ:=fun v=>∃b,v=.bool b∧(b=false→⟨#[]⟩∉x.texts[k].list)) call61 rfl rfl (fun w hH hf=>containsStr_c w _ _ _ (hl1.keep (RStr.keep (hf.keepAll (.inr rfl))) (hf.keepAll (.inr rfl)))) ?_
     rintro _ ⟨b44,rfl,hb44⟩
     refine Kd (sb [0,1]) (dj_val rfl rfl (sub_of [0,1] rfl) (fun _ _ h=>r_pick_f rfl rfl h) (K8 ?_))
     refine cj_if rfl (fun h45=>?_) (fun h45=>?_)
     ·refine sQ fun K15=>cj_reg (jA (k:=K15 (cj_ret ?_)))
      first|exact ej_ret1 results25 rfl fun w' hH hf=>⟨⟨_,rfl,fun h=>absurd h (by decide)⟩,hf⟩|exact ej_ret1 results25 rfl fun w' hH hf=>⟨⟨_,rfl,fun h=>by
       rw[List.take_of_length_le (by omega)]at hT2 hN2
       simp at h hg86
       exact ⟨by omega,by omega,fun i t u ht hu=>hT1 i t u (by have:=(List.getElem?_eq_some_iff.1 hu).1;omega) ht hu,fun i t u ht hu=>hN1 i t u (by have:=(List.getElem?_eq_some_iff.1 hu).1;omega) ht hu,hT2,hN2⟩⟩,hf⟩
     ·refine cj_skip (K6 (cj_reg (jI (k:=jM (k:=j_nil (ej_then ?_))))))
      refine fun w hH hf=>hKL (k+1) _ w ⟨hk',asc_step (lt:=fun t u=>ltB t.key u.key) hk' hT1 (fun h0=>?_),all_step hk' hT2 ⟨ne_nil_of hg35,le60_of hg41,hb44 h45⟩⟩ hf hH.2.2.2 (by omega) sR
      first|(simp at hg17;omega)|simpa using hg29
 ·refine cj_exit (ej_then_exit (ej_then_exit (ej_blk_hit (ej_then (hK2 _ _ _ (CJ.t [(1,_)] (k:=sQ fun K16=>sQ fun K17=>cj_reg (jF 3 ru57 so55 (k:=jH 0 ag55 (k:=jE ru55 (k:=jM (k:=K17 (cj_block ?_)))))))))))))
  refine cj_loop (σ:=Nat) (fun k=>[(1,.pointer (some ⟨b1,0,none⟩)),(48,.slice p4 x.nums.length c4),(49,.int .i64 (x.nums.length:Nat)),(50,.int .i64 (k:Nat))]) (fun _=>[⟨b1,57,[la,lb,.slice p3 x.texts.length c3,.slice p4 x.nums.length c4],true,true,none⟩])
   (fun k _=>k≤x.nums.length∧(∀(i:Nat) (t u:PNums),i+1<k→x.nums[i]? =some t→x.nums[i+1]? =some u→ltB t.key u.key=true)∧∀t∈x.nums.take k,t.list≠[]∧t.list.length≤60)
   (fun k=>x.nums.length - k) 0 sR (fun w hH hf=>⟨hH,Nat.zero_le _,by intro i t u h;omega,by simp⟩) ?_
  rintro m w2 ⟨hm,hN1,hN2⟩ hf2 hH2 KL hKL
  refine C.begin _ _ hf2 hH2 ?_
  refine sQ fun K18=>cj_reg (jS (k:=K18 (sQ fun K19=>?_)))
  refine cj_dec rfl (fun hlt51=>?_) (fun hlt51=>?_)
  ·have hm':m<x.nums.length:=by omega
   obtain ⟨b,o,cs,rfl,hcs,⟨l1,rfl,hl1⟩,hcell⟩:=hx4 m x.nums[m] (List.getElem?_eq_getElem hm')
   obtain ⟨p1,c1,rfl,hs1, -⟩:=hl1.open
   refine cj_skip (K19 (sQ fun K20=>cj_block (sQ fun K21=>cj_reg (jM (k:=jJ ru55 so112 (k:=?_))))))
   refine j_valw rfl (fun a w ha hH hf=>r_loadA ag112 so112 rfl rfl (hcell w (hf.keepAll (.inr rfl))) ha) (j_allocA (zs:=[(.string ⟨#[]⟩),(.slice none 0 0)]) zv112 rfl fun b6=>jA (k:=jB [_,_] [_,_] 0 so112 (k:=K21 (sQ fun K22=>?_))))
   refine cj_drawI 26 (lts [0,1,2,3,4,5,6,7,8,9,10,11,12,13,14,15,16,17,18,19,20,21,22,23,24,25]) [0,1] rfl (by kernel_rfl) (by kernel_rfl) (dM [0,1] (k:=?_))
   refine dj_val rfl rfl (sub_of [0,1] rfl) (fun _ _ h=>r_gtr rfl rfl h) (dM [0,1] (k:=?_))
   refine dj_split (t:=57) rfl (fun hg57=>?_) (fun hg57=>?_)
   ·have h0k:0<m:=by simpa using hg57
    obtain ⟨b',o',cs',hp, -,⟨l',rfl, -⟩,hcell'⟩:=hx4 (m - 1) (x.nums[m - 1]'(by omega)) (List.getElem?_eq_getElem (by omega))
    injection hp with hp;injection hp with hp1 hp2;subst hp1;subst hp2
    refine dj_gt rfl rfl rfl rfl (sub_of [0,1] rfl) (fun a w ha hS=>r_fl (q:=3) (ft:=55) ru57 rfl so55 rfl ha) (dj_gt rfl rfl rfl rfl (sub_of [0,1] rfl) (fun a w ha hS=>r_ldS 1 rfl rfl ag55 rfl rfl ha hS) (dj_gt rfl rfl rfl rfl (sub_of [0,1] rfl) (fun a w ha hS=>r_move rfl ha) (dj_gt rfl rfl rfl rfl (sub_of [0,1] rfl) (fun a w ha hS=>r_dec h0k (by omega) rfl rfl ha) (dj_gt rfl rfl rfl rfl (sub_of [0,1] rfl) (fun a w ha hS=>r_idx ru55 so112 rfl rfl (by omega) ha) (dj_gt rfl rfl rfl rfl (sub_of [0,1] rfl) (fun a w ha hS=>r_fl (q:=0) (ft:=9) ru112 rfl so9 rfl ha) (dj_gt rfl rfl rfl rfl (sub_of [0,1] rfl) (fun a w ha hS=>r_load ag9 rfl (hcell' w (hS.2.keepAll (.inr rfl)) 0 _ rfl) ha) (dj_gt rfl rfl rfl rfl (sub_of [0,1] rfl) (fun a w ha hS=>r_fl (q:=0) (ft:=9) ru112 rfl so9 rfl ha) (dj_gt rfl rfl rfl rfl (sub_of [0,1] rfl) (fun a w ha hS=>r_ldS 0 rfl rfl ag9 rfl rfl ha hS) (dj_gt rfl rfl rfl rfl (sub_of [0,1] rfl) (fun a w ha hS=>r_sgeq rfl rfl ha) (dj_val rfl rfl (sub_of [0,1] rfl) (fun _ _ h=>r_pick_t rfl rfl h) (dM [0,1] (k:=?_))))))))))))
    refine dj_split (t:=69) rfl (fun hg69=>?_) (fun hg69=>?_)
    ·refine dj_gf rfl rfl rfl rfl rfl (sub_of [0,1] rfl) (dj_gf rfl rfl rfl rfl rfl (sub_of [0,1] rfl) (dj_gf rfl rfl rfl rfl rfl (sub_of [0,1] rfl) (dj_gf rfl rfl rfl rfl rfl (sub_of [0,1] rfl) (dj_val rfl rfl (sub_of [0,1] rfl) (fun _ _ h=>r_pick_t rfl rfl h) (dM [0,1] (k:=?_))))))
     refine dj_gf rfl rfl rfl rfl rfl (sub_of [0,1] rfl) (dj_gf rfl rfl rfl rfl rfl (sub_of [0,1] rfl) (dj_gf rfl rfl rfl rfl rfl (sub_of [0,1] rfl) (dj_gf rfl rfl rfl rfl rfl (sub_of [0,1] rfl) (dj_val rfl rfl (sub_of [0,1] rfl) (fun _ _ h=>r_pick_t rfl rfl h) (K22 (CJ.t [(1,_),(48,_),(49,_),(50,_),(80,_)] (k:=?_)))))))
     refine cj_if_t rfl (sQ fun K23=>cj_reg (jA (k:=K23 (cj_ret ?_))))
     first|exact ej_ret1 results25 rfl fun w' hH hf=>⟨⟨_,rfl,fun h=>absurd h (by decide)⟩,hf⟩|exact ej_ret1 results25 rfl fun w' hH hf=>⟨⟨_,rfl,fun h=>by
      rw[List.take_of_length_le (by omega)]at hT2 hN2
      simp at h hg86
      exact ⟨by omega,by omega,fun i t u ht hu=>hT1 i t u (by have:=(List.getElem?_eq_some_iff.1 hu).1;omega) ht hu,fun i t u ht hu=>hN1 i t u (by have:=(List.getElem?_eq_some_iff.1 hu).1;omega) ht hu,hT2,hN2⟩⟩,hf⟩
    ·refine dj_gt rfl rfl rfl rfl (sub_of [0,1] rfl) (fun a w ha hS=>r_fl (q:=1) (ft:=53) ru112 rfl so53 rfl ha) (dj_gt rfl rfl rfl rfl (sub_of [0,1] rfl) (fun a w ha hS=>r_ldS 0 rfl rfl ag53 rfl rfl ha hS) (dj_gt rfl rfl rfl rfl (sub_of [0,1] rfl) (fun a w ha hS=>r_len ru53 rfl ha) (dj_gt rfl rfl rfl rfl (sub_of [0,1] rfl) (fun a w ha hS=>r_eql rfl rfl ha) (dj_val rfl rfl (sub_of [0,1] rfl) (fun _ _ h=>r_pick_f rfl rfl h) (dM [0,1] (k:=?_))))))
     refine dj_split (t:=75) rfl (fun hg75=>?_) (fun hg75=>?_)
     ·refine dj_gf rfl rfl rfl rfl rfl (sub_of [0,1] rfl) (dj_gf rfl rfl rfl rfl rfl (sub_of [0,1] rfl) (dj_gf rfl rfl rfl rfl rfl (sub_of [0,1] rfl) (dj_gf rfl rfl rfl rfl rfl (sub_of [0,1] rfl) (dj_val rfl rfl (sub_of [0,1] rfl) (fun _ _ h=>r_pick_t rfl rfl h) (K22 (CJ.t [(1,_),(48,_),(49,_),(50,_),(80,_)] (k:=?_)))))))
      refine cj_if_t rfl (sQ fun K24=>cj_reg (jA (k:=K24 (cj_ret ?_))))
      first|exact ej_ret1 results25 rfl fun w' hH hf=>⟨⟨_,rfl,fun h=>absurd h (by decide)⟩,hf⟩|exact ej_ret1 results25 rfl fun w' hH hf=>⟨⟨_,rfl,fun h=>by
       rw[List.take_of_length_le (by omega)]at hT2 hN2
       simp at h hg86
       exact ⟨by omega,by omega,fun i t u ht hu=>hT1 i t u (by have:=(List.getElem?_eq_some_iff.1 hu).1;omega) ht hu,fun i t u ht hu=>hN1 i t u (by have:=(List.getElem?_eq_some_iff.1 hu).1;omega) ht hu,hT2,hN2⟩⟩,hf⟩
     ·refine dj_gt rfl rfl rfl rfl (sub_of [0,1] rfl) (fun a w ha hS=>r_fl (q:=1) (ft:=53) ru112 rfl so53 rfl ha) (dj_gt rfl rfl rfl rfl (sub_of [0,1] rfl) (fun a w ha hS=>r_ldS 0 rfl rfl ag53 rfl rfl ha hS) (dj_gt rfl rfl rfl rfl (sub_of [0,1] rfl) (fun a w ha hS=>r_len ru53 rfl ha) (dj_gt rfl rfl rfl rfl (sub_of [0,1] rfl) (fun a w ha hS=>r_gtr rfl rfl ha) (dj_val rfl rfl (sub_of [0,1] rfl) (fun _ _ h=>r_pick_f rfl rfl h) (K22 ?_)))))
      refine cj_if rfl (fun h80=>?_) (fun h80=>?_)
      ·refine sQ fun K25=>cj_reg (jA (k:=K25 (cj_ret ?_)))
       first|exact ej_ret1 results25 rfl fun w' hH hf=>⟨⟨_,rfl,fun h=>absurd h (by decide)⟩,hf⟩|exact ej_ret1 results25 rfl fun w' hH hf=>⟨⟨_,rfl,fun h=>by
        rw[List.take_of_length_le (by omega)]at hT2 hN2
        simp at h hg86
        exact ⟨by omega,by omega,fun i t u ht hu=>hT1 i t u (by have:=(List.getElem?_eq_some_iff.1 hu).1;omega) ht hu,fun i t u ht hu=>hN1 i t u (by have:=(List.getElem?_eq_some_iff.1 hu).1;omega) ht hu,hT2,hN2⟩⟩,hf⟩
      ·refine cj_skip (K20 (cj_reg (jI (k:=jM (k:=j_nil (ej_then ?_))))))
       refine fun w hH hf=>hKL (m+1) _ w ⟨hm',asc_step (lt:=fun t u=>ltB t.key u.key) hm' hN1 (fun h0=>?_),all_step hm' hN2 ⟨ne_nil_of hg75,le60_of h80⟩⟩ hf hH.2.2.2 (by omega) sR
       first|(simp at hg57;omega)|simpa using hg69
   ·refine dj_gf rfl rfl rfl rfl rfl (sub_of [0,1] rfl) (dj_gf rfl rfl rfl rfl rfl (sub_of [0,1] rfl) (dj_gf rfl rfl rfl rfl rfl (sub_of [0,1] rfl) (dj_gf rfl rfl rfl rfl rfl (sub_of [0,1] rfl) (dj_gf rfl rfl rfl rfl rfl (sub_of [0,1] rfl) (dj_gf rfl rfl rfl rfl rfl (sub_of [0,1] rfl) (dj_gf rfl rfl rfl rfl rfl (sub_of [0,1] rfl) (dj_gf rfl rfl rfl rfl rfl (sub_of [0,1] rfl) (dj_gf rfl rfl rfl rfl rfl (sub_of [0,1] rfl) (dj_gf rfl rfl rfl rfl rfl (sub_of [0,1] rfl) (dj_val rfl rfl (sub_of [0,1] rfl) (fun _ _ h=>r_pick_f rfl rfl h) (dM [0,1] (k:=?_))))))))))))
    refine dj_gt rfl rfl rfl rfl (sub_of [0,1] rfl) (fun a w ha hS=>r_fl (q:=1) (ft:=53) ru112 rfl so53 rfl ha) (dj_gt rfl rfl rfl rfl (sub_of [0,1] rfl) (fun a w ha hS=>r_ldS 0 rfl rfl ag53 rfl rfl ha hS) (dj_gt rfl rfl rfl rfl (sub_of [0,1] rfl) (fun a w ha hS=>r_len ru53 rfl ha) (dj_gt rfl rfl rfl rfl (sub_of [0,1] rfl) (fun a w ha hS=>r_eql rfl rfl ha) (dj_val rfl rfl (sub_of [0,1] rfl) (fun _ _ h=>r_pick_f rfl rfl h) (dM [0,1] (k:=?_))))))
    refine dj_split (t:=75) rfl (fun hg75=>?_) (fun hg75=>?_)
    ·refine dj_gf rfl rfl rfl rfl rfl (sub_of [0,1] rfl) (dj_gf rfl rfl rfl rfl rfl (sub_of [0,1] rfl) (dj_gf rfl rfl rfl rfl rfl (sub_of [0,1] rfl) (dj_gf rfl rfl rfl rfl rfl (sub_of [0,1] rfl) (dj_val rfl rfl (sub_of [0,1] rfl) (fun _ _ h=>r_pick_t rfl rfl h) (K22 (CJ.t [(1,_),(48,_),(49,_),(50,_),(80,_)] (k:=?_)))))))
     refine cj_if_t rfl (sQ fun K26=>cj_reg (jA (k:=K26 (cj_ret ?_))))
     first|exact ej_ret1 results25 rfl fun w' hH hf=>⟨⟨_,rfl,fun h=>absurd h (by decide)⟩,hf⟩|exact ej_ret1 results25 rfl fun w' hH hf=>⟨⟨_,rfl,fun h=>by
      rw[List.take_of_length_le (by omega)]at hT2 hN2
      simp at h hg86
      exact ⟨by omega,by omega,fun i t u ht hu=>hT1 i t u (by have:=(List.getElem?_eq_some_iff.1 hu).1;omega) ht hu,fun i t u ht hu=>hN1 i t u (by have:=(List.getElem?_eq_some_iff.1 hu).1;omega) ht hu,hT2,hN2⟩⟩,hf⟩
    ·refine dj_gt rfl rfl rfl rfl (sub_of [0,1] rfl) (fun a w ha hS=>r_fl (q:=1) (ft:=53) ru112 rfl so53 rfl ha) (dj_gt rfl rfl rfl rfl (sub_of [0,1] rfl) (fun a w ha hS=>r_ldS 0 rfl rfl ag53 rfl rfl ha hS) (dj_gt rfl rfl rfl rfl (sub_of [0,1] rfl) (fun a w ha hS=>r_len ru53 rfl ha) (dj_gt rfl rfl rfl rfl (sub_of [0,1] rfl) (fun a w ha hS=>r_gtr rfl rfl ha) (dj_val rfl rfl (sub_of [0,1] rfl) (fun _ _ h=>r_pick_f rfl rfl h) (K22 ?_)))))
     refine cj_if rfl (fun h80=>?_) (fun h80=>?_)
     ·refine sQ fun K27=>cj_reg (jA (k:=K27 (cj_ret ?_)))
      first|exact ej_ret1 results25 rfl fun w' hH hf=>⟨⟨_,rfl,fun h=>absurd h (by decide)⟩,hf⟩|exact ej_ret1 results25 rfl fun w' hH hf=>⟨⟨_,rfl,fun h=>by
       rw[List.take_of_length_le (by omega)]at hT2 hN2
       simp at h hg86
       exact ⟨by omega,by omega,fun i t u ht hu=>hT1 i t u (by have:=(List.getElem?_eq_some_iff.1 hu).1;omega) ht hu,fun i t u ht hu=>hN1 i t u (by have:=(List.getElem?_eq_some_iff.1 hu).1;omega) ht hu,hT2,hN2⟩⟩,hf⟩
     ·refine cj_skip (K20 (cj_reg (jI (k:=jM (k:=j_nil (ej_then ?_))))))
      refine fun w hH hf=>hKL (m+1) _ w ⟨hm',asc_step (lt:=fun t u=>ltB t.key u.key) hm' hN1 (fun h0=>?_),all_step hm' hN2 ⟨ne_nil_of hg75,le60_of h80⟩⟩ hf hH.2.2.2 (by omega) sR
      first|(simp at hg57;omega)|simpa using hg69
  ·refine cj_exit (K16 (sQ fun K28=>cj_reg (jF 2 ru57 so54 (k:=jH 0 ag54 (k:=jE ru54 (k:=?_))))))
   refine j_val rfl (fun _ _ h=>r_leq rfl rfl h) (jM (k:=?_))
   refine j_split (t:=86) rfl (fun hg86=>?_) (fun hg86=>?_)
   ·refine j_gt rfl rfl (jF 3 ru57 so55 (k:=?_))
    refine j_gt rfl rfl (jH 0 ag55 (k:=?_))
    refine j_gt rfl rfl (jE ru55 (k:=?_))
    refine j_gt rfl rfl (j_val rfl (fun _ _ h=>r_leq rfl rfl h) (jT (k:=jA (k:=K28 (CJ.t [(2,_)] (k:=cj_ret ?_))))))
    first|exact ej_ret1 results25 rfl fun w' hH hf=>⟨⟨_,rfl,fun h=>absurd h (by decide)⟩,hf⟩|exact ej_ret1 results25 rfl fun w' hH hf=>⟨⟨_,rfl,fun h=>by
     rw[List.take_of_length_le (by omega)]at hT2 hN2
     simp at h hg86
     exact ⟨by omega,by omega,fun i t u ht hu=>hT1 i t u (by have:=(List.getElem?_eq_some_iff.1 hu).1;omega) ht hu,fun i t u ht hu=>hN1 i t u (by have:=(List.getElem?_eq_some_iff.1 hu).1;omega) ht hu,hT2,hN2⟩⟩,hf⟩
   ·refine j_gf rfl rfl rfl rfl (j_gf rfl rfl rfl rfl (j_gf rfl rfl rfl rfl (j_gf rfl rfl rfl rfl (jK (k:=jA (k:=K28 (cj_ret ?_)))))))
    first|exact ej_ret1 results25 rfl fun w' hH hf=>⟨⟨_,rfl,fun h=>absurd h (by decide)⟩,hf⟩|exact ej_ret1 results25 rfl fun w' hH hf=>⟨⟨_,rfl,fun h=>by
     rw[List.take_of_length_le (by omega)]at hT2 hN2
     simp at h hg86
     exact ⟨by omega,by omega,fun i t u ht hu=>hT1 i t u (by have:=(List.getElem?_eq_some_iff.1 hu).1;omega) ht hu,fun i t u ht hu=>hN1 i t u (by have:=(List.getElem?_eq_some_iff.1 hu).1;omega) ht hu,hT2,hN2⟩⟩,hf⟩
structure TabP (x:PProf):Prop where
 m:0∉x.mappings.map (·.id)∧(x.mappings.map (·.id)).Nodup∧(x.mappings.map (·.id)).length≤60
 f:0∉x.funcs.map (·.id)∧(x.funcs.map (·.id)).Nodup∧(x.funcs.map (·.id)).length≤60
 l:0∉x.locs.map (·.id)∧(x.locs.map (·.id)).Nodup∧(x.locs.map (·.id)).length≤60
 locs:∀l∈x.locs,(-1≤l.mapping∧l.mapping<x.mappings.length)∧l.lines.length≤60∧∀n∈l.lines, -1≤n.fn∧n.fn<x.funcs.length
theorem ids_step {α:Type} {xs:List α} {g:α→Value} (hk:k<xs.length):(xs.take k).map g++[g xs[k]]=(xs.take (k+1)).map g:=by
 rw[← List.take_append_getElem hk,List.map_append];rfl
theorem map_comp {α β γ:Type} (f:β→γ) (g:α→β) (xs:List α):xs.map (fun x=>f (g x))=(xs.map g).map f:=by simp
set_option maxHeartbeats 1000000 in
theorem tables_c (w:World) (cs:List Value) (x:PProf) (h:RProf w cs x) (hbm:x.mappings.length≤2147483647) (hbl:x.locs.length≤2147483647) (hbf:x.funcs.length≤2147483647):
  Calls Tryz.prog 26 #[.agg cs.toArray] w (Ret fun v w'=>(∃b,v=.bool b∧(b=true→TabP x))∧Fr 0 [] w w'):=by
 obtain ⟨la,ls,lm,ll,lf,lcm,rfl, -, -,hlm,hll,hlf, -, -⟩:=h
 have hKm:=hlm;have hKl:=hll;have hKf:=hlf
 obtain ⟨pm,cm,rfl, -,hxm⟩:=hlm.open
 obtain ⟨pf,cf,rfl, -,hxf⟩:=hlf.open
 obtain ⟨pl,cl,rfl, -,hxl⟩:=hll.open
 refine startJ (args:=[_]) [(0,_)] 0 [] [] func26 rfl ntmps26 rfl rfl .nil ?_
 refine sQ fun K1=>cj_reg (j_boxA (vs:=[_,_,_,_,_,_,_,_,_,_,_,_,_,_]) rfl rfl fun b1=>jA (k:=K1 (sQ fun K2=>cj_reg (jA (k:=jA (k:=jA (k:=K2 (sQ fun K3=>sQ fun K4=>cj_reg ?_))))))))
 refine jF 3 ru31 so24 (k:=jH 0 ag24 (k:=jE ru24 (k:=jM (k:=K4 (cj_block ?_)))))
 refine cj_loop (σ:=Nat×Ent×Option Addr×Nat) (fun s=>[(1,.pointer (some ⟨b1,0,none⟩)),(3,.slice s.2.2.1 s.1 s.2.2.2),(4,.slice none 0 0),(5,.slice none 0 0),(15,.slice pm x.mappings.length cm),(16,.int .i64 (x.mappings.length:Nat)),(17,.int .i64 (s.1:Nat))])
  (fun s=>[s.2.1,⟨b1,31,[la,.string x.deflt,ls,.slice pm x.mappings.length cm,.slice pl x.locs.length cl,.slice pf x.funcs.length cf,lcm,.string x.drop,.string x.keep,.int .i64 x.time,.int .i64 x.dur,.int .i64 x.period,.string x.per.ty,.string x.per.unit],true,true,none⟩])
  (fun s _=>s.1≤x.mappings.length∧Own 71 1 s.2.1 s.2.2.1 s.1 s.2.2.2 ((x.mappings.take s.1).map fun m=>.int .u64 m.id))
  (fun s=>x.mappings.length - s.1) (0,nilE 71,none,0) sR (fun w hH hf=>⟨hH.off,Nat.zero_le _,Own.nil⟩) ?_
 rintro ⟨k,yA,pA,cA⟩ w1 ⟨hk,hA⟩ hf1 hH1 KL hKL
 refine C.begin _ _ hf1 hH1 ?_
 try dsimp only
 refine sQ fun K5=>cj_reg (jS (k:=K5 (sQ fun K6=>?_)))
 refine cj_dec rfl (fun h18=>?_) (fun h18=>?_)
 ·have hk':k<x.mappings.length:=by omega
  obtain ⟨b,o,cs,rfl,hcs,hR,hcell⟩:=hxm k x.mappings[k] (List.getElem?_eq_getElem hk')
  obtain ⟨rfl,hwk, -⟩:=hR
  refine cj_skip (K6 (sQ fun K7=>cj_block (sQ fun K8=>cj_reg (jJ ru24 so73 (k:=?_)))))
  refine j_valw rfl (fun a w ha hH hf=>r_loadA ag73 so73 rfl rfl (hcell w (hf.keepAll (.inr rfl))) ha) (j_allocA (zs:=[(.int .u64 0),(.int .u64 0),(.int .u64 0),(.int .u64 0),(.string ⟨#[]⟩),(.string ⟨#[]⟩),(.bool false),(.bool false),(.bool false),(.bool false)]) zv73 rfl fun b7=>jB [_,_,_,_,_,_,_,_,_,_] [_,_,_] 0 so73 (k:=K8 (cj_reg (jM (k:=jF 0 ru73 so71 (k:=jH 0 ag71 (k:=?_)))))))
  refine j_bslice1 ru84 so71 zv71 rfl rfl rfl rfl rfl fun b24=>?_
  refine j_appO 1 rfl hA ru84 el71 rfl rfl rfl rfl rfl (by omega) rfl fun y25 p25 c25 hO25=>?_
  refine jA (k:=K7 (CJ.t [(1,_),(3,_),(4,_),(5,_),(15,_),(16,_),(17,_)] (k:=cj_reg (jI (k:=jM (k:=j_nil (ej_then ?_)))))))
  exact fun w hH hf=>hKL (k+1,y25,p25,c25) _ w ⟨hk',by rw[← ids_step (g:=fun m=>.int .u64 m.id) hk'];exact hO25⟩ hf hH.2.2.2 (by simp only;omega) sR
 ·have hA':Own 71 1 yA pA k cA (x.mappings.map fun m=>.int .u64 m.id):=by rw[List.take_of_length_le (by omega)]at hA;exact hA
  refine cj_exit (K3 (sQ fun K9=>sQ fun K10=>cj_reg (jF 5 ru31 so26 (k:=jH 1 ag26 (k:=jE ru26 (k:=jM (k:=K10 (cj_block ?_))))))))
  refine cj_loop (σ:=Nat×Ent×Option Addr×Nat) (fun s=>[(1,.pointer (some ⟨b1,0,none⟩)),(3,.slice pA k cA),(4,.slice s.2.2.1 s.1 s.2.2.2),(5,.slice none 0 0),(28,.slice pf x.funcs.length cf),(29,.int .i64 (x.funcs.length:Nat)),(30,.int .i64 (s.1:Nat))])
   (fun s=>[s.2.1,yA,⟨b1,31,[la,.string x.deflt,ls,.slice pm x.mappings.length cm,.slice pl x.locs.length cl,.slice pf x.funcs.length cf,lcm,.string x.drop,.string x.keep,.int .i64 x.time,.int .i64 x.dur,.int .i64 x.period,.string x.per.ty,.string x.per.unit],true,true,none⟩])
   (fun s _=>s.1≤x.funcs.length∧Own 71 1 s.2.1 s.2.2.1 s.1 s.2.2.2 ((x.funcs.take s.1).map fun m=>.int .u64 m.id))
   (fun s=>x.funcs.length - s.1) (0,nilE 71,none,0) sR (fun w hH hf=>⟨hH.off,Nat.zero_le _,Own.nil⟩) ?_
  rintro ⟨m,yB,pB,cB⟩ w2 ⟨hm,hB⟩ hf2 hH2 KL hKL
  refine C.begin _ _ hf2 hH2 ?_
  try dsimp only
  refine sQ fun K11=>cj_reg (jS (k:=K11 (sQ fun K12=>?_)))
  refine cj_dec rfl (fun h31=>?_) (fun h31=>?_)
  ·have hm':m<x.funcs.length:=by omega
   obtain ⟨b,o,cs,rfl,hcs,hR,hcell⟩:=hxf m x.funcs[m] (List.getElem?_eq_getElem hm')
   obtain ⟨rfl,hwk, -⟩:=hR
   refine cj_skip (K12 (sQ fun K13=>cj_block (sQ fun K14=>cj_reg (jJ ru26 so80 (k:=?_)))))
   refine j_valw rfl (fun a w ha hH hf=>r_loadA ag80 so80 rfl rfl (hcell w (hf.keepAll (.inr rfl))) ha) (j_allocA (zs:=[(.int .u64 0),(.string ⟨#[]⟩),(.string ⟨#[]⟩),(.string ⟨#[]⟩),(.int .i64 0)]) zv80 rfl fun b9=>jB [_,_,_,_,_] [_,_,_,_] 0 so80 (k:=K14 (cj_reg (jM (k:=jF 0 ru80 so71 (k:=jH 0 ag71 (k:=?_)))))))
   refine j_bslice1 ru84 so71 zv71 rfl rfl rfl rfl rfl fun b37=>?_
   refine j_appO 1 rfl hB ru84 el71 rfl rfl rfl rfl rfl (by omega) rfl fun y38 p38 c38 hO38=>?_
   refine jA (k:=K13 (CJ.t [(1,_),(3,_),(4,_),(5,_),(28,_),(29,_),(30,_)] (k:=cj_reg (jI (k:=jM (k:=j_nil (ej_then ?_)))))))
   exact fun w hH hf=>hKL (m+1,y38,p38,c38) _ w ⟨hm',by rw[← ids_step (g:=fun m=>.int .u64 m.id) hm'];exact hO38⟩ hf hH.2.2.2 (by simp only;omega) sR
  ·have hB':Own 71 1 yB pB m cB (x.funcs.map fun m=>.int .u64 m.id):=by rw[List.take_of_length_le (by omega)]at hB;exact hB
   refine cj_exit (K9 (sQ fun K15=>sQ fun K16=>cj_reg (jF 4 ru31 so25 (k:=jH 2 ag25 (k:=jE ru25 (k:=jM (k:=K16 (cj_block ?_))))))))
   refine cj_loop (σ:=Nat×Ent×Option Addr×Nat) (fun s=>[(1,.pointer (some ⟨b1,0,none⟩)),(3,.slice pA k cA),(4,.slice pB m cB),(5,.slice s.2.2.1 s.1 s.2.2.2),(41,.slice pl x.locs.length cl),(42,.int .i64 (x.locs.length:Nat)),(43,.int .i64 (s.1:Nat))])
    (fun s=>[s.2.1,yB,yA,⟨b1,31,[la,.string x.deflt,ls,.slice pm x.mappings.length cm,.slice pl x.locs.length cl,.slice pf x.funcs.length cf,lcm,.string x.drop,.string x.keep,.int .i64 x.time,.int .i64 x.dur,.int .i64 x.period,.string x.per.ty,.string x.per.unit],true,true,none⟩])
    (fun s _=>s.1≤x.locs.length∧Own 71 1 s.2.1 s.2.2.1 s.1 s.2.2.2 ((x.locs.take s.1).map fun m=>.int .u64 m.id)∧∀l∈x.locs.take s.1,(-1≤l.mapping∧l.mapping<x.mappings.length)∧l.lines.length≤60∧∀n∈l.lines, -1≤n.fn∧n.fn<x.funcs.length)
    (fun s=>x.locs.length - s.1) (0,nilE 71,none,0) sR (fun w hH hf=>⟨hH.off,Nat.zero_le _,Own.nil,by simp⟩) ?_
   rintro ⟨i,yC,pC,cC⟩ w3 ⟨hi,hC,hL⟩ hf3 hH3 KL hKL
   refine C.begin _ _ hf3 hH3 ?_
   try dsimp only
   refine sQ fun K17=>cj_reg (jS (k:=K17 (sQ fun K18=>?_)))
   refine cj_dec rfl (fun h44=>?_) (fun h44=>?_)
   ·have hi':i<x.locs.length:=by omega
    obtain ⟨b,o,cs,rfl,hcs,hR,hcell⟩:=hxl i x.locs[i] (List.getElem?_eq_getElem hi')
    obtain ⟨l1,rfl,hwk, -, -,hl1⟩:=hR
    obtain ⟨p1,c1,rfl,hs1,hx1⟩:=hl1.open
    refine cj_skip (K18 (sQ fun K19=>cj_block (sQ fun K20=>cj_reg (jJ ru25 so77 (k:=?_)))))
    refine j_valw rfl (fun a w ha hH hf=>r_loadA ag77 so77 rfl rfl (hcell w (hf.keepAll (.inr rfl))) ha) (j_allocA (zs:=[(.int .u64 0),(.int .i64 0),(.int .u64 0),(.slice none 0 0)]) zv77 rfl fun b11=>jB [_,_,_,_] [_,_,_,_,_] 0 so77 (k:=K20 (sQ fun K21=>cj_reg (jM (k:=jF 0 ru77 so71 (k:=jH 0 ag71 (k:=?_)))))))
    refine j_bslice1 ru84 so71 zv71 rfl rfl rfl rfl rfl fun b50=>?_
    refine j_appO 1 rfl hC ru84 el71 rfl rfl rfl rfl rfl (by omega) rfl fun y51 p51 c51 hO51=>?_
    refine jA (k:=K21 (CJ.t [(1,_),(3,_),(4,_),(5,_),(11,_),(41,_),(42,_),(43,_)] (k:=sQ fun K22=>sQ fun K23=>cj_reg (jF 1 ru77 so3 (k:=jH 0 ag3 (k:=jS (k:=jM (k:=?_))))))))
    refine j_split (t:=55) rfl (fun hg55=>?_) (fun hg55=>?_)
    ·refine j_gf rfl rfl rfl rfl (j_gf rfl rfl rfl rfl (j_gf rfl rfl rfl rfl (j_gf rfl rfl rfl rfl (j_gf rfl rfl rfl rfl (j_gf rfl rfl rfl rfl (jT (k:=jM (k:=?_))))))))
     refine j_gf rfl rfl rfl rfl (j_gf rfl rfl rfl rfl (j_gf rfl rfl rfl rfl (j_gf rfl rfl rfl rfl (jT (k:=K23 (CJ.t [(1,_),(3,_),(4,_),(5,_),(11,_),(41,_),(42,_),(43,_),(68,_)] (k:=?_)))))))
     refine cj_if_t rfl (sQ fun K24=>cj_reg (jA (k:=K24 (cj_ret ?_))))
     first|exact ej_ret1 results26 rfl fun w' hH hf=>⟨⟨_,rfl,fun h=>absurd h (by decide)⟩,hf⟩|exact ej_ret1 results26 rfl fun w' hH hf=>⟨⟨_,rfl,fun h=>by subst h;exact ⟨hb90 hg91,hb93 hg95,hb97 rfl,by rw[List.take_of_length_le (by omega)]at hL;exact hL⟩⟩,hf⟩
    ·refine j_gt rfl rfl (jF 1 ru77 so3 (k:=?_))
     refine j_gt rfl rfl (jH 0 ag3 (k:=?_))
     refine j_gt rfl rfl (jF 3 ru31 so24 (k:=?_))
     refine j_gt rfl rfl (jH 4 ag24 (k:=?_))
     refine j_gt rfl rfl (jE ru24 (k:=?_))
     refine j_gt rfl rfl (j_val rfl (fun _ _ h=>r_geq rfl rfl h) (jK (k:=jM (k:=?_))))
     refine j_split (t:=63) rfl (fun hg63=>?_) (fun hg63=>?_)
     ·refine j_gf rfl rfl rfl rfl (j_gf rfl rfl rfl rfl (j_gf rfl rfl rfl rfl (j_gf rfl rfl rfl rfl (jT (k:=K23 (CJ.t [(1,_),(3,_),(4,_),(5,_),(11,_),(41,_),(42,_),(43,_),(68,_)] (k:=?_)))))))
      refine cj_if_t rfl (sQ fun K25=>cj_reg (jA (k:=K25 (cj_ret ?_))))
      first|exact ej_ret1 results26 rfl fun w' hH hf=>⟨⟨_,rfl,fun h=>absurd h (by decide)⟩,hf⟩|exact ej_ret1 results26 rfl fun w' hH hf=>⟨⟨_,rfl,fun h=>by subst h;exact ⟨hb90 hg91,hb93 hg95,hb97 rfl,by rw[List.take_of_length_le (by omega)]at hL;exact hL⟩⟩,hf⟩
     ·refine j_gt rfl rfl (jF 3 ru77 so75 (k:=?_))
      refine j_gt rfl rfl (jH 0 ag75 (k:=?_))
      refine j_gt rfl rfl (jE ru75 (k:=?_))
      refine j_gt rfl rfl (jG (k:=jK (k:=K23 ?_)))
      refine cj_if rfl (fun h68=>?_) (fun h68=>?_)
      ·refine sQ fun K26=>cj_reg (jA (k:=K26 (CJ.t [(2,_)] (k:=cj_ret ?_))))
       first|exact ej_ret1 results26 rfl fun w' hH hf=>⟨⟨_,rfl,fun h=>absurd h (by decide)⟩,hf⟩|exact ej_ret1 results26 rfl fun w' hH hf=>⟨⟨_,rfl,fun h=>by subst h;exact ⟨hb90 hg91,hb93 hg95,hb97 rfl,by rw[List.take_of_length_le (by omega)]at hL;exact hL⟩⟩,hf⟩
      ·refine cj_skip (K22 (sQ fun K27=>cj_reg (jF 3 ru77 so75 (k:=jH 0 ag75 (k:=jE ru75 (k:=jM (k:=K27 (cj_block ?_))))))))
       refine cj_loop (σ:=Nat) (fun j=>[(1,.pointer (some ⟨b1,0,none⟩)),(3,.slice pA k cA),(4,.slice pB m cB),(5,.slice p51 (i+1) c51),(41,.slice (some ⟨b,o,none⟩) x.locs.length cl),(42,.int .i64 (x.locs.length:Nat)),(43,.int .i64 (i:Nat)),(70,.slice p1 x.locs[i].lines.length c1),(71,.int .i64 (x.locs[i].lines.length:Nat)),(72,.int .i64 (j:Nat))])
        (fun _=>[y51,yB,yA,⟨b1,31,[la,.string x.deflt,ls,.slice pm x.mappings.length cm,.slice (some ⟨b,o,none⟩) x.locs.length cl,.slice pf x.funcs.length cf,lcm,.string x.drop,.string x.keep,.int .i64 x.time,.int .i64 x.dur,.int .i64 x.period,.string x.per.ty,.string x.per.unit],true,true,none⟩])
        (fun j _=>j≤x.locs[i].lines.length∧∀n∈x.locs[i].lines.take j, -1≤n.fn∧n.fn<x.funcs.length)
        (fun j=>x.locs[i].lines.length - j) 0 sR (fun w hH hf=>⟨hH.2.2.2,Nat.zero_le _,by simp⟩) ?_
       rintro j w4 ⟨hj,hN⟩ hf4 hH4 KL2 hKL2
       refine C.begin _ _ hf4 hH4 ?_
       refine sQ fun K28=>cj_reg (jS (k:=K28 (sQ fun K29=>?_)))
       refine cj_dec rfl (fun h73=>?_) (fun h73=>?_)
       ·have hj':j<x.locs[i].lines.length:=by omega
        obtain ⟨b',o',cs',rfl, -,hR2,hcell2⟩:=hx1 j x.locs[i].lines[j] (List.getElem?_eq_getElem hj')
        obtain ⟨rfl,hwn, -⟩:=hR2
        refine cj_skip (K29 (sQ fun K30=>cj_block (sQ fun K31=>cj_reg (jJ ru75 so114 (k:=?_)))))
        refine j_valw rfl (fun a w ha hH hf=>r_loadA ag114 so114 rfl rfl (hcell2 w (hf.keepAll (.inr rfl))) ha) (j_allocA (zs:=[(.int .i64 0),(.int .i64 0)]) zv114 rfl fun b13=>jB [_,_] [_,_,_,_,_] 0 so114 (k:=K31 (sQ fun K32=>cj_reg (jF 0 ru114 so3 (k:=jH 0 ag3 (k:=jS (k:=jM (k:=?_))))))))
        refine j_split (t:=79) rfl (fun hg79=>?_) (fun hg79=>?_)
        ·refine j_gf rfl rfl rfl rfl (j_gf rfl rfl rfl rfl (j_gf rfl rfl rfl rfl (j_gf rfl rfl rfl rfl (j_gf rfl rfl rfl rfl (j_gf rfl rfl rfl rfl (jT (k:=K32 (CJ.t [(1,_),(3,_),(4,_),(5,_),(41,_),(42,_),(43,_),(70,_),(71,_),(72,_),(86,_)] (k:=?_)))))))))
         refine cj_if_t rfl (sQ fun K33=>cj_reg (jA (k:=K33 (cj_ret ?_))))
         first|exact ej_ret1 results26 rfl fun w' hH hf=>⟨⟨_,rfl,fun h=>absurd h (by decide)⟩,hf⟩|exact ej_ret1 results26 rfl fun w' hH hf=>⟨⟨_,rfl,fun h=>by subst h;exact ⟨hb90 hg91,hb93 hg95,hb97 rfl,by rw[List.take_of_length_le (by omega)]at hL;exact hL⟩⟩,hf⟩
        ·refine j_gt rfl rfl (jF 0 ru114 so3 (k:=?_))
         refine j_gt rfl rfl (jH 0 ag3 (k:=?_))
         refine j_gt rfl rfl (jF 5 ru31 so26 (k:=?_))
         refine j_gt rfl rfl (jH 4 ag26 (k:=?_))
         refine j_gt rfl rfl (jE ru26 (k:=?_))
         refine j_gt rfl rfl (j_val rfl (fun _ _ h=>r_geq rfl rfl h) (jK (k:=K32 (CJ.t [(1,_),(3,_),(4,_),(5,_),(41,_),(42,_),(43,_),(70,_),(71,_),(72,_),(86,_)] (k:=?_)))))
         refine cj_if rfl (fun h86=>?_) (fun h86=>?_)
         ·refine sQ fun K34=>cj_reg (jA (k:=K34 (cj_ret ?_)))
          first|exact ej_ret1 results26 rfl fun w' hH hf=>⟨⟨_,rfl,fun h=>absurd h (by decide)⟩,hf⟩|exact ej_ret1 results26 rfl fun w' hH hf=>⟨⟨_,rfl,fun h=>by subst h;exact ⟨hb90 hg91,hb93 hg95,hb97 rfl,by rw[List.take_of_length_le (by omega)]at hL;exact hL⟩⟩,hf⟩
         ·refine cj_skip (K30 (cj_reg (jI (k:=jM (k:=j_nil (ej_then ?_))))))
          exact fun w hH hf=>hKL2 (j+1) _ w ⟨hj',all_step hj' hN (by simp at hg79 h86;omega)⟩ hf hH.2.2.2 (by omega) sR
       ·refine cj_exit (K19 (cj_reg (jI (k:=jM (k:=j_nil (ej_then ?_))))))
        exact fun w hH hf=>hKL (i+1,y51,p51,c51) _ w ⟨hi',by rw[← ids_step (g:=fun m=>.int .u64 m.id) hi'];exact hO51,all_step hi' hL (by rw[List.take_of_length_le (by omega)]at hN;refine ⟨?_,le60_of h68,hN⟩;simp at hg55 hg63;omega)⟩ hf hH (by simp only;omega) sR
   ·have hC':Own 71 1 yC pC i cC (x.locs.map fun m=>.int .u64 m.id):=by rw[List.take_of_length_le (by omega)]at hC;exact hC
    refine cj_exit (K15 (sQ fun K35=>cj_reg (jM (k:=?_))))
    refine j_callQ (φ:=fun v=>∃b,v=.bool b∧(b=true→_)) call62 rfl rfl (fun w hH hf=>ids_c w _ (x.mappings.map (·.id)) (Own.lay (g:=.int .u64) (by rw[← map_comp];exact hA') hH (i:=2) rfl (by omega) (by
     intro n hn
     obtain ⟨q,hq,rfl⟩:=List.mem_map.1 hn
     exact ⟨rfl,hKm.each (fun c y hy=>hy.2.1) q hq⟩))) ?_
    rintro _ ⟨b90,rfl,hb90⟩
    refine jM (k:=?_)
    refine j_split (t:=91) rfl (fun hg91=>?_) (fun hg91=>?_)
    ·refine j_gt rfl rfl (jM (k:=?_))
     refine j_gt rfl rfl ?_
     refine j_callQ (φ:=fun v=>∃b,v=.bool b∧(b=true→_)) call62 rfl rfl (fun w hH hf=>ids_c w _ (x.funcs.map (·.id)) (Own.lay (g:=.int .u64) (by rw[← map_comp];exact hB') hH (i:=1) rfl (by omega) (by
      intro n hn
      obtain ⟨q,hq,rfl⟩:=List.mem_map.1 hn
      exact ⟨rfl,hKf.each (fun c y hy=>hy.2.1) q hq⟩))) ?_
     rintro _ ⟨b93,rfl,hb93⟩
     refine jT (k:=jM (k:=?_))
     refine j_split (t:=95) rfl (fun hg95=>?_) (fun hg95=>?_)
     ·refine j_gt rfl rfl (jM (k:=?_))
      refine j_gt rfl rfl ?_
      refine j_callQ (φ:=fun v=>∃b,v=.bool b∧(b=true→_)) call62 rfl rfl (fun w hH hf=>ids_c w _ (x.locs.map (·.id)) (Own.lay (g:=.int .u64) (by rw[← map_comp];exact hC') hH (i:=0) rfl (by omega) (by
       intro n hn
       obtain ⟨q,hq,rfl⟩:=List.mem_map.1 hn
       exact ⟨rfl,hKl.each (fun c y hy=>by obtain ⟨_,_,h,_⟩:=hy;exact h) q hq⟩))) ?_
      rintro _ ⟨b97,rfl,hb97⟩
      refine jT (k:=jA (k:=K35 (CJ.t [(2,_)] (k:=cj_ret ?_))))
      first|exact ej_ret1 results26 rfl fun w' hH hf=>⟨⟨_,rfl,fun h=>absurd h (by decide)⟩,hf⟩|exact ej_ret1 results26 rfl fun w' hH hf=>⟨⟨_,rfl,fun h=>by subst h;exact ⟨hb90 hg91,hb93 hg95,hb97 rfl,by rw[List.take_of_length_le (by omega)]at hL;exact hL⟩⟩,hf⟩
     ·refine j_gf rfl rfl rfl rfl (j_gf rfl rfl rfl rfl (jK (k:=jA (k:=K35 (cj_ret ?_)))))
      first|exact ej_ret1 results26 rfl fun w' hH hf=>⟨⟨_,rfl,fun h=>absurd h (by decide)⟩,hf⟩|exact ej_ret1 results26 rfl fun w' hH hf=>⟨⟨_,rfl,fun h=>by subst h;exact ⟨hb90 hg91,hb93 hg95,hb97 rfl,by rw[List.take_of_length_le (by omega)]at hL;exact hL⟩⟩,hf⟩
    ·refine j_gf rfl rfl rfl rfl (j_gf rfl rfl rfl rfl (jK (k:=jM (k:=?_))))
     refine j_gf rfl rfl rfl rfl (j_gf rfl rfl rfl rfl (jK (k:=jA (k:=K35 (CJ.t [(2,_)] (k:=cj_ret ?_))))))
     first|exact ej_ret1 results26 rfl fun w' hH hf=>⟨⟨_,rfl,fun h=>absurd h (by decide)⟩,hf⟩|exact ej_ret1 results26 rfl fun w' hH hf=>⟨⟨_,rfl,fun h=>by subst h;exact ⟨hb90 hg91,hb93 hg95,hb97 rfl,by rw[List.take_of_length_le (by omega)]at hL;exact hL⟩⟩,hf⟩
structure WellP (x:PProf):Prop where
 samples:∀s∈x.samples,s.values.length=x.types.length∧x.types.length≠0∧s.stack.length≤60∧LabP s∧∀k∈s.stack,0≤k∧k<x.locs.length
 nsam:x.samples.length≤60
 ntyp:x.types.length≤60
 ncom:x.comments.length≤60
 tab:TabP x
theorem eqz_of {a:Nat} (h:decide ((a:Int)≠(b:Int))=false):a=b:=by simp at h;omega
theorem nez_of {a:Nat} (h:decide ((a:Int)=0)=false):a≠0:=by simp at h;omega
set_option maxHeartbeats 1000000 in
theorem well_c (w:World) (cs:List Value) (x:PProf) (h:RProf w cs x) (hbm:x.mappings.length≤2147483647) (hbl:x.locs.length≤2147483647) (hbf:x.funcs.length≤2147483647):
  Calls Tryz.prog 8 #[.agg cs.toArray] w (Ret fun v w'=>(∃b,v=.bool b∧(b=true→WellP x))∧Fr 0 [] w w'):=by
 have hP:=h
 obtain ⟨la,ls,lm,ll,lf,lcm,rfl,hla,hls,hlm,hll,hlf,hlc, -⟩:=h
 obtain ⟨pt,ct,rfl,hbt, -⟩:=hla.open
 obtain ⟨ps,cs',rfl,hbs,hxs⟩:=hls.open
 obtain ⟨pl,cl,rfl, -, -⟩:=hll.open
 obtain ⟨pc,cc,rfl,hbc, -⟩:=hlc.open
 refine startJ (args:=[_]) [(0,_)] 0 [] [] func8 rfl ntmps8 rfl rfl .nil ?_
 refine sQ fun K1=>cj_reg (j_boxA (vs:=[_,_,_,_,_,_,_,_,_,_,_,_,_,_]) rfl rfl fun b1=>jA (k:=K1 (sQ fun K2=>sQ fun K3=>cj_reg (jF 2 ru31 so23 (k:=jH 0 ag23 (k:=jE ru23 (k:=jM (k:=K3 (cj_block ?_)))))))))
 refine cj_loop (σ:=Nat) (fun k=>[(1,.pointer (some ⟨b1,0,none⟩)),(8,.slice ps x.samples.length cs'),(9,.int .i64 (x.samples.length:Nat)),(10,.int .i64 (k:Nat))])
  (fun _=>[⟨b1,31,[.slice pt x.types.length ct,.string x.deflt,.slice ps x.samples.length cs',lm,.slice pl x.locs.length cl,lf,.slice pc x.comments.length cc,.string x.drop,.string x.keep,.int .i64 x.time,.int .i64 x.dur,.int .i64 x.period,.string x.per.ty,.string x.per.unit],true,true,none⟩])
  (fun k _=>k≤x.samples.length∧∀s∈x.samples.take k,s.values.length=x.types.length∧x.types.length≠0∧s.stack.length≤60∧LabP s∧∀k∈s.stack,0≤k∧k<x.locs.length)
  (fun k=>x.samples.length - k) 0 sR (fun w hH hf=>⟨hH,Nat.zero_le _,by simp⟩) ?_
 rintro k w1 ⟨hk,hS⟩ hf1 hH1 KL hKL
 refine C.begin _ _ hf1 hH1 ?_
 refine sQ fun K4=>cj_reg (jS (k:=K4 (sQ fun K5=>?_)))
 refine cj_dec rfl (fun h11=>?_) (fun h11=>?_)
 ·have hk':k<x.samples.length:=by omega
  obtain ⟨b,o,cs,rfl,hcs,hR,hcell⟩:=hxs k x.samples[k] (List.getElem?_eq_getElem hk')
  have hR':=hR
  obtain ⟨l1,l2,l3,l4,rfl,hl1,hl2,hl3,hl4⟩:=hR
  obtain ⟨p1,c1,rfl,hs1,hx1⟩:=hl1.open
  obtain ⟨p2,c2,rfl,hs2, -⟩:=hl2.open
  obtain ⟨p3,c3,rfl, -, -⟩:=hl3.open
  obtain ⟨p4,c4,rfl, -, -⟩:=hl4.open
  refine cj_skip (K5 (sQ fun K6=>cj_block (sQ fun K7=>cj_reg (jJ ru23 so57 (k:=?_)))))
  refine j_valw rfl (fun a w ha hH hf=>r_loadA ag57 so57 rfl rfl (hcell w (hf.keepAll (.inr rfl))) ha) (j_allocA (zs:=[(.slice none 0 0),(.slice none 0 0),(.slice none 0 0),(.slice none 0 0)]) zv57 rfl fun b4=>jB [_,_,_,_] [_,_] 0 so57 (k:=K7 (sQ fun K8=>sQ fun K9=>cj_reg (jF 1 ru57 so53 (k:=jH 0 ag53 (k:=jE ru53 (k:=jF 0 ru31 so22 (k:=jH 1 ag22 (k:=jE ru22 (k:=?_))))))))))
  refine j_val rfl (fun _ _ h=>r_neq rfl rfl h) (jM (k:=?_))
  refine j_split (t:=21) rfl (fun hg21=>?_) (fun hg21=>?_)
  ·refine j_gf rfl rfl rfl rfl (j_gf rfl rfl rfl rfl (j_gf rfl rfl rfl rfl (j_gf rfl rfl rfl rfl (jT (k:=jM (k:=?_))))))
   refine j_gf rfl rfl rfl rfl (j_gf rfl rfl rfl rfl (j_gf rfl rfl rfl rfl (j_gf rfl rfl rfl rfl (jT (k:=jM (k:=?_))))))
   refine j_gf rfl rfl rfl rfl (j_gf rfl rfl rfl rfl (j_gf rfl rfl rfl rfl (jT (k:=K9 (CJ.t [(1,_),(4,_),(8,_),(9,_),(10,_),(37,_)] (k:=?_))))))
   refine cj_if_t rfl (sQ fun K10=>cj_reg (jA (k:=K10 (cj_ret ?_))))
   first|exact ej_ret1 results8 rfl fun w' hH hf=>⟨⟨_,rfl,fun h=>absurd h (by decide)⟩,hf⟩|exact ej_ret1 results8 rfl fun w' hH hf=>⟨⟨_,rfl,fun h=>by subst h;simp at hg60 hg66 hg72;exact ⟨by rw[List.take_of_length_le (by omega)]at hS;exact hS,by omega,by omega,by omega,hb74 rfl⟩⟩,hf⟩
  ·refine j_gt rfl rfl (jF 0 ru31 so22 (k:=?_))
   refine j_gt rfl rfl (jH 1 ag22 (k:=?_))
   refine j_gt rfl rfl (jE ru22 (k:=?_))
   refine j_gt rfl rfl (jQ (k:=jK (k:=jM (k:=?_))))
   refine j_split (t:=27) rfl (fun hg27=>?_) (fun hg27=>?_)
   ·refine j_gf rfl rfl rfl rfl (j_gf rfl rfl rfl rfl (j_gf rfl rfl rfl rfl (j_gf rfl rfl rfl rfl (jT (k:=jM (k:=?_))))))
    refine j_gf rfl rfl rfl rfl (j_gf rfl rfl rfl rfl (j_gf rfl rfl rfl rfl (jT (k:=K9 (CJ.t [(1,_),(4,_),(8,_),(9,_),(10,_),(37,_)] (k:=?_))))))
    refine cj_if_t rfl (sQ fun K11=>cj_reg (jA (k:=K11 (cj_ret ?_))))
    first|exact ej_ret1 results8 rfl fun w' hH hf=>⟨⟨_,rfl,fun h=>absurd h (by decide)⟩,hf⟩|exact ej_ret1 results8 rfl fun w' hH hf=>⟨⟨_,rfl,fun h=>by subst h;simp at hg60 hg66 hg72;exact ⟨by rw[List.take_of_length_le (by omega)]at hS;exact hS,by omega,by omega,by omega,hb74 rfl⟩⟩,hf⟩
   ·refine j_gt rfl rfl (jF 0 ru57 so32 (k:=?_))
    refine j_gt rfl rfl (jH 0 ag32 (k:=?_))
    refine j_gt rfl rfl (jE ru32 (k:=?_))
    refine j_gt rfl rfl (jG (k:=jK (k:=jM (k:=?_))))
    refine j_split (t:=33) rfl (fun hg33=>?_) (fun hg33=>?_)
    ·refine j_gf rfl rfl rfl rfl (j_gf rfl rfl rfl rfl (j_gf rfl rfl rfl rfl (jT (k:=K9 (CJ.t [(1,_),(4,_),(8,_),(9,_),(10,_),(37,_)] (k:=?_))))))
     refine cj_if_t rfl (sQ fun K12=>cj_reg (jA (k:=K12 (cj_ret ?_))))
     first|exact ej_ret1 results8 rfl fun w' hH hf=>⟨⟨_,rfl,fun h=>absurd h (by decide)⟩,hf⟩|exact ej_ret1 results8 rfl fun w' hH hf=>⟨⟨_,rfl,fun h=>by subst h;simp at hg60 hg66 hg72;exact ⟨by rw[List.take_of_length_le (by omega)]at hS;exact hS,by omega,by omega,by omega,hb74 rfl⟩⟩,hf⟩
    ·refine j_gt rfl rfl (j_valw rfl (fun a w ha hH hf=>r_ldA (vs:=[_,_,_,_]) 0 rfl rfl ag57 so57 rfl rfl rfl ha hH) (j_gt rfl rfl ?_))
     refine j_callQ (φ:=fun v=>∃b,v=.bool b∧(b=true→LabP x.samples[k])) call25 rfl rfl (fun w hH hf=>labeled_c w _ _ (RSample.keep (hf.keepAll (.inr rfl)) _ _ hR')) ?_
     rintro _ ⟨b35,rfl,hb35⟩
     refine j_gt rfl rfl (jU (k:=jK (k:=K9 ?_)))
     refine cj_if rfl (fun h37=>?_) (fun h37=>?_)
     ·refine sQ fun K13=>cj_reg (jA (k:=K13 (cj_ret ?_)))
      first|exact ej_ret1 results8 rfl fun w' hH hf=>⟨⟨_,rfl,fun h=>absurd h (by decide)⟩,hf⟩|exact ej_ret1 results8 rfl fun w' hH hf=>⟨⟨_,rfl,fun h=>by subst h;simp at hg60 hg66 hg72;exact ⟨by rw[List.take_of_length_le (by omega)]at hS;exact hS,by omega,by omega,by omega,hb74 rfl⟩⟩,hf⟩
     ·refine cj_skip (K8 (sQ fun K14=>cj_reg (jF 0 ru57 so32 (k:=jH 0 ag32 (k:=jE ru32 (k:=jM (k:=K14 (CJ.t [(1,_),(8,_),(9,_),(10,_),(39,_),(40,_),(41,_)] (k:=cj_block ?_)))))))))
      refine cj_loop (σ:=Nat) (fun j=>[(1,.pointer (some ⟨b1,0,none⟩)),(8,.slice (some ⟨b,o,none⟩) x.samples.length cs'),(9,.int .i64 (x.samples.length:Nat)),(10,.int .i64 (k:Nat)),(39,.slice p1 x.samples[k].stack.length c1),(40,.int .i64 (x.samples[k].stack.length:Nat)),(41,.int .i64 (j:Nat))])
       (fun _=>[⟨b1,31,[.slice pt x.types.length ct,.string x.deflt,.slice (some ⟨b,o,none⟩) x.samples.length cs',lm,.slice pl x.locs.length cl,lf,.slice pc x.comments.length cc,.string x.drop,.string x.keep,.int .i64 x.time,.int .i64 x.dur,.int .i64 x.period,.string x.per.ty,.string x.per.unit],true,true,none⟩])
       (fun j _=>j≤x.samples[k].stack.length∧∀n∈x.samples[k].stack.take j,0≤n∧n<x.locs.length)
       (fun j=>x.samples[k].stack.length - j) 0 sR (fun w hH hf=>⟨hH.2.2.2,Nat.zero_le _,by simp⟩) ?_
      rintro j w2 ⟨hj,hN⟩ hf2 hH2 KL2 hKL2
      refine C.begin _ _ hf2 hH2 ?_
      refine sQ fun K15=>cj_reg (jS (k:=K15 (sQ fun K16=>?_)))
      refine cj_dec rfl (fun h42=>?_) (fun h42=>?_)
      ·have hj':j<x.samples[k].stack.length:=by omega
       obtain ⟨b',o',cs2,rfl, -,hR2,hcell2⟩:=hx1 j x.samples[k].stack[j] (List.getElem?_eq_getElem hj')
       obtain ⟨rfl,hwn⟩:=hR2
       refine cj_skip (K16 (sQ fun K17=>cj_block (sQ fun K18=>cj_reg (jJ ru32 so3 (k:=?_)))))
       refine j_valw rfl (fun a w ha hH hf=>r_load ag3 rfl (hcell2 w (hf.keepAll (.inr rfl)) 0 _ rfl) ha) (jA (k:=K18 (sQ fun K19=>cj_reg (jM (k:=jS (k:=jM (k:=?_)))))))
       refine j_split (t:=47) rfl (fun hg47=>?_) (fun hg47=>?_)
       ·refine j_gf rfl rfl rfl rfl (j_gf rfl rfl rfl rfl (j_gf rfl rfl rfl rfl (j_gf rfl rfl rfl rfl (j_gf rfl rfl rfl rfl (jT (k:=K19 (CJ.t [(1,_),(8,_),(9,_),(10,_),(39,_),(40,_),(41,_),(53,_)] (k:=?_))))))))
        refine cj_if_t rfl (sQ fun K20=>cj_reg (jA (k:=K20 (cj_ret ?_))))
        first|exact ej_ret1 results8 rfl fun w' hH hf=>⟨⟨_,rfl,fun h=>absurd h (by decide)⟩,hf⟩|exact ej_ret1 results8 rfl fun w' hH hf=>⟨⟨_,rfl,fun h=>by subst h;simp at hg60 hg66 hg72;exact ⟨by rw[List.take_of_length_le (by omega)]at hS;exact hS,by omega,by omega,by omega,hb74 rfl⟩⟩,hf⟩
       ·refine j_gt rfl rfl (jM (k:=?_))
        refine j_gt rfl rfl (jF 4 ru31 so25 (k:=?_))
        refine j_gt rfl rfl (jH 0 ag25 (k:=?_))
        refine j_gt rfl rfl (jE ru25 (k:=?_))
        refine j_gt rfl rfl (j_val rfl (fun _ _ h=>r_geq rfl rfl h) (jK (k:=K19 (CJ.t [(1,_),(8,_),(9,_),(10,_),(39,_),(40,_),(41,_),(53,_)] (k:=?_)))))
        refine cj_if rfl (fun h53=>?_) (fun h53=>?_)
        ·refine sQ fun K21=>cj_reg (jA (k:=K21 (cj_ret ?_)))
         first|exact ej_ret1 results8 rfl fun w' hH hf=>⟨⟨_,rfl,fun h=>absurd h (by decide)⟩,hf⟩|exact ej_ret1 results8 rfl fun w' hH hf=>⟨⟨_,rfl,fun h=>by subst h;simp at hg60 hg66 hg72;exact ⟨by rw[List.take_of_length_le (by omega)]at hS;exact hS,by omega,by omega,by omega,hb74 rfl⟩⟩,hf⟩
        ·refine cj_skip (K17 (cj_reg (jI (k:=jM (k:=j_nil (ej_then ?_))))))
         exact fun w hH hf=>hKL2 (j+1) _ w ⟨hj',all_step hj' hN (by simp at hg47 h53;omega)⟩ hf hH (by omega) sR
      ·refine cj_exit (K6 (cj_reg (jI (k:=jM (k:=j_nil (ej_then ?_))))))
       exact fun w hH hf=>hKL (k+1) _ w ⟨hk',all_step hk' hS (by rw[List.take_of_length_le (by omega)]at hN;exact ⟨eqz_of hg21,nez_of hg27,le60_of hg33,hb35 (by simpa using h37),hN⟩)⟩ hf hH (by omega) sR
 ·refine cj_exit (K2 (sQ fun K22=>cj_reg (jF 2 ru31 so23 (k:=jH 0 ag23 (k:=jE ru23 (k:=?_))))))
  refine j_val rfl (fun _ _ h=>r_leq rfl rfl h) (jM (k:=?_))
  refine j_split (t:=60) rfl (fun hg60=>?_) (fun hg60=>?_)
  ·refine j_gt rfl rfl (jF 0 ru31 so22 (k:=?_))
   refine j_gt rfl rfl (jH 0 ag22 (k:=?_))
   refine j_gt rfl rfl (jE ru22 (k:=?_))
   refine j_gt rfl rfl (j_val rfl (fun _ _ h=>r_leq rfl rfl h) (jT (k:=jM (k:=?_))))
   refine j_split (t:=66) rfl (fun hg66=>?_) (fun hg66=>?_)
   ·refine j_gt rfl rfl (jF 6 ru31 so27 (k:=?_))
    refine j_gt rfl rfl (jH 0 ag27 (k:=?_))
    refine j_gt rfl rfl (jE ru27 (k:=?_))
    refine j_gt rfl rfl (j_val rfl (fun _ _ h=>r_leq rfl rfl h) (jT (k:=jM (k:=?_))))
    refine j_split (t:=72) rfl (fun hg72=>?_) (fun hg72=>?_)
    ·refine j_gt rfl rfl (j_valw rfl (fun a w ha hH hf=>r_ldA (vs:=[_,_,_,_,_,_,_,_,_,_,_,_,_,_]) 0 rfl rfl ag31 so31 rfl rfl rfl ha hH) (j_gt rfl rfl ?_))
     refine j_callQ (φ:=fun v=>∃b,v=.bool b∧(b=true→TabP x)) call26 rfl rfl (fun w hH hf=>tables_c w _ _ (RProf.keep (hf.keepAll (.inr rfl)) _ _ hP) hbm hbl hbf) ?_
     rintro _ ⟨b74,rfl,hb74⟩
     refine jT (k:=jA (k:=K22 (CJ.t [(2,_)] (k:=cj_ret ?_))))
     first|exact ej_ret1 results8 rfl fun w' hH hf=>⟨⟨_,rfl,fun h=>absurd h (by decide)⟩,hf⟩|exact ej_ret1 results8 rfl fun w' hH hf=>⟨⟨_,rfl,fun h=>by subst h;simp at hg60 hg66 hg72;exact ⟨by rw[List.take_of_length_le (by omega)]at hS;exact hS,by omega,by omega,by omega,hb74 rfl⟩⟩,hf⟩
    ·refine j_gf rfl rfl rfl rfl (j_gf rfl rfl rfl rfl (jK (k:=jA (k:=K22 (cj_ret ?_)))))
     first|exact ej_ret1 results8 rfl fun w' hH hf=>⟨⟨_,rfl,fun h=>absurd h (by decide)⟩,hf⟩|exact ej_ret1 results8 rfl fun w' hH hf=>⟨⟨_,rfl,fun h=>by subst h;simp at hg60 hg66 hg72;exact ⟨by rw[List.take_of_length_le (by omega)]at hS;exact hS,by omega,by omega,by omega,hb74 rfl⟩⟩,hf⟩
   ·refine j_gf rfl rfl rfl rfl (j_gf rfl rfl rfl rfl (j_gf rfl rfl rfl rfl (j_gf rfl rfl rfl rfl (jK (k:=jM (k:=?_))))))
    refine j_gf rfl rfl rfl rfl (j_gf rfl rfl rfl rfl (jK (k:=jA (k:=K22 (CJ.t [(2,_)] (k:=cj_ret ?_))))))
    first|exact ej_ret1 results8 rfl fun w' hH hf=>⟨⟨_,rfl,fun h=>absurd h (by decide)⟩,hf⟩|exact ej_ret1 results8 rfl fun w' hH hf=>⟨⟨_,rfl,fun h=>by subst h;simp at hg60 hg66 hg72;exact ⟨by rw[List.take_of_length_le (by omega)]at hS;exact hS,by omega,by omega,by omega,hb74 rfl⟩⟩,hf⟩
  ·refine j_gf rfl rfl rfl rfl (j_gf rfl rfl rfl rfl (j_gf rfl rfl rfl rfl (j_gf rfl rfl rfl rfl (jK (k:=jM (k:=?_))))))
   refine j_gf rfl rfl rfl rfl (j_gf rfl rfl rfl rfl (j_gf rfl rfl rfl rfl (j_gf rfl rfl rfl rfl (jK (k:=jM (k:=?_))))))
   refine j_gf rfl rfl rfl rfl (j_gf rfl rfl rfl rfl (jK (k:=jA (k:=K22 (CJ.t [(2,_)] (k:=cj_ret ?_))))))
   first|exact ej_ret1 results8 rfl fun w' hH hf=>⟨⟨_,rfl,fun h=>absurd h (by decide)⟩,hf⟩|exact ej_ret1 results8 rfl fun w' hH hf=>⟨⟨_,rfl,fun h=>by subst h;simp at hg60 hg66 hg72;exact ⟨by rw[List.take_of_length_le (by omega)]at hS;exact hS,by omega,by omega,by omega,hb74 rfl⟩⟩,hf⟩
theorem bless_irrefl:∀a:List UInt8,Op.bytesLess a a=false
 |[]=>rfl
 |x::r=>by simp[Op.bytesLess,bless_irrefl r]
theorem bless_trans:∀a b c:List UInt8,Op.bytesLess a b=true→Op.bytesLess b c=true→Op.bytesLess a c=true
 |_,[],_,h,_=>by cases ‹List UInt8› <;>simp[Op.bytesLess]at h
 |_,_::_,[],_,h=>by simp[Op.bytesLess]at h
 |[],_::_,_::_,_,_=>by simp[Op.bytesLess]
 |x::a,y::b,z::c,h1,h2=>by
    simp only[Op.bytesLess,Bool.or_eq_true,decide_eq_true_eq,Bool.and_eq_true,beq_iff_eq]at h1 h2⊢
    rcases h1 with h1|⟨rfl,h1⟩
    ·rcases h2 with h2|⟨rfl,h2⟩
     ·exact .inl (UInt8.lt_trans h1 h2)
     ·exact .inl h1
    ·rcases h2 with h2|⟨rfl,h2⟩
     ·exact .inl h2
     ·exact .inr ⟨rfl,bless_trans a b c h1 h2⟩
theorem ltB_irrefl (a:ByteArray):ltB a a=false:=bless_irrefl _
theorem ltB_trans {a b c:ByteArray} (h1:ltB a b=true) (h2:ltB b c=true):ltB a c=true:=bless_trans _ _ _ h1 h2
theorem asc_lt {ks:List ByteArray} (h:∀(i:Nat) t u,ks[i]? =some t→ks[i+1]? =some u→ltB t u=true):∀(d i:Nat) t u,ks[i]? =some t→ks[i+d+1]? =some u→ltB t u=true
 |0,i,t,u,h1,h2=>h i t u h1 h2
 |d+1,i,t,u,h1,h2=>by
    have hl:=(List.getElem?_eq_some_iff.1 h2).1
    have h3:ks[i+d+1]? =some (ks[i+d+1]'(by omega)):=List.getElem?_eq_getElem (by omega)
    exact ltB_trans (asc_lt h d i t _ h1 h3) (h (i+d+1) _ u h3 (by rw[← h2];congr 1))
theorem mset_new {κ:Type} [DecidableEq κ]:∀{ms:List (κ×Value)} {k:κ} {v:Value},k∉ms.map (·.1)→mset ms k v=ms++[(k,v)]
 |[],_,_,_=>rfl
 |(k',u)::r,k,v,h=>by
     simp only[List.map_cons,List.mem_cons,not_or]at h
     simp only[mset,if_neg h.1,mset_new h.2,List.cons_append]
def LabI (T:Nat) (w:World) (mo:Option Nat) (ent:Ent) (ks:List (ByteArray×List Value)) (k:Nat):Prop:=
 (k=0∧mo=none∧ent=nilE 0)∨∃mb es ck ms,mo=some mb∧ent=mpE mb es ck∧MEnc Value.string ms es ck∧ms.map (·.1)=(ks.take k).map (·.1)∧∀(i:Nat) m q,ms[i]? =some m→ks[i]? =some q→OS T 1 w m.2 q.2
theorem LabI.push {ks:List (ByteArray×List Value)} {ms:List (ByteArray×Value)} {key:ByteArray} (hk:k<ks.length) (hM:MEnc Value.string (mset ms key v) es ck)
  (hkeys:ms.map (·.1)=(ks.take k).map (·.1)) (hos:∀(i:Nat) m q,ms[i]? =some m→ks[i]? =some q→OS T 1 w m.2 q.2) (hkey:ks[k].1=key) (hnew:key∉(ks.take k).map (·.1)) (hv:OS T 1 w v ks[k].2):LabI T w (some mb) (mpE mb es ck) ks (k+1):=by
 rw[mset_new (by rw[hkeys];exact hnew)]at hM
 have hlen:ms.length=k:=by have:=congrArg List.length hkeys;simp at this;omega
 refine .inr ⟨mb,es,ck,_,rfl,rfl,hM,by rw[← List.take_append_getElem hk,List.map_append,List.map_append,hkeys,List.map_cons,List.map_nil,List.map_cons,List.map_nil,hkey],fun i m q hm hq=>?_⟩
 by_cases hi:i<k
 ·rw[List.getElem?_append_left (by omega)]at hm
  exact hos i m q hm hq
 ·have hlt:=(List.getElem?_eq_some_iff.1 hm).1
  simp at hlt
  have:i=k:=by omega
  subst this
  rw[List.getElem?_append_right (by omega)]at hm
  simp[hlen]at hm
  rw[List.getElem?_eq_getElem hk]at hq
  simp at hq
  subst hm;subst hq
  exact hv
theorem LabI.mono {mo:Option Nat} {ent:Ent} {ks:List (ByteArray×List Value)} (h:LabI T w mo ent ks k) (hk:∀b cs,Blk w b T cs→Blk w' b T cs):LabI T w' mo ent ks k:=by
 rcases h with h|⟨mb,es,ck,ms,h1,h2,h3,h4,h5⟩
 ·exact .inl h
 ·exact .inr ⟨mb,es,ck,ms,h1,h2,h3,h4,fun i m q hm hq=>(h5 i m q hm hq).mono hk⟩
theorem LabI.done {mo:Option Nat} {ent:Ent} {ks:List (ByteArray×List Value)} {f:Fm} {H:Heap} (i:Nat) (h:LabI T w mo ent ks k) (hk:k=ks.length) (hH:Hp f w H) (hi:H[i]? =some ent):LabM T w (.map mo) ks:=by
 subst hk
 rcases h with ⟨h1,rfl, -⟩|⟨mb,es,ck,ms,rfl,rfl,h3,h4,h5⟩
 ·exact .inl ⟨List.eq_nil_of_length_eq_zero h1,rfl⟩
 ·rw[List.take_of_length_le (Nat.le_refl _)]at h4
  exact .inr ⟨mb,es,ck,ms,rfl,hH.obj hi rfl,h3,h4,h5⟩
theorem LabI.tag {mo:Option Nat} {ent:Ent} {ks:List (ByteArray×List Value)} (h:LabI T w mo ent ks k) (he:ent.ex=true):ent.tag=1000000:=by
 rcases h with ⟨-, -,rfl⟩|⟨mb,es,ck,ms, -,rfl, -⟩
 ·simp[Ent.ex,nilE]at he
 ·rfl
theorem LabI.some {mo:Option Nat} {ent:Ent} {ks:List (ByteArray×List Value)} (h:LabI T w mo ent ks k) (hn:mo.isNone=false):∃mb es ck ms,mo=some mb∧ent=mpE mb es ck∧MEnc Value.string ms es ck∧ms.map (·.1)=(ks.take k).map (·.1)∧∀(i:Nat) m q,ms[i]? =some m→ks[i]? =some q→OS T 1 w m.2 q.2:=by
 rcases h with ⟨-,rfl, -⟩|h
 ·cases hn
 ·exact h
theorem LabI.none {mo:Option Nat} {ent:Ent} {ks:List (ByteArray×List Value)} (h:LabI T w mo ent ks k) (hn:mo.isNone=true):k=0∧mo=none∧ent=nilE 0:=by
 rcases h with h|⟨_,_,_,_,rfl, -⟩
 ·exact h
 ·cases hn
open Go Go.Fw Go.Proofs Go.Sort
theorem ltB_eq (x y:ByteArray):ltB x y=decide (x.data.toList<y.data.toList):=by
 rw[ltB,bytesLess_eq,Lib.toList_data,Lib.toList_data]
theorem putH_self:∀{H:Heap} {i:Nat} {y:Ent},H[i]? =some y→putH H i y=H
 |[],_,_,h=>by simp at h
 |x::r,0,y,h=>by simp at h;subst h;rfl
 |x::r,i+1,y,h=>by simp at h;simp[putH,putH_self h]
section
variable {Q:Exit→Act→World→Prop} {n:Nat} {f:Fm} {e:Env} {H:Heap} {ops:Array Oper} {rest:List Oper} {d ty:Nat} {pos:String} {af:Array Edge}
end
theorem nodup_len:∀{l m:List Nat},l.Nodup→(∀x∈l,x∈m)→l.length≤m.length
 |[],_,_,_=>Nat.zero_le _
 |a::r,m,h,hs=>by
    have h1:=List.nodup_cons.1 h
    have ha:a∈m:=hs a (by simp)
    have:=nodup_len (l:=r) (m:=m.erase a) h1.2 fun x hx=>(List.mem_erase_of_ne (by rintro rfl;exact h1.1 hx)).2 (hs x (by simp[hx]))
    rw[List.length_erase_of_mem ha]at this
    have:=List.length_pos_of_mem ha
    simp only[List.length_cons]
    omega
structure Vis (es xs:List MapEntry) (seen:List Nat):Prop where
 sn:xs.map (·.born)=seen
 nd:seen.Nodup
 sub:∀x∈xs,x∈es
theorem Vis.nil:Vis es [] []:=⟨rfl,by simp,by simp⟩
theorem Vis.push {xs:List MapEntry} {seen:List Nat} {x:MapEntry} (h:Vis es xs seen) (hx:x∈es) (hn:x.born∉seen):Vis es (xs++[x]) (seen++[x.born]):=
 ⟨by simp[h.sn],by rw[List.nodup_append];exact ⟨h.nd,by simp,by simp;intro a ha he;subst he;exact hn ha⟩,fun y hy=>by
  rcases List.mem_append.1 hy with hy|hy
  ·exact h.sub y hy
  ·simp at hy;subst hy;exact hx⟩
theorem Vis.len {xs:List MapEntry} {seen:List Nat} (h:Vis es xs seen) (hb:(es.map (·.born)).Nodup):seen.length≤es.length:=by
 have h1:seen ⊆ es.map (·.born):=by
  intro b hb'
  rw[← h.sn]at hb'
  obtain ⟨x,hx,rfl⟩:=List.mem_map.1 hb'
  exact List.mem_map.2 ⟨x,h.sub x hx,rfl⟩
 have:=nodup_len h.nd fun x hx=>h1 hx
 simpa using this
theorem born_inj (hb:(es.map (·.born)).Nodup) {x y:MapEntry} (hx:x∈es) (hy:y∈es) (h:x.born=y.born):x=y:=by
 induction es with
 |nil=>cases hx
 |cons a r ih=>
  simp only[List.map_cons,List.nodup_cons]at hb
  rcases List.mem_cons.1 hx with hxa|hx
  ·rcases List.mem_cons.1 hy with hya|hy
   ·rw[hxa,hya]
   ·exact absurd (List.mem_map.2 ⟨y,hy,by rw[← h,hxa]⟩) hb.1
  ·rcases List.mem_cons.1 hy with hya|hy
   ·exact absurd (List.mem_map.2 ⟨x,hx,by rw[h,hya]⟩) hb.1
   ·exact ih hb.2 hx hy
theorem Vis.all {xs:List MapEntry} {seen:List Nat} (h:Vis es xs seen) (hb:(es.map (·.born)).Nodup) (ha:∀x∈es,x.born∈seen):∀x∈es,x∈xs:=by
 intro x hx
 have:=ha x hx
 rw[← h.sn]at this
 obtain ⟨y,hy,he⟩:=List.mem_map.1 this
 rw[← born_inj hb (h.sub y hy) hx he];exact hy
theorem menc_entry {κ:Type} [DecidableEq κ] {enc:κ→Value} {ms:List (κ×Value)} (h:MEnc enc ms es ck) {x:MapEntry} (hx:x∈es):∃p∈ms,x.key=enc p.1∧x.val=p.2:=by
 have h1:(x.key,x.val)∈es.map (fun x=>(x.key,x.val)):=List.mem_map.2 ⟨x,hx,rfl⟩
 rw[h.kv]at h1
 obtain ⟨p,hp,he⟩:=List.mem_map.1 h1
 injection he with e1 e2
 exact ⟨p,hp,e1.symm,e2.symm⟩
theorem map_inj_string:∀{a b:List ByteArray},a.map Value.string=b.map Value.string→a=b
 |[],[],_=>rfl
 |[],_::_,h=>by simp at h
 |_::_,[],h=>by simp at h
 |x::r,y::s,h=>by
    simp only[List.map_cons,List.cons.injEq,Value.string.injEq]at h
    rw[h.1,map_inj_string h.2]
theorem nodup_map_inj {α β:Type} {g:α→β}:∀{es:List α},(es.map g).Nodup→∀{x y:α},x∈es→y∈es→g x=g y→x=y
 |[],_,_,_,hx,_,_=>by cases hx
 |a::r,hb,x,y,hx,hy,h=>by
    simp only[List.map_cons,List.nodup_cons]at hb
    rcases List.mem_cons.1 hx with hxa|hx
    ·rcases List.mem_cons.1 hy with hya|hy
     ·rw[hxa,hya]
     ·exact absurd (List.mem_map.2 ⟨y,hy,by rw[← h,hxa]⟩) hb.1
    ·rcases List.mem_cons.1 hy with hya|hy
     ·exact absurd (List.mem_map.2 ⟨x,hx,by rw[h,hya]⟩) hb.1
     ·exact nodup_map_inj hb.2 hx hy h
theorem nodup_map_on' {α β:Type} {g:α→β}:∀{xs:List α},xs.Nodup→(∀x∈xs,∀y∈xs,g x=g y→x=y)→(xs.map g).Nodup
 |[],_,_=>by simp
 |a::r,h,hi=>by
    have h1:=List.nodup_cons.1 h
    simp only[List.map_cons,List.nodup_cons]
    refine ⟨fun hm=>?_,nodup_map_on' h1.2 fun x hx y hy=>hi x (by simp[hx]) y (by simp[hy])⟩
    obtain ⟨y,hy,he⟩:=List.mem_map.1 hm
    rw[hi y (by simp[hy]) a (by simp) he]at hy
    exact h1.1 hy
theorem nodup_of_map' {α β:Type} {g:α→β}:∀{xs:List α},(xs.map g).Nodup→xs.Nodup
 |[],_=>by simp
 |a::r,h=>by
    simp only[List.map_cons,List.nodup_cons]at h⊢
    exact ⟨fun hm=>h.1 (List.mem_map.2 ⟨a,hm,rfl⟩),nodup_of_map' h.2⟩
theorem Vis.keys {ms:List (ByteArray×Value)} {xs:List MapEntry} {seen:List Nat} (h:Vis es xs seen) (hM:MEnc Value.string ms es ck) (ha:∀x∈es,x.born∈seen):∃ks:List ByteArray,xs.map (·.key)=ks.map .string∧ks.Nodup∧∀k,k∈ks↔k∈ms.map (·.1):=by
 have hall:=h.all hM.born ha
 have hkey:∀x∈es,∃k,x.key=.string k∧k∈ms.map (·.1):=fun x hx=>by
  obtain ⟨p,hp,h1, -⟩:=menc_entry hM hx
  exact ⟨p.1,h1,List.mem_map.2 ⟨p,hp,rfl⟩⟩
 let kof:MapEntry→ByteArray:=fun x=>match x.key with
  | .string k=>k
  |_=>⟨#[]⟩
 have hk:∀x∈es,x.key=.string (kof x):=fun x hx=>by
  obtain ⟨k,h1, -⟩:=hkey x hx
  simp only[kof,h1]
 have hxn:xs.Nodup:=by
  have:=h.nd
  rw[← h.sn]at this
  exact nodup_of_map' this
 have hen:(es.map kof).Nodup:=by
  have h1:es.map (fun x=>x.key)=ms.map fun p=>Value.string p.1:=by
   have:=congrArg (List.map Prod.fst) hM.kv
   simpa[List.map_map,Function.comp_def]using this
  have h2:es.map (fun x=>x.key)=(es.map kof).map Value.string:=by
   rw[List.map_map]
   exact List.map_congr_left fun x hx=>hk x hx
  have h3:es.map kof=ms.map (·.1):=by
   have h4:(es.map kof).map Value.string=(ms.map (·.1)).map Value.string:=by rw[← h2,h1,List.map_map];rfl
   exact map_inj_string h4
  rw[h3];exact hM.keys
 refine ⟨xs.map kof,?_,?_,fun k=>⟨fun hm=>?_,fun hm=>?_⟩⟩
 ·rw[List.map_map]
  exact List.map_congr_left fun x hx=>hk x (h.sub x hx)
 ·exact nodup_map_on' hxn fun x hx y hy he=>nodup_map_inj hen (h.sub x hx) (h.sub y hy) he
 ·obtain ⟨x,hx,rfl⟩:=List.mem_map.1 hm
  obtain ⟨k,h1,h2⟩:=hkey x (h.sub x hx)
  have:=hk x (h.sub x hx)
  rw[h1]at this
  cases this
  exact h2
 ·obtain ⟨p,hp,rfl⟩:=List.mem_map.1 hm
  have h1:(Value.string p.1,p.2)∈ms.map fun p=>(Value.string p.1,p.2):=List.mem_map.2 ⟨p,hp,rfl⟩
  rw[← hM.kv]at h1
  obtain ⟨x,hx,he⟩:=List.mem_map.1 h1
  refine List.mem_map.2 ⟨x,hall x hx,?_⟩
  have h2:=hk x hx
  injection he with e1 e2
  rw[e1]at h2
  exact (Value.string.inj h2).symm
structure LabX (T:Nat) (w:World) (mo:Option Nat) (ks:List (ByteArray×List Value)) (es:List MapEntry) (ck:Nat) (ms:List (ByteArray×Value)):Prop where
 enc:MEnc Value.string ms es ck
 at_:MapAt w mo es ck
 keys:ms.map (·.1)=ks.map (·.1)
 os:∀(i:Nat) m k,ms[i]? =some m→ks[i]? =some k→OS T 1 w m.2 k.2
theorem LabM.x {ks:List (ByteArray×List Value)} (h:LabM T w v ks):∃mo es ck ms,v=.map mo∧LabX T w mo ks es ck ms:=by
 rcases h with ⟨rfl,rfl⟩|⟨b,es,ck,ms,rfl,h2,h3,h4,h5⟩
 ·exact ⟨none,[],0,[],rfl,MEnc.nil',.inl ⟨rfl,rfl,rfl⟩,rfl,by simp⟩
 ·exact ⟨some b,es,ck,ms,rfl,h3,.inr ⟨b,rfl,h2⟩,h4,h5⟩
theorem LabX.get {mo:Option Nat} {ks:List (ByteArray×List Value)} {ms:List (ByteArray×Value)} (h:LabX T w mo ks es ck ms) {k:ByteArray×List Value} (hk:ks[i]? =some k) (z:Value):∃v,(mget ms k.1).getD z=v∧OS T 1 w v k.2:=by
 have hl:ms.length=ks.length:=by have:=congrArg List.length h.keys;simpa using this
 have hi:=(List.getElem?_eq_some_iff.1 hk).1
 have hm:ms[i]? =some ms[i]:=List.getElem?_eq_getElem (by omega)
 have he:ms[i].1=k.1:=by
  have h1:(ms.map (·.1))[i]? =(ks.map (·.1))[i]? :=by rw[h.keys]
  rw[List.getElem?_map,List.getElem?_map,hm,hk]at h1
  exact Option.some.inj h1
 refine ⟨ms[i].2,?_,h.os i _ _ hm hk⟩
 have:(k.1,ms[i].2)∈ms:=by rw[← he];exact List.getElem_mem (by omega)
 rw[mget_of_mem h.enc.keys this];rfl
theorem asc_pw {ks:List ByteArray} (h:∀(i:Nat) t u,ks[i]? =some t→ks[i+1]? =some u→ltB t u=true):ks.Pairwise fun x y=>ltB x y=true:=by
 rw[List.pairwise_iff_getElem]
 intro i j hi hj hij
 exact asc_lt h (j - i - 1) i _ _ (List.getElem?_eq_getElem hi) (by rw[show i+(j - i - 1)+1=j by omega];exact List.getElem?_eq_getElem hj)
theorem LabP.tpw (h:LabP s):(s.texts.map (·.key)).Pairwise fun x y=>ltB x y=true:=asc_pw fun i t u ht hu=>by
 rw[List.getElem?_map]at ht hu
 obtain ⟨a,ha,rfl⟩:=Option.map_eq_some_iff.1 ht
 obtain ⟨c,hc,rfl⟩:=Option.map_eq_some_iff.1 hu
 exact h.tasc i a c ha hc
theorem LabP.npw (h:LabP s):(s.nums.map (·.key)).Pairwise fun x y=>ltB x y=true:=asc_pw fun i t u ht hu=>by
 rw[List.getElem?_map]at ht hu
 obtain ⟨a,ha,rfl⟩:=Option.map_eq_some_iff.1 ht
 obtain ⟨c,hc,rfl⟩:=Option.map_eq_some_iff.1 hu
 exact h.nasc i a c ha hc
abbrev eB:ByteArray:=⟨#[]⟩
def samS (s:PSample):List ByteArray:=(s.texts.flatMap fun t=>t.key::t.list)++s.nums.map (·.key)
def allS (x:PProf):List ByteArray:=[eB,x.drop,x.keep,x.per.ty,x.per.unit]++((x.types.flatMap fun t=>[t.ty,t.unit])++((x.samples.flatMap samS)++((x.mappings.flatMap fun m=>[m.file,m.build])++x.funcs.flatMap fun f=>[f.name,f.system,f.file])))
def idAt (ids:List Int) (z:Int):Int:=if 0≤z then ids.getD z.toNat 0 else 0
abbrev mid (x:PProf) (z:Int):Int:=idAt (x.mappings.map (·.id)) z
abbrev fnid (x:PProf) (z:Int):Int:=idAt (x.funcs.map (·.id)) z
abbrev lid (x:PProf) (z:Int):Int:=idAt (x.locs.map (·.id)) z
def fidV (x:PProf) (g:G):Value→Int
 | .pointer (some a)=>(x.funcs.map (·.id)).getD (g.funs.idxOf a.block) 0
 |_=>0
def labE1 (t:PTexts):List (ByteArray×Option ByteArray×Int):=t.list.map fun v=>(t.key,some v,0)
def labE2 (t:PNums):List (ByteArray×Option ByteArray×Int):=t.list.map fun v=>(t.key,none,v)
def labE (s:PSample):List (ByteArray×Option ByteArray×Int):=s.texts.flatMap labE1++s.nums.flatMap labE2
def LbOK (T:List ByteArray) (q:Int×Int×Int) (e:ByteArray×Option ByteArray×Int):Prop:=At T q.1 e.1∧match e.2.1 with
 |some v=>At T q.2.1 v∧q.2.2=0
 |none=>q.2.1=0∧q.2.2=e.2.2
theorem LbOK.mono {T:List ByteArray} {q:Int×Int×Int} {e:ByteArray×Option ByteArray×Int} (h:LbOK T q e) (p:T<+:T'):LbOK T' q e:=by
 obtain ⟨h1,h2⟩:=h
 refine ⟨h1.mono p,?_⟩
 obtain ⟨k,v,z⟩:=e
 cases v with
 |some v=>exact ⟨h2.1.mono p,h2.2⟩
 |none=>exact h2
def LbR (T:List ByteArray) (lbs:List (Int×Int×Int)) (es:List (ByteArray×Option ByteArray×Int)):Prop:=lbs.length=es.length∧∀(i:Nat) q e,lbs[i]? =some q→es[i]? =some e→LbOK T q e
theorem LbR.nil {T:List ByteArray}:LbR T [] []:=⟨rfl,by simp⟩
theorem LbR.mono {T:List ByteArray} {lbs:List (Int×Int×Int)} {es:List (ByteArray×Option ByteArray×Int)} (h:LbR T lbs es) (p:T<+:T'):LbR T' lbs es:=⟨h.1,fun i q e hq he=>(h.2 i q e hq he).mono p⟩
theorem LbR.push {T:List ByteArray} {lbs:List (Int×Int×Int)} {es:List (ByteArray×Option ByteArray×Int)} {q:Int×Int×Int} {e:ByteArray×Option ByteArray×Int} (h:LbR T lbs es) (p:T<+:T') (hq:LbOK T' q e):LbR T' (lbs++[q]) (es++[e]):=by
 refine ⟨by simp[h.1],fun i q' e' hq' he'=>?_⟩
 by_cases hi:i<lbs.length
 ·rw[List.getElem?_append_left hi]at hq'
  rw[List.getElem?_append_left (by rw[← h.1];exact hi)]at he'
  exact (h.2 i q' e' hq' he').mono p
 ·have hlt:=(List.getElem?_eq_some_iff.1 hq').1
  simp at hlt
  have e1:i=lbs.length:=by omega
  subst e1
  rw[List.getElem?_append_right (by omega)]at hq'
  rw[List.getElem?_append_right (by rw[h.1];omega)]at he'
  simp at hq'
  simp[h.1]at he'
  subst hq';subst he';exact hq
def φ1 (T:List ByteArray) (w:World) (b:Nat) (t:PType):Prop:=∃n m,Blk w b tVT [.string t.ty,.string t.unit,.int .i64 n,.int .i64 m]∧At T n t.ty∧At T m t.unit
def φ3 (T:List ByteArray) (w:World) (b:Nat) (m:PMapping):Prop:=∃n k,Blk w b tMap [.int .u64 m.id,.int .u64 m.start,.int .u64 m.limit,.int .u64 m.offset,.string m.file,.string m.build,.bool m.fu,.bool m.fi,.bool m.li,.bool m.inl,.int .i64 n,.int .i64 k]∧At T n m.file∧At T k m.build
def φ5 (T:List ByteArray) (w:World) (b:Nat) (f:PFunc):Prop:=∃n k i,Blk w b tFun [.int .u64 f.id,.string f.name,.string f.system,.string f.file,.int .i64 f.start,.int .i64 n,.int .i64 k,.int .i64 i]∧At T n f.name∧At T k f.system∧At T i f.file
def φ2 (w0:World) (T:List ByteArray) (x:PProf) (w:World) (b:Nat) (s:PSample):Prop:=∃ls vs lm nm iv xv lbs,Blk w b tSam [ls,vs,lm,nm,.map none,iv,xv]∧OS tI64 1 w0 vs (s.values.map (.int .i64))∧
 OS tU64 1 w iv (s.stack.map fun z=>.int .u64 (lid x z))∧OS tLabel 3 w xv (lbs.flatMap cLb)∧LbR T lbs (labE s)
def ψ2 (w0:World) (locs:List Nat) (w:World) (b:Nat) (s:PSample):Prop:=∃ls vs lm nm,Blk w b tSam (cSam ls vs lm nm)∧OS pLoc 1 w0 ls (s.stack.map (ptrAt locs))∧OS tI64 1 w0 vs (s.values.map (.int .i64))∧LabM tStr w0 lm (labT s)∧LabM tI64 w0 nm (labN s)
def ψ4 (B:Nat) (w0:World) (g:G) (w:World) (b:Nat) (l:PLoc):Prop:=∃ls,Blk w b tLoc (cLoc g.maps l ls)∧OS tLine 3 w0 ls (l.lines.flatMap (cLine g.funs))∧∀rb n c,ls=.slice (some ⟨rb,0,none⟩) n c→B≤rb
def Full (x:PProf) (w:World) (v:Value) (lines:List PLine):Prop:=∀p l c rb,v=.slice p l c→p=some ⟨rb,0,none⟩→∀(i:Nat) n,lines[i]? =some n→w.cell? ⟨rb,i*3+2,none⟩=some (.int .u64 (fnid x n.fn))
def φ4 (w0:World) (x:PProf) (g:G) (w:World) (b:Nat) (l:PLoc):Prop:=∃ls,Blk w b tLoc [.int .u64 l.id,ptrAt g.maps l.mapping,.int .u64 l.addr,ls,.bool false,.int .u64 (mid x l.mapping)]∧OS tLine 3 w0 ls (l.lines.flatMap (cLine g.funs))∧Full x w ls l.lines
theorem φ1.mono {T:List ByteArray} {t:PType} (h:φ1 T w b t) (p:T<+:T') (k:∀cs,Blk w b tVT cs→Blk w' b tVT cs):φ1 T' w' b t:=by
 obtain ⟨n,m,h1,h2,h3⟩:=h
 exact ⟨n,m,k _ h1,h2.mono p,h3.mono p⟩
theorem φ3.mono {T:List ByteArray} {t:PMapping} (h:φ3 T w b t) (p:T<+:T') (k:∀cs,Blk w b tMap cs→Blk w' b tMap cs):φ3 T' w' b t:=by
 obtain ⟨n,m,h1,h2,h3⟩:=h
 exact ⟨n,m,k _ h1,h2.mono p,h3.mono p⟩
theorem φ5.mono {T:List ByteArray} {t:PFunc} (h:φ5 T w b t) (p:T<+:T') (k:∀cs,Blk w b tFun cs→Blk w' b tFun cs):φ5 T' w' b t:=by
 obtain ⟨n,m,i,h1,h2,h3,h4⟩:=h
 exact ⟨n,m,i,k _ h1,h2.mono p,h3.mono p,h4.mono p⟩
theorem φ2.mono {T:List ByteArray} {x:PProf} (h:φ2 w0 T x w b s) (p:T<+:T') (k:∀cs,Blk w b tSam cs→Blk w' b tSam cs) (k2:∀c cs,Blk w c tU64 cs→Blk w' c tU64 cs) (k3:∀c cs,Blk w c tLabel cs→Blk w' c tLabel cs):φ2 w0 T' x w' b s:=by
 obtain ⟨ls,vs,lm,nm,iv,xv,lbs,h1,h2,h3,h4,h5⟩:=h
 exact ⟨ls,vs,lm,nm,iv,xv,lbs,k _ h1,h2,h3.mono k2,h4.mono k3,h5.mono p⟩
theorem ψ2.mono {locs:List Nat} (h:ψ2 w0 locs w b s) (k:∀cs,Blk w b tSam cs→Blk w' b tSam cs):ψ2 w0 locs w' b s:=by
 obtain ⟨ls,vs,lm,nm,h1,h2⟩:=h
 exact ⟨ls,vs,lm,nm,k _ h1,h2⟩
theorem ψ4.mono {l:PLoc} (h:ψ4 B w0 g w b l) (k:∀cs,Blk w b tLoc cs→Blk w' b tLoc cs):ψ4 B w0 g w' b l:=by
 obtain ⟨ls,h1,h2⟩:=h
 exact ⟨ls,k _ h1,h2⟩
theorem φ4.mono {x:PProf} {l:PLoc} (h:φ4 w0 x g w b l) (k:∀cs,Blk w b tLoc cs→Blk w' b tLoc cs) (k2:∀v,OS tLine 3 w0 v (l.lines.flatMap (cLine g.funs))→Full x w v l.lines→Full x w' v l.lines):φ4 w0 x g w' b l:=by
 obtain ⟨ls,h1,h2,h3⟩:=h
 exact ⟨ls,k _ h1,h2,k2 _ h2 h3⟩
def LC (fid:Value→Int) (cs cs':List Value):Prop:=cs'.length=cs.length∧∀(j:Nat),(j%3≠2→cs'[j]? =cs[j]?)∧(j%3=2→cs'[j]? =cs[j]? ∨∃v,cs[j - 2]? =some v∧cs'[j]? =some (.int .u64 (fid v)))
theorem LC.refl {fid:Value→Int}:LC fid cs cs:=⟨rfl,fun _=>⟨fun _=>rfl,fun _=>.inl rfl⟩⟩
theorem LC.set {fid:Value→Int} {cs':List Value} (h:LC fid cs cs') (hv:cs[i*3]? =some v) (hl:i*3+2<cs.length):LC fid cs (cs'.set (i*3+2) (.int .u64 (fid v))):=by
 refine ⟨by simp[h.1],fun j=>⟨fun hj=>?_,fun hj=>?_⟩⟩
 ·rw[List.getElem?_set_ne (by omega)];exact (h.2 j).1 hj
 ·by_cases he:i*3+2=j
  ·subst he
   exact .inr ⟨v,by simpa using hv,by rw[List.getElem?_set_self (by rw[h.1];exact hl)]⟩
  ·rw[List.getElem?_set_ne he];exact (h.2 j).2 hj
def LRel (fid:Value→Int) (w0 w:World):Prop:=∀b cs,Blk w0 b tLine cs→∃cs',Blk w b tLine cs'∧LC fid cs cs'
theorem LRel.keep {fid:Value→Int} (h:LRel fid w0 w) (k:∀b cs,Blk w b tLine cs→Blk w' b tLine cs):LRel fid w0 w':=fun b cs hb=>by
 obtain ⟨cs',h1,h2⟩:=h b cs hb
 exact ⟨cs',k _ _ h1,h2⟩
abbrev wP:List Nat:=[tVT,tSam,tMap,tLoc,tLine,tFun]
structure PS (B:Nat) (w0:World) (mb:Nat) (x:PProf) (g:G) (n1 n2 n3 n4 n5:Nat) (T:List ByteArray) (w:World):Prop where
 tab:Tab w mb (allS x) T
 zero:T[0]? =some eB
 fr:Fr B wP w0 w
 pt:Pg n1 g.types x.types (φ1 T w) (φT w)
 ps:Pg n2 g.sams x.samples (φ2 w0 T x w) (ψ2 w0 g.locs w)
 pm:Pg n3 g.maps x.mappings (φ3 T w) (φM w)
 pl:Pg n4 g.locs x.locs (φ4 w0 x g w) (ψ4 B w0 g w)
 pf:Pg n5 g.funs x.funcs (φ5 T w) (φF w)
 per:Blk w g.per tVT (cVT x.per)
 lines:LRel (fidV x g) w0 w
theorem Full.keep {x:PProf} {lines:List PLine} (h:Full x w v lines) (k:∀b cs,Blk w b tLine cs→Blk w' b tLine cs) {fid:Value→Int} (hL:LRel fid w0 w) (hv:OS tLine 3 w0 v cs) (hl:lines.length*3≤cs.length):Full x w' v lines:=by
 intro p l c rb e1 e2 i n hn
 have h1:=h p l c rb e1 e2 i n hn
 obtain ⟨y,p',l',c',e3,hO,hy⟩:=hv
 rw[e1]at e3
 cases e3
 have hll:0<l:=by
  have:=hO.sl.1
  have:=(List.getElem?_eq_some_iff.1 hn).1
  omega
 obtain ⟨hon,hp⟩:=hO.pos hll
 rw[e2]at hp
 obtain rfl:rb=y.b:=by cases hp;rfl
 obtain ⟨cs',h2, -⟩:=hL _ _ (hy hon)
 rw[h2.cell]at h1
 rw[(k _ _ h2).cell]
 exact h1
theorem PS.keep {x:PProf} {n1 n2 n3 n4 n5:Nat} {T:List ByteArray} (h:PS B w0 mb x g n1 n2 n3 n4 n5 T w) (k:Fr 0 [] w w'):PS B w0 mb x g n1 n2 n3 n4 n5 T w':=by
 have kr:=fun (b:Nat) (T:Nat) (cs:List Value) (hb:Blk w b T cs)=>k.blk hb (.inr (by simp))
 exact ⟨h.tab.keep fun es ck hm=>k.keep _ _ hm (.inr (by simp)),h.zero,h.fr.trans (k.quiet B wP) (.inr ⟨Nat.le_refl _,fun _ h=>h⟩),
  h.pt.mono (fun b x hh=>hh.mono (List.prefix_refl _) fun cs=>kr _ _ cs) (fun b x hh=>kr _ _ _ hh),
  h.ps.mono (fun b x hh=>hh.mono (List.prefix_refl _) (fun cs=>kr _ _ cs) (fun c cs=>kr _ _ cs) (fun c cs=>kr _ _ cs)) (fun b x hh=>hh.mono fun cs=>kr _ _ cs),
  h.pm.mono (fun b x hh=>hh.mono (List.prefix_refl _) fun cs=>kr _ _ cs) (fun b x hh=>kr _ _ _ hh),
  h.pl.mono (fun b x hh=>hh.mono (fun cs=>kr _ _ cs) fun v hv hf=>hf.keep (fun b cs=>kr _ _ cs) h.lines hv (by rw[flatMap_len (sz:=3) (fun _=>rfl)];exact Nat.le_refl _)) (fun b x hh=>hh.mono fun cs=>kr _ _ cs),
  h.pf.mono (fun b x hh=>hh.mono (List.prefix_refl _) fun cs=>kr _ _ cs) (fun b x hh=>kr _ _ _ hh),kr _ _ _ h.per,h.lines.keep fun b cs=>kr _ _ cs⟩
abbrev LE:=ByteArray×Option ByteArray×Int
def fkey:Fld→Nat
 | .num k _=>k
 | .bys k _=>k
def fnum:Fld→Nat
 | .num _ n=>n
 | .bys _ _=>0
def fbytes:Fld→List Nat
 | .num _ _=>[]
 | .bys _ B=>B
def oneF (k s:Nat) (fs:List Fld):Nat:=fs.foldl (fun a f=>if fkey f=k then fnum f else a) s
abbrev oneN (k:Nat) (fs:List Fld):Nat:=oneF k 0 fs
theorem oneF_append (k s:Nat) (a b:List Fld):oneF k s (a++b)=oneF k (oneF k s a) b:=List.foldl_append ..
def cnt (k:Nat) (fs:List Fld):Nat:=(fs.filter fun f=>fkey f=k).length
theorem cnt_app (k:Nat) (a b:List Fld):cnt k (a++b)=cnt k a+cnt k b:=by simp[cnt,List.filter_append]
theorem cnt_one (k:Nat) (f:Fld):cnt k [f]=if fkey f=k then 1 else 0:=by unfold cnt;by_cases h:fkey f=k<;>simp[h]
theorem cnt_yes {a:List Fld} {f:Fld} (h:fkey f=k):cnt k (a++[f])=cnt k a+1:=by rw[cnt_app,cnt_one,if_pos h]
theorem cnt_no {a:List Fld} {f:Fld} (h:fkey f≠k):cnt k (a++[f])=cnt k a:=by rw[cnt_app,cnt_one,if_neg h];rfl
theorem one_yes {s:Nat} {a:List Fld} {f:Fld} (h:fkey f=k):oneF k s (a++[f])=fnum f:=by rw[oneF_append];simp[oneF,h]
theorem one_no {s:Nat} {a:List Fld} {f:Fld} (h:fkey f≠k):oneF k s (a++[f])=oneF k s a:=by rw[oneF_append];simp[oneF,h]
abbrev Msg:=List (GFld×List Nat)
def mB (m:Msg):List Nat:=m.flatMap (·.2)
def WireOK (tb:Nat→Nat) (g:GFld):Prop:=match g with
 | .fld (.num k _)=>tb k≠2
 | .fld (.bys k _)=>tb k≠1
 | .fix8 k _=>tb k=0
 | .fix4 k _=>tb k=0
structure MOK (tb:Nat→Nat) (m:Msg):Prop where
 enc:MEnc2 m
 wire:∀g∈m,WireOK tb g.1
 len:(mB m).length≤2000000000
def tb2 (k:Nat):Nat:=if 1≤k∧k≤2 then 1 else 0
def tb3 (k:Nat):Nat:=if 1≤k∧k≤3 then 1 else 0
def tb5 (k:Nat):Nat:=if 1≤k∧k≤5 then 1 else 0
def tb10 (k:Nat):Nat:=if 1≤k∧k≤10 then 1 else 0
def tbLc (k:Nat):Nat:=if 1≤k∧k≤3 then 1 else if k=4 then 2 else 0
def tbSm (k:Nat):Nat:=if 1≤k∧k≤2 then 3 else if k=3 then 2 else 0
def tbPf (k:Nat):Nat:=if 1≤k∧k≤6∨k=11 then 2 else if k=13 then 3 else if 7≤k∧k≤14 then 1 else 0
structure GSub (k:Nat) (fs:List Fld) (ms:List Msg) (φ:Nat→Msg→Prop):Prop where
 eq:(fs.filter fun f=>fkey f=k).map fbytes=ms.map mB
 ok:∀(i:Nat) m,ms[i]? =some m→φ i m
theorem GSub.at_ {ms:List Msg} {φ:Nat→Msg→Prop} (h:GSub k fs ms φ) {pre:List Fld} {f:Fld} (hp:pre++[f]<+:fs) (hk:fkey f=k):∃m,mB m=fbytes f∧φ (cnt k pre) m:=by
 obtain ⟨r,rfl⟩:=hp
 have h1:(((pre++[f]++r).filter fun f=>fkey f=k).map fbytes)[cnt k pre]? =some (fbytes f):=by
  rw[List.filter_append,List.filter_append,List.append_assoc,List.map_append,List.getElem?_append_right (by simp[cnt]),show cnt k pre - ((pre.filter fun f=>decide (fkey f=k)).map fbytes).length=0 by simp[cnt]]
  simp[hk]
 rw[h.eq,List.getElem?_map]at h1
 obtain ⟨m,h2,h3⟩:=Option.map_eq_some_iff.1 h1
 exact ⟨m,h3,h.ok _ m h2⟩
theorem GSub.cnt {ms:List Msg} {φ:Nat→Msg→Prop} (h:GSub k fs ms φ):cnt k fs=ms.length:=by
 have:=congrArg List.length h.eq
 simpa[Go.Proofs.YtifdadlhmlhfiaaGreatDoor.cnt]using this
def Vs:List Nat→List Nat→Prop
 |[],B=>B=[]
 |n::r,B=>∃b B',B=b++B'∧VEnc n b∧n<18446744073709551616∧Vs r B'
theorem Vs.len:∀{ns B:List Nat},Vs ns B→ns.length≤B.length
 |[],_,_=>Nat.zero_le _
 |_::r,_,⟨b,B',rfl,h1,_,h3⟩=>by have:=h1.pos;have:=Vs.len h3;simp;omega
def GV (f:Fld) (ns:List Nat):Prop:=match f with
 | .num _ n=>ns=[n]∧n<18446744073709551616
 | .bys _ B=>Vs ns B
structure GMny (k:Nat) (fs:List Fld) (nss:List (List Nat)):Prop where
 len:nss.length=fs.length
 at_:∀(i:Nat) f ns,fs[i]? =some f→nss[i]? =some ns→if fkey f=k then GV f ns else ns=[]
def gv (nss:List (List Nat)) (pre:List Fld):List Nat:=(nss.take pre.length).flatten
theorem GMny.all {nss:List (List Nat)} (h:GMny k fs nss):gv nss fs=nss.flatten:=by rw[gv, ← h.len,List.take_length]
theorem pre_at {pre:List Fld} {f:Fld} (hp:pre++[f]<+:fs):fs[pre.length]? =some f:=by
 obtain ⟨r,rfl⟩:=hp
 rw[List.append_assoc,List.getElem?_append_right (Nat.le_refl _),Nat.sub_self];rfl
theorem GMny.step {pre:List Fld} {nss:List (List Nat)} {f:Fld} (h:GMny k fs nss) (hp:pre++[f]<+:fs):∃ns,gv nss (pre++[f])=gv nss pre++ns∧if fkey f=k then GV f ns else ns=[]:=by
 have h1:=pre_at hp
 have hl:=(List.getElem?_eq_some_iff.1 h1).1
 have hl2:pre.length<nss.length:=by rw[h.len];exact hl
 refine ⟨nss[pre.length],?_,h.at_ _ f _ h1 (List.getElem?_eq_getElem hl2)⟩
 rw[gv,gv,List.length_append,List.length_singleton, ← List.take_append_getElem hl2,List.flatten_append];simp
def Al2 {α β:Type} (xs:List α) (ys:List β) (R:α→β→Prop):Prop:=ys.length=xs.length∧∀(i:Nat) a b,xs[i]? =some a→ys[i]? =some b→R a b
structure TyM (T:List ByteArray) (t:PType) (m:Msg):Prop where
 ok:MOK tb2 m
 h1:T[oneN 1 (flds m)]? =some t.ty
 h2:T[oneN 2 (flds m)]? =some t.unit
structure MpM (T:List ByteArray) (t:PMapping) (m:Msg):Prop where
 ok:MOK tb10 m
 id:(oneN 1 (flds m):Int)=t.id
 st:(oneN 2 (flds m):Int)=t.start
 li:(oneN 3 (flds m):Int)=t.limit
 off:(oneN 4 (flds m):Int)=t.offset
 file:T[oneN 5 (flds m)]? =some t.file
 build:T[oneN 6 (flds m)]? =some t.build
 fu:decide (oneN 7 (flds m)≠0)=t.fu
 fi:decide (oneN 8 (flds m)≠0)=t.fi
 ln:decide (oneN 9 (flds m)≠0)=t.li
 inl:decide (oneN 10 (flds m)≠0)=t.inl
structure FnM (T:List ByteArray) (f:PFunc) (m:Msg):Prop where
 ok:MOK tb5 m
 id:(oneN 1 (flds m):Int)=f.id
 name:T[oneN 2 (flds m)]? =some f.name
 sys:T[oneN 3 (flds m)]? =some f.system
 file:T[oneN 4 (flds m)]? =some f.file
 st:IntKind.i64.wrap (oneN 5 (flds m):Nat)=f.start
structure LnM (x:PProf) (n:PLine) (m:Msg):Prop where
 ok:MOK tb2 m
 fn:(oneN 1 (flds m):Int)=fnid x n.fn
 line:IntKind.i64.wrap (oneN 2 (flds m):Nat)=n.line
structure LcM (x:PProf) (l:PLoc) (m:Msg):Prop where
 ok:MOK tbLc m
 id:(oneN 1 (flds m):Int)=l.id
 mp:(oneN 2 (flds m):Int)=mid x l.mapping
 ad:(oneN 3 (flds m):Int)=l.addr
 lns:∃g,g.length=l.lines.length∧GSub 4 (flds m) g fun i q=>∀n,l.lines[i]? =some n→LnM x n q
structure LbM (T:List ByteArray) (e:LE) (m:Msg):Prop where
 ok:MOK tb3 m
 key:T[oneN 1 (flds m)]? =some e.1
 val:match e.2.1 with
  |some t=>oneN 2 (flds m)≠0∧T[oneN 2 (flds m)]? =some t
  |none=>oneN 2 (flds m)=0∧IntKind.i64.wrap (oneN 3 (flds m):Nat)=e.2.2
def keyT (es:List LE) (k:ByteArray):List ByteArray:=es.filterMap fun e=>if e.1=k then e.2.1 else none
def keyN (es:List LE) (k:ByteArray):List Int:=es.filterMap fun e=>if e.1=k∧e.2.1=none then some e.2.2 else none
structure LbsS (es:List LE) (s:PSample):Prop where
 t:∀t∈s.texts,keyT es t.key=t.list
 n:∀t∈s.nums,keyN es t.key=t.list
 tk:∀e∈es,∀v,e.2.1=some v→e.1∈s.texts.map (·.key)
 nk:∀e∈es,e.2.1=none→e.1∈s.nums.map (·.key)
structure SmM (x:PProf) (T:List ByteArray) (s:PSample) (m:Msg):Prop where
 ok:MOK tbSm m
 st:∃nss,GMny 1 (flds m) nss∧nss.flatten.map (fun n:Nat=>(n:Int))=s.stack.map (lid x)
 vs:∃nss,GMny 2 (flds m) nss∧nss.flatten.map (fun n:Nat=>IntKind.i64.wrap (n:Nat))=s.values
 lb:∃(g:List Msg) (es:List LE),g.length=es.length∧(GSub 3 (flds m) g fun i q=>∀e,es[i]? =some e→LbM T e q)∧LbsS es s∧es.length≤1000000
structure UIn (x:PProf) (T:List ByteArray) (m:Msg):Prop where
 ok:MOK tbPf m
 tab:((flds m).filter fun f=>fkey f=6).map fbytes=T.map sB
 z0:T[0]? =some eB
 tl:T.length≤1000000000
 drop:T[oneN 7 (flds m)]? =some x.drop
 keep:T[oneN 8 (flds m)]? =some x.keep
 time:IntKind.i64.wrap (oneN 9 (flds m):Nat)=x.time
 dur:IntKind.i64.wrap (oneN 10 (flds m):Nat)=x.dur
 period:IntKind.i64.wrap (oneN 12 (flds m):Nat)=x.period
 dfl:T[oneN 14 (flds m)]? =some x.deflt
 ty:∃g,g.length=x.types.length∧GSub 1 (flds m) g fun i q=>∀t,x.types[i]? =some t→TyM T t q
 sm:∃g,g.length=x.samples.length∧GSub 2 (flds m) g fun i q=>∀t,x.samples[i]? =some t→SmM x T t q
 mp:∃g,g.length=x.mappings.length∧GSub 3 (flds m) g fun i q=>∀t,x.mappings[i]? =some t→MpM T t q
 lc:∃g,g.length=x.locs.length∧GSub 4 (flds m) g fun i q=>∀t,x.locs[i]? =some t→LcM x t q
 fn:∃g,g.length=x.funcs.length∧GSub 5 (flds m) g fun i q=>∀t,x.funcs[i]? =some t→FnM T t q
 pe:∃g,g.length≤1∧(g=[]→x.per=⟨eB,eB⟩)∧GSub 11 (flds m) g fun _ q=>TyM T x.per q
 cm:∃nss,GMny 13 (flds m) nss∧Al2 x.comments nss.flatten fun s n=>T[n]? =some s
end Go.Proofs.YtifdadlhmlhfiaaGreatDoor
namespace Go.Fw
open Go
variable {a:Act} {kd:IntKind} {W:List Nat} {cs vs xs:List Value} {B T b c i l m sT sz t t':Nat} {φ:Nat→Prop} {x:Operand} {p:Option Addr} {v:Value} {w w':World}
section
variable {P:Program} {ops:Array Oper} {Q:Exit→Act→World→Prop} {S:World→Prop} {nt al:Nat}
def rmS (al:Nat) (s:Sched):Sched:=s.filter fun p=> !Nat.beq p.1 al
def goF (ops:Array Oper) (nt al:Nat):Array Bool→Sched→Bool
 |_,[]=>false
 |listed,(i,true)::r=>Nat.blt i nt&&(Region.ready .any ops listed).contains i&&Region.free .any ops listed i
  &&(List.range ops.size).all (fun t=>Nat.blt t nt|| !listed.getD t true)&&goF ops nt al (listed.setIfInBounds i true) r
 |listed,(i,false)::r=>bif Nat.beq i al then (match Region.ready .any ops listed with|[j]=>Nat.beq j al|_=>false)&&goB ops nt (listed.setIfInBounds al true) r
  else (Region.ready .any ops listed).contains i&&(Region.ready .any ops listed).all (fun j=>Nat.beq j i||Nat.beq j al)&&Nat.beq ((rmS al r).length+1) r.length
    &&goF ops nt al (listed.setIfInBounds i true) r&&(!(Region.ready .any ops listed).contains al||goB ops nt (listed.setIfInBounds al true) ((i,false)::rmS al r))
def schedF (ops:Array Oper) (nt al:Nat) (s:Sched):Bool:=tailB ops nt&&Region.noSelect ops&&Nat.beq s.length ops.size&&goF ops nt al (Array.replicate ops.size false) s
def wpF (P:Program) (ops:Array Oper) (Q:Exit→Act→World→Prop) (S:World→Prop) (nt al:Nat):Sched→Act→World→Prop
 |[],_,_=>False
 |(i,true)::r,a,w=>∃o v,ops[i]? =some o∧YieldsIf P ops S o v a∧S w∧wpF P ops Q S nt al r (a.put o.dst v) w
 |(i,false)::r,a,w=>bif Nat.beq i al then wpOp P ops Q al (fun a' w'=>(al<nt→S w')∧wpS P ops Q S nt r a' w') a w
    else wpOp P ops Q i (fun a' w'=>(i<nt→S w')∧wpF P ops Q S nt al r a' w') a w∧wpOp P ops Q al (fun a' w'=>(al<nt→S w')∧wpS P ops Q S nt ((i,false)::rmS al r) a' w') a w
theorem wpG_of_F (ht:tailB ops nt=true) (hsel:Region.noSelect ops=true) (hQ:∀c a a' w,Q (.panic c) a w→Q (.panic c) a' w):
  ∀(s:Sched) (listed:Array Bool) (a:Act) (w:World),Clo ops listed→goF ops nt al listed s=true→wpF P ops Q S nt al s a w→wpG P ops Q S nt s.length listed a w:=by
 intro s
 induction s with
 |nil=>intro listed a w _ hg;cases hg
 |cons p r ih=>
  obtain ⟨i,t⟩:=p
  intro listed a w inv hg h
  cases t with
  |true=>
   simp only[goF,Bool.and_eq_true,Nat.blt_eq]at hg
   obtain ⟨⟨⟨⟨h1,h2⟩,h3⟩,h4⟩,h5⟩:=hg
   obtain ⟨o,v,ho,hy,hS,hrest⟩:=h
   have hmem:i∈Region.ready .any ops listed:=by simpa using h2
   refine wpG_first ho (Region.noSelect_spec hsel) (fun c a w hq=>hQ c _ _ w hq) ht h1 r.length listed a w inv ?_ (Region.free_spec ho h3) hmem hy hS ?_
   ·intro t h6 h7
    have:=List.all_eq_true.1 h4 t (List.mem_range.2 h7)
    simp only[Bool.or_eq_true,Nat.blt_eq,Bool.not_eq_true']at this
    rcases this with h8|h8
    ·omega
    ·exact h8
   ·exact ih _ _ _ (inv.set hmem) h5 hrest
  |false=>
   by_cases hial:Nat.beq i al=true
   ·simp only[goF,wpF,hial,cond_true,Bool.and_eq_true]at hg h
    obtain ⟨h1,h2⟩:=hg
    have hrd:Region.ready .any ops listed=[al]:=by
       split at h1
       ·rename_i j hj
        rw[hj,Nat.eq_of_beq_eq_true h1]
       ·exact absurd h1 (by simp)
    refine ⟨fun h0=>(by rw[hrd]at h0;cases h0),fun j hj=>?_⟩
    rw[hrd]at hj
    simp at hj
    subst hj
    exact wpOp_mono (fun a' w' h3=>⟨h3.1,wpG_of_S ht hsel hQ _ _ _ _ (inv.set (by rw[hrd];simp)) h2 h3.2⟩) h
   ·have hia:Nat.beq i al=false:=by
       cases h:Nat.beq i al with
       |true=>exact absurd h hial
       |false=>rfl
    simp only[goF,wpF,hia,cond_false,Bool.and_eq_true,Bool.or_eq_true,Bool.not_eq_true']at hg h
    obtain ⟨⟨⟨⟨h1,h2⟩,h3⟩,h4⟩,h5⟩:=hg
    have hmem:i∈Region.ready .any ops listed:=by simpa using h1
    refine ⟨fun h0=>(by rw[h0]at hmem;cases hmem),fun j hj=>?_⟩
    have h6:=List.all_eq_true.1 h2 j hj
    simp only[Bool.or_eq_true]at h6
    rcases h6 with h6|h6
    ·obtain rfl:=Nat.eq_of_beq_eq_true h6
     exact wpOp_mono (fun a' w' h3=>⟨h3.1,ih _ _ _ (inv.set hj) h4 h3.2⟩) h.1
    ·obtain rfl:=Nat.eq_of_beq_eq_true h6
     have h7:goB ops nt (listed.setIfInBounds j true) ((i,false)::rmS j r)=true:=by
        rcases h5 with h5|h5
        ·have:(Region.ready .any ops listed).contains j=true:=by simpa using hj
         rw[this]at h5;cases h5
        ·exact h5
     refine wpOp_mono (fun a' w' h3=>⟨h3.1,?_⟩) h.2
     have h8:=wpG_of_S (P:=P) (Q:=Q) (S:=S) ht hsel hQ _ _ a' w' (inv.set hj) h7 h3.2
     rw[List.length_cons,Nat.eq_of_beq_eq_true (by assumption:Nat.beq ((rmS j r).length+1) r.length=true)]at h8
     exact h8
def DSF (P:Program) (ops:Array Oper) (Q:Exit→Act→World→Prop) (S:World→Prop) (nt al:Nat) (n:Nat) (e:Env) (s:Sched) (w:World):Prop:=∀a,Sat n e a→wpF P ops Q S nt al s a w
variable {n:Nat} {e:Env} {w:World}
theorem c_drawF {id:Nat} {l:List Oper} (nt al:Nat) (s:Sched) (hm:P.follows .mixedOrders=true) (hs:schedF l.toArray nt al s=true)
  (h:∀w1,Dr w w1→∃S:World→Prop,DSF P l.toArray (NoP Q) S nt al n e s w1):C P (.region id l.toArray true) Q n e w:=fun a ha=>by
 simp only[schedF,Bool.and_eq_true]at hs
 obtain ⟨⟨⟨h1,h2⟩,h3⟩,h4⟩:=hs
 obtain ⟨S,hS⟩:=h { w with drawn:=w.drawn+1 } ⟨rfl,rfl,rfl,rfl⟩
 have h5:(Code.region id l.toArray true).wp P (NoP Q) a w:=by
  have h6:=wpG_of_F (P:=P) (Q:=NoP Q) h1 h2 (fun _ _ _ _ hq=>hq) s _ a _ ⟨by simp,by
   intro j oj _ hl
   rw[getD_replicate_false]at hl
   cases hl⟩ h4 (hS a ha)
  rw[Nat.eq_of_beq_eq_true h3]at h6
  exact wp_region_any hm (wpG_any _ _ _ _ h6)
 exact Code.wp_mono (fun x a w hq=>by cases x<;>first|exact hq|exact hq.elim) h5
theorem op_step {o:Oper} {K:Act→World→Prop} (hi:ops[i]? =some o) (h1:L P ops (Exit.then K Q) n e [o] w) (ha:Sat n e a):wpOp P ops Q i K a w:=by
 have h1:=h1 a ha
 unfold wpOp
 simp only[hi]
 simp only[wpList]at h1
 split
 ·rename_i hw
  rw[if_pos hw]at h1
  rcases h1 with h1|⟨h1,h2⟩
  ·left
   unfold Oper.wp at h1⊢
   generalize (execOp a.eval o).run P w=x at h1⊢
   cases x with
   |ok nx w'=>
    cases nx<;>simp only[Oper.upon]at h1⊢ <;>first
      |exact h1
      |exact Calls.mono h1 (fun x w'' hx=>by cases x<;>first|exact hx|(obtain ⟨a,w,hq⟩:=hx;exact ⟨a,w,hq⟩))
      |exact Rows.mono h1 (fun _ _ hx=>hx)
   |halt y w'=>cases y<;>simp only[Oper.upon]at h1⊢ <;>exact h1
  ·right
   obtain ⟨a',w',hq⟩:=h2
   exact ⟨h1,a',w',hq⟩
 ·rename_i hw
  rw[if_neg hw]at h1
  exact h1
end
section
variable {P:Program} {Q:Exit→Act→World→Prop} {n:Nat} {f:Fm} {e:Env} {H:Heap} {ops:Array Oper} {nt al:Nat} {HS:Heap} {r:Sched} {d ty:Nat} {pos:String} {af:Array Edge}
def DF (P:Program) (ops:Array Oper) (Q:Exit→Act→World→Prop) (f:Fm) (HS:Heap) (nt al n:Nat) (e:Env) (H:Heap) (s:Sched):Prop:=
 ∀w,Hp f w H→f.ok w→DSF P ops Q (Sx f HS) nt al n e s w
theorem cj_drawF {id:Nat} {l:List Oper} {HS:Heap} (nt al:Nat) (s:Sched) (idx:List Nat) (_:pickH H idx=some HS) (hm:P.follows .mixedOrders=true) (hs:schedF l.toArray nt al s=true)
  (h:DF P l.toArray (NoP Q) f HS nt al n e H s):CJ P (.region id l.toArray true) Q n f e H:=fun w hH hf=>
 c_drawF nt al s hm hs fun w1 hD=>⟨_,h w1 (hH.mono fun _ _ _ o hb=>by rw[hD.heap];exact hb) (Fr.dr hf hD)⟩
theorem df_val {op:Op} (hi:ops[i]? =some ⟨some d,op,ty,pos,af,none⟩) (hd:Nat.blt d n=true) (hS:∀x∈HS,x∈H)
  (hr:∀a w,Sat n e a→(execOp a.eval ⟨some d,op,ty,pos,af,none⟩).run P w=.ok (.value v) w) (k:DF P ops Q f HS nt al n ((d,v)::e) H r):DF P ops Q f HS nt al n e H ((i,true)::r):=fun w hH hf a ha=>
 ⟨_,v,hi,.inl ⟨by simp[Region.wanted],fun w _=>hr a w ha⟩,⟨fun x hx ho=>hH.blk (hS x hx) ho,hf⟩,k w hH hf _ (ha.put hd)⟩
theorem df_ld {op:Op} (hi:ops[i]? =some ⟨some d,op,ty,pos,af,none⟩) (hd:Nat.blt d n=true) (hS:∀x∈HS,x∈H)
  (hr:∀a w,Sat n e a→Sx f HS w→(execOp a.eval ⟨some d,op,ty,pos,af,none⟩).run P w=.ok (.value v) w) (k:DF P ops Q f HS nt al n ((d,v)::e) H r):DF P ops Q f HS nt al n e H ((i,true)::r):=fun w hH hf a ha=>
 ⟨_,v,hi,.inl ⟨by simp[Region.wanted],fun w hw=>hr a w ha hw⟩,⟨fun x hx ho=>hH.blk (hS x hx) ho,hf⟩,k w hH hf _ (ha.put hd)⟩
theorem df_eqv {u:Value} (hp:v=u) (k:DF P ops Q f HS nt al n ((d,u)::e) H r):DF P ops Q f HS nt al n ((d,v)::e) H r:=by rw[hp];exact k
theorem df_fork {o oa:Oper} (hi:ops[i]? =some o) (hal:ops[al]? =some oa) (hne:Nat.beq i al=false)
  (h2:∀K:Act→World→Prop,(∀e H,(∀x∈HS,x∈H)→DJ P ops Q f HS nt n e H ((i,false)::rmS al r)→NJ K n f e H)→J P ops (Exit.then K Q) n f e H [oa])
  (h1:∀K:Act→World→Prop,(∀e H,(∀x∈HS,x∈H)→DF P ops Q f HS nt al n e H r→NJ K n f e H)→J P ops (Exit.then K Q) n f e H [o]):DF P ops Q f HS nt al n e H ((i,false)::r):=fun w hH hf a ha=>by
 unfold wpF
 rw[hne]
 exact ⟨op_step hi (h1 _ (fun e H hs hd w hH hf a ha=>⟨fun _=>⟨fun x hx ho=>hH.blk (hs x hx) ho,hf⟩,hd w hH hf a ha⟩) w hH hf) ha,op_step hal (h2 _ (fun e H hs hd w hH hf a ha=>⟨fun _=>⟨fun x hx ho=>hH.blk (hs x hx) ho,hf⟩,hd w hH hf a ha⟩) w hH hf) ha⟩
theorem df_al {oa:Oper} (hal:ops[al]? =some oa)
  (h:∀K:Act→World→Prop,(∀e H,(∀x∈HS,x∈H)→DJ P ops Q f HS nt n e H r→NJ K n f e H)→J P ops (Exit.then K Q) n f e H [oa]):DF P ops Q f HS nt al n e H ((al,false)::r):=fun w hH hf a ha=>by
 unfold wpF
 rw[Nat.beq_refl,cond_true]
 exact op_step hal (h _ (fun e H hs hd w hH hf a ha=>⟨fun _=>⟨fun x hx ho=>hH.blk (hs x hx) ho,hf⟩,hd w hH hf a ha⟩) w hH hf) ha
theorem cj_seqJ {ι:Type} {x y:Code} (en:ι→Env) (hp:ι→Heap) (h1:∀K:Act→World→Prop,(∀i e H,Sub e (en i)→(∀w,Hp f w H→Hp f w (hp i))→NJ K n f e H)→CJ P x (Exit.then K Q) n f e H) (h2:∀i,CJ P y Q n f (en i) (hp i)):CJ P (.seq x y) Q n f e H:=
 cj_seqF fun K hK=>h1 K fun i e H hs hH w hw hf=>N.sub' (hK f (en i) (hp i) (h2 i) w (hH w hw) hf) hs
end
section
variable {P:Program} {n:Nat} {e:Env} {d ty:Nat} {pos:String} {af:Array Edge}
theorem r_assert {xT az te:Nat} (hu:∀w,(underlying az).run P w=.ok (.pointer te) w) (hx:ev e x=some (.iface az v)) (ha:Sat n e a):
  (execOp a.eval ⟨some d,.typeAssert x xT az false,ty,pos,af,none⟩).run P w=.ok (.value v) w:=by
 simp only[execOp,ha.ev hx]
 simp[Instr.typeAssert,hu]
theorem run_eqIn_fn (dd t:Nat) {ps rs:Array TypeId} {va:Bool} {g:Fn} {us vs:Array Value} (hu:P.underlying t=some (.func ps rs va)) (w:World):(Op.equalIn (dd+1) t (.func g us vs) .nilFunc).run P w=.ok false w:=by
 simp[Op.equalIn,run_underlying hu]
theorem run_eqIn_ff' (dd t:Nat) {ps rs:Array TypeId} {va:Bool} (hu:P.underlying t=some (.func ps rs va)) (w:World):(Op.equalIn (dd+1) t .nilFunc .nilFunc).run P w=.ok true w:=by
 simp[Op.equalIn,run_underlying hu]
theorem r_feql {ps rs:Array TypeId} {va:Bool} {g:Fn} {us vs:Array Value} (hu:P.underlying t=some (.func ps rs va)) (hx:ev e x=some (.func g us vs)) (ha:Sat n e a):
  (execOp a.eval ⟨some d,.binOp .eql t x (.const .nilFunc) t',ty,pos,af,none⟩).run P w=.ok (.value (.bool false)) w:=by
 have h:(binOp .eql t (.func g us vs) .nilFunc).run P w=.ok (.bool false) w:=by
  simp only[binOp]
  simp[Op.equal,Op.maxDepth,run_eqIn_fn 9999 t hu]
 simp only[execOp,ha.ev hx,eval_const]
 simp[eqGuard,h]
theorem r_feqlN {ps rs:Array TypeId} {va:Bool} (hu:P.underlying t=some (.func ps rs va)) (hx:ev e x=some .nilFunc) (ha:Sat n e a):
  (execOp a.eval ⟨some d,.binOp .eql t x (.const .nilFunc) t',ty,pos,af,none⟩).run P w=.ok (.value (.bool true)) w:=by
 have h:(binOp .eql t .nilFunc .nilFunc).run P w=.ok (.bool true) w:=by
  simp only[binOp]
  simp[Op.equal,Op.maxDepth,run_eqIn_ff' 9999 t hu]
 simp only[execOp,ha.ev hx,eval_const]
 simp[eqGuard,h]
theorem run_eqIn_ii (dd t:Nat) {ms:Array (String×TypeId)} (hu:P.underlying t=some (.interface ms)) (w:World):(Op.equalIn (dd+1) t .nilIface .nilIface).run P w=.ok true w:=by
 simp[Op.equalIn,run_underlying hu]
theorem r_inil {ms:Array (String×TypeId)} (hu:P.underlying t=some (.interface ms)) (hx:ev e x=some .nilIface) (ha:Sat n e a):
  (execOp a.eval ⟨some d,.binOp .neq t x (.const .nilIface) t',ty,pos,af,none⟩).run P w=.ok (.value (.bool false)) w:=by
 have h:(binOp .neq t .nilIface .nilIface).run P w=.ok (.bool false) w:=by
  simp only[binOp]
  simp[Op.equal,Op.maxDepth,run_eqIn_ii 9999 t hu]
 simp only[execOp,ha.ev hx,eval_const]
 simp[eqGuard,h]
end
section
variable {P:Program} {Q:Exit→Act→World→Prop} {n:Nat} {f:Fm} {e:Env} {H:Heap} {ops:Array Oper} {rest:List Oper} {d ty:Nat} {pos:String} {af:Array Edge}
theorem j_bsliceN {len:Nat} {parts:Array (Nat×Operand)} {vals:List (Nat×Value)} {z:Value} {cells:Array Value} (hu:∀w,(underlying t).run P w=.ok (.slice T) w) (hsz:∀w,(sizeOf T).run P w=.ok 1 w) (hz:∀w,(zeroValue T).run P w=.ok z w)
  (hp:evP e parts.toList=some vals) (hb:Nat.ble len 1000=true) (h0:Nat.blt 0 len=true) (hfill:Instr.fill (fun i=>some (i*1,1)) ((Array.range (len*1)).map (z.cells[· %z.cells.size]!)) vals=some cells) (hd:Nat.blt d n=true)
  (k:∀b,J P ops Q n f ((d,.slice (some ⟨b,0,none⟩) len len)::e) (⟨b,T,cells.toList,true,true,none⟩::H) rest):J P ops Q n f e H (⟨some d,.buildSlice t len parts,ty,pos,af,none⟩::rest):=fun w hH hf=>by
 have hn:New w { w with heap:=w.heap.push (.cells cells T) } w.heap.size (.cells cells T (0,0)):=⟨rfl,rfl,rfl,rfl,rfl⟩
 have hb':len≤1000:=Nat.le_of_ble_eq_true hb
 have h0':0<len:=by simpa using h0
 have hr:∀(vals':Array (Nat×Value)),vals'.toList=vals→(Instr.buildSlice t len vals').run P w=.ok (.slice (some ⟨w.heap.size,0,none⟩) len len) { w with heap:=w.heap.push (.cells cells T) }:=fun vals' hv=>by
  have hgt:¬(2^24<len*1):=by omega
  have hne:¬(len*1=0):=by omega
  unfold Instr.buildSlice
  subst hv
  simp only[Nat.mul_one]at hfill hgt hne⊢
  simp[hu,hsz,hz,hgt,hne,hfill,run_newRow]
 refine L.valw hd (fun a ha=>?_) (k w.heap.size _ (by simpa using hH.new hf hn) (hf.new hn))
 have hm:(parts.map fun p=>(p.1,a.eval p.2)).toList=vals:=by rw[Array.toList_map];exact evP_ok ha hp
 simp only[execOp]
 have:=hr _ hm
 simp[this]
end
section
variable {P:Program}
theorem run_appendZ {xT rt by_ n:Nat} {y:Ent} (hu:∀w,(underlying sT).run P w=.ok (.slice T) w) (hux:∀w,(underlying xT).run P w=.ok (.int kd) w)
  (hT:ElT P T 1 by_) (hby:by_≤1000) (hy:y.on=true→Blk w y.b T y.cs) (hS:(y.on=true∧p=some ⟨y.b,0,none⟩∧y.cs.length=c)∨(y.on=false∧p=none∧c=0)) (hn:0<n) (hbig:c+n≤100000000000):
  ∃b cs' c' w',(Builtin.append_ #[sT,xT] rt #[.slice p c c,.int .i64 (n:Nat)]).run P w=.ok (.slice (some ⟨b,0,none⟩) (c+n) c') w'∧New w w' b (.cells cs' T (0,0))∧cs'.size=c'∧c+n≤c'∧c'<9223372036854775808∧
   ∀(j:Nat) u,y.on=true→y.cs[j]? =some u→cs'[j]? =some u:=by
 obtain ⟨ti,hti,hby'⟩:=hT.hinf
 obtain ⟨z,hz,hzs⟩:=hT.hz
 have hroom:¬(c+n≤c):=by omega
 have hcap:¬(Builtin.nextslicecap (c+n) c*by_>2^48):=by
  have h1:=nextcap_le (c+n) c (by omega)
  have h2:Builtin.nextslicecap (c+n) c*by_≤(2*(c+n)+1000)*1000:=Nat.mul_le_mul h1 hby
  have:(2*(c+n)+1000)*1000≤2^48:=by omega
  omega
 let q:=Question.appendCap (c+n) c T
 let c':=q.cut (w.tape w.drawn q)
 have hc':c+n≤c':=by simp[c',q,Question.cut]
 have hc9:c'<9223372036854775808:=by
  have:=Nat.mod_lt (w.tape w.drawn q) (show 0<2^63 - (c+n) by omega)
  show (c+n)+w.tape w.drawn q%(2^63 - (c+n))<9223372036854775808
  omega
 let w1:World:={ w with drawn:=w.drawn+1 }
 have hold:∃old:List Value,(Builtin.firstCells 1 c (.slice p c c)).run P w1=.ok old.toArray w1∧old.length=c∧(y.on=true→old=y.cs):=by
  rcases hS with ⟨hon,rfl,hl⟩|⟨hoff,rfl,rfl⟩
  ·refine ⟨y.cs,?_,hl,fun _=>rfl⟩
   simp only[Builtin.firstCells]
   rw[show c*1=y.cs.length by omega]
   refine run_loadCells w1 y.cs 0 fun j v hj=>?_
   have hb:Blk w1 y.b T y.cs:=hy hon
   rw[Nat.zero_add,hb.cell];exact hj
  ·exact ⟨[],by simp[Builtin.firstCells],rfl,fun h=>by rw[hoff]at h;cases h⟩
 obtain ⟨old,hold,holdl,holdc⟩:=hold
 let cells:Array Value:=old.toArray++Builtin.zeroCells z.cells n++Builtin.zeroCells z.cells (c' - (c+n))
 let w2:World:={ w1 with heap:=w1.heap.push (.cells cells T) }
 refine ⟨w.heap.size,cells,c',w2,?_,⟨rfl,rfl,rfl,rfl,rfl⟩,?_,hc',hc9,fun j u ho hj=>?_⟩
 ·have hcap':¬(2^48<Builtin.nextslicecap (c+n) c*ti.bytes):=by rw[hby'];exact hcap
  have hold':(Builtin.firstCells 1 c (.slice p c c)).run P w.drew=.ok old.toArray w.drew:=hold
  have hrow:∀(cells:Array Value) (w0:World),(newRow T cells).run P w0=.ok ⟨w0.heap.size,0,none⟩ (w0.alloc (.cells cells T)):=fun cells w0=>rfl
  have hfo:(Question.appendCap (c+n) c T).forced=false:=rfl
  have hi1:IntKind.i64.wrap (n:Int)=(n:Int):=by simp[IntKind.wrap,IntKind.bits,IntKind.signed];omega
  have hi2:¬((n:Int)<0):=by omega
  have hi3:¬((281474976710656:Int)<(n:Int)*(ti.bytes:Int)):=by
   rw[hby']
   have h1:n*by_≤100000000000*1000:=Nat.mul_le_mul (by omega) hby
   have h2:((n*by_:Nat):Int)=(n:Int)*(by_:Int):=by simp
   have h3:((n*by_:Nat):Int)≤100000000000000:=by omega
   omega
  have hi4:¬((9223372036854775807:Int)<(c:Int)+(n:Int)):=by omega
  have hn0:¬n=0:=by omega
  simp only[Builtin.append_]
  simp[hu,hux,hT.hsz,hroom,hti,hcap',hz,hold',hfo,hi1,hi2,hi3,hi4,hn0,w1,w2,c',q,hrow,asInt,asIntOf,cells]
 ·simp[cells,zeroCells_size,hzs,holdl]
  omega
 ·have h1:=holdc ho
  have hj':=(List.getElem?_eq_some_iff.1 hj).1
  rw[h1]at holdl
  simp only[cells,h1]
  rw[Array.append_assoc,Array.getElem?_append_left (by simpa using hj')]
  simpa using hj
end
section
variable {P:Program} {Q:Exit→Act→World→Prop} {n:Nat} {f:Fm} {e:Env} {H:Heap} {ops:Array Oper} {rest:List Oper} {d ty:Nat} {pos:String} {af:Array Edge}
theorem r_cap {elem:Nat} (hu:∀w,(underlying t).run P w=.ok (.slice elem) w) (hx:ev e x=some (.slice p l c)) (ha:Sat n e a):
  (execOp a.eval ⟨some d,.call ⟨.builtin .cap, #[x], #[t]⟩,ty,pos,af,none⟩).run P w=.ok (.value (.int .i64 (c:Nat))) w:=by
 simp only[execOp,resolve]
 simp[invoke,builtin,Builtin.cap_,ha.ev hx,hu,goInt]
theorem setL_whole (h:vs.length=cs.length):setL cs 0 vs=vs:=by
 have:=setL_append vs [] cs (by omega)
 simp only[List.nil_append,List.length_nil]at this
 rw[this,h,List.drop_length,List.append_nil]
theorem j_storeW {z:Operand} {y:Ent} (i:Nat) (hy:H[i]? =some y) (ho:y.on=true) (hob:y.ob=none) (hwr:y.wr=true) (hsz:∀w,(sizeOf t).run P w=.ok m w) (hx:ev e x=some (.pointer (some ⟨y.b,0,none⟩))) (hz:ev e z=some (.agg vs.toArray))
  (hm:Nat.beq vs.length m=true) (hs:vs.all scal=true) (hl:Nat.beq vs.length y.cs.length=true) (k:J P ops Q n f e (putH H i ⟨y.b,y.T,vs,true,true,none⟩) rest):J P ops Q n f e H (⟨none,.store t x z,ty,pos,af,none⟩::rest):=by
 have hc:(Value.agg vs.toArray).cells.toList=vs:=by simp[Value.cells]
 have hc2:(Value.agg vs.toArray).cells.size=vs.length:=by rw[← Array.length_toList,hc]
 refine j_store i hy ho hob hwr hsz hx hz (by rw[hc2];exact hm) (by rw[hc];exact hs) (by rw[hc2];exact Nat.ble_eq_true_of_le (by have:=Nat.eq_of_beq_eq_true hl;omega)) ?_
 rw[hc,setL_whole (Nat.eq_of_beq_eq_true hl),setH_put hy,hwr,ho,hob]
 exact k
theorem j_appZ {xT by_:Nat} {s:Operand} {y:Ent} (hu:∀w,(underlying sT).run P w=.ok (.slice T) w) (hux:∀w,(underlying xT).run P w=.ok (.int kd) w) (hT:ElT P T 1 by_) (hby:Nat.ble by_ 1000=true)
  (hs:ev e s=some (.slice p c c)) (hx:ev e x=some (.int .i64 (m:Nat))) (hy:∀w,Hp f w H→f.ok w→y.on=true→Blk w y.b T y.cs) (hS:(y.on=true∧p=some ⟨y.b,0,none⟩∧y.cs.length=c)∨(y.on=false∧p=none∧c=0)) (hm:0<m) (hbig:c+m≤100000000000) (hd:Nat.blt d n=true)
  (k:∀b cs' c',cs'.length=c'→c+m≤c'→c'<9223372036854775808→(∀(j:Nat) u,y.on=true→y.cs[j]? =some u→cs'[j]? =some u)→J P ops Q n f ((d,.slice (some ⟨b,0,none⟩) (c+m) c')::e) (⟨b,T,cs',true,true,none⟩::H) rest):
  J P ops Q n f e H (⟨some d,.call ⟨.builtin .append, #[s,x], #[sT,xT]⟩,ty,pos,af,none⟩::rest):=fun w hH hf=>by
 obtain ⟨b,cs',c',w',hr,hn,h1,h2,h3,h4⟩:=run_appendZ (rt:=ty) hu hux hT (by simpa using hby) (hy w hH hf) hS hm hbig
 refine L.valw hd (fun a ha=>?_) (k b cs'.toList c' (by simpa using h1) h2 h3 (fun j u ho hj=>by rw[Array.getElem?_toList];exact h4 j u ho hj) w' (hH.new hf hn) (hf.new hn))
 simp only[execOp,resolve]
 simp[invoke,builtin,ha.ev hs,ha.ev hx,hr]
theorem j_appOR {by_:Nat} {s:Operand} {y:Ent} {ys:List Value} {bz Tz:Nat} (i:Nat) (hy:H[i]? =some y) (hO:Own T sz y p l c xs)
  (hu:∀w,(underlying sT).run P w=.ok (.slice T) w) (hT:ElT P T sz by_) (hby:Nat.ble by_ 1000=true)
  (hs:ev e s=some (.slice p l c)) (hxv:ev e x=some (.slice (some ⟨bz,0,none⟩) 1 1)) (hys:Nat.beq ys.length sz=true) (hsc:ys.all scal=true) (h0:0<sz) (hbig:l+1≤100000000000) (hd:Nat.blt d n=true)
  (k:∀y' p' c',Own T sz y' p' (l+1) c' (xs++ys)→(c'=c∨c'<9223372036854775808)→(y.on=true∧y'.b=y.b∨f.ws.heap.size≤y'.b)→J P ops Q n f ((d,.slice p' (l+1) c')::e) (putH H i y') rest):
  J P ops Q n f e (⟨bz,Tz,ys,true,true,none⟩::H) (⟨some d,.call ⟨.builtin .append, #[s,x], #[sT,sT]⟩,ty,pos,af,none⟩::rest):=fun w hH0 hf=>by
 have hH:=hH0.2.2.2
 have hbz:Blk w bz Tz ys:=hH0.1.row rfl
 have hyl:ys.length=sz:=Nat.eq_of_beq_eq_true hys
 obtain ⟨y',p',c',w',hr,h1,h2,h3,h4,h9⟩:=run_appendC (P:=P) (rt:=ty) (m:=1) (x:=.slice (some ⟨bz,0,none⟩) 1 1) (ys:=ys) hu hu (.inl ⟨_,rfl⟩) hT (by simpa using hby) hO.hT (fun ho=>hH.get hy ho) hO.hw hO.sl (lenOf_slice _ _ _)
  (fun w1 hk=>fc_blk (show Blk w1 bz Tz ys from hk _ _ hbz) (by rw[List.drop_zero];exact List.take_of_length_le (by omega)) (by omega)) (by omega) hsc (by omega)
 obtain ⟨h5,h6⟩:=hH.app hf hy hO.ho hO.hw h4
 have h7:y.on=true∧y'.b=y.b∨f.ws.heap.size≤y'.b:=by
  cases h4 with
  |same a b c=>rw[c]at hyl;simp at hyl;omega
  |inplace hon hb hu hs'=>exact .inl ⟨hon,by rw[hb]⟩
  |fresh hy' hn=>right;have:=hn.num;have:=hf.size;omega
 refine L.valw hd (fun a ha=>?_) (k y' p' c' ⟨h1,h2,by cases h4 with|same h _ _=>rw[h];exact hO.ho|inplace _ h _ _=>rw[h]|fresh h _=>rw[h],h3⟩ h9 h7 w' h5 h6)
 simp only[execOp,resolve]
 simp[invoke,builtin,ha.ev hs,ha.ev hxv,hr]
theorem j_appOC {by_:Nat} {s:Operand} {y:Ent} {bz Tz:Nat} (i:Nat) (hy:H[i]? =some y) (hO:Own T 1 y p l c xs)
  (hu:∀w,(underlying sT).run P w=.ok (.slice T) w) (hT:ElT P T 1 by_) (hby:Nat.ble by_ 1000=true)
  (hs:ev e s=some (.slice p l c)) (hxv:ev e x=some (.slice (some ⟨bz,0,none⟩) 1 1)) (hsc:scal v=true) (hbig:l+1≤100000000000) (hd:Nat.blt d n=true)
  (k:∀y' p' c',Own T 1 y' p' (l+1) c' (xs++[v])→(c'=c∨c'<9223372036854775808)→(y.on=true∧y'.b=y.b∨f.ws.heap.size≤y'.b)→J P ops Q n f ((d,.slice p' (l+1) c')::e) (putH H i y') rest):
  J P ops Q n f e (⟨bz,Tz,[v],true,true,none⟩::H) (⟨some d,.call ⟨.builtin .append, #[s,x], #[sT,sT]⟩,ty,pos,af,none⟩::rest):=
 j_appOR i hy hO hu hT hby hs hxv rfl (by simp[hsc]) (by omega) hbig hd k
end
structure KeepY (B:Nat) (W l:List Nat) (w w':World):Prop where
 os:w'.os=w.os
 tape:w'.tape=w.tape
 output:w'.output=w.output
 size:w.heap.size≤w'.heap.size
 keep:∀(b:Nat) (o:Obj),w.heap[b]? =some o→b∉l→(b<B∨tagOf o∉W)→w'.heap[b]? =some o
theorem KeepY.refl {l:List Nat}:KeepY B W l w w:=⟨rfl,rfl,rfl,Nat.le_refl _,fun _ _ h _ _=>h⟩
theorem KeepX.y {l:List Nat} (h:KeepX l w w') {m:List Nat} (hm:∀b∈l,b∈m):KeepY B W m w w':=⟨h.os,h.tape,h.output,h.size,fun b o hb hn _=>h.keep b o hb fun hl=>hn (hm b hl)⟩
theorem Fr.y (h:Fr 0 [] w w') {l:List Nat}:KeepY B W l w w':=⟨h.os,h.tape,h.output,h.size,fun b o hb _ _=>h.keep b o hb (.inr (by simp))⟩
theorem KeepY.trans {B':Nat} {W' l l':List Nat} {a b c:World} (h:KeepY B W l a b) (k:KeepY B' W' l' b c) (hl:∀x∈l',x∈l∨a.heap.size≤x) (hB:a.heap.size≤B'∨(B≤B'∧∀x∈W',x∈W)):KeepY B W l a c:=
 ⟨k.os.trans h.os,k.tape.trans h.tape,k.output.trans h.output,Nat.le_trans h.size k.size,fun x o hx hn hc=>by
  have hlt:=(Array.getElem?_eq_some_iff.1 hx).1
  refine k.keep x o (h.keep x o hx hn hc) (fun hm=>?_) ?_
  ·rcases hl x hm with h1|h1
   ·exact hn h1
   ·omega
  ·rcases hB with hB|⟨hB,hW⟩
   ·left;omega
   ·rcases hc with hc|hc
    ·left;omega
    ·right;exact fun hm=>hc (hW _ hm)⟩
theorem KeepY.blk {l:List Nat} (h:KeepY B W l w w') (hb:Blk w b T cs) (hn:b∉l) (hk:b<B∨T∉W):Blk w' b T cs:=h.keep b _ hb hn hk
theorem KeepX.thenF {l:List Nat} {a b c:World} (h:KeepX l a b) (k:Fr 0 [] b c):KeepX l a c:=⟨k.os.trans h.os,k.tape.trans h.tape,k.output.trans h.output,Nat.le_trans h.size k.size,fun x o hx hn=>k.keep x o (h.keep x o hx hn) (.inr (by simp))⟩
theorem KeepX.afterF {l:List Nat} {a b c:World} (h:Fr 0 [] a b) (k:KeepX l b c):KeepX l a c:=⟨k.os.trans h.os,k.tape.trans h.tape,k.output.trans h.output,Nat.le_trans h.size k.size,fun x o hx hn=>k.keep x o (h.keep x o hx (.inr (by simp))) hn⟩
theorem KeepX.trans' {l:List Nat} {a b c:World} (h:KeepX l a b) (k:KeepX l b c):KeepX l a c:=⟨k.os.trans h.os,k.tape.trans h.tape,k.output.trans h.output,Nat.le_trans h.size k.size,fun x o hx hn=>k.keep x o (h.keep x o hx hn) hn⟩
theorem KeepX.mono {l m:List Nat} (h:KeepX l w w') (hm:∀b∈l,b∈m):KeepX m w w':=⟨h.os,h.tape,h.output,h.size,fun b o hb hn=>h.keep b o hb fun hl=>hn (hm b hl)⟩
def rowL (y:Ent):List Nat:=if y.on then [y.b] else []
theorem KeepX.row {l:List Nat} {y:Ent} (h:KeepX (l++rowL y) w w') (hy:y.on=true→Blk w y.b T y.cs∧B≤y.b) (hT:T∈W):KeepY B W l w w':=⟨h.os,h.tape,h.output,h.size,fun b o hb hn hc=>h.keep b o hb fun hm=>by
 rcases List.mem_append.1 hm with hm|hm
 ·exact hn hm
 ·unfold rowL at hm
  split at hm
  ·next ho=>
   simp at hm
   subst hm
   obtain ⟨h1,h2⟩:=hy ho
   have h3:w.heap[y.b]? =some (.cells y.cs.toArray T (0,0)):=h1
   rw[hb]at h3
   cases h3
   rcases hc with hc|hc
   ·omega
   ·exact hc hT
  ·cases hm⟩
theorem OSp.os (h:OSp φ T sz w v xs):OS T sz w v xs:=by
 obtain ⟨y,p,l,c,h1,h2,h3⟩:=h
 exact ⟨y,p,l,c,h1,h2,fun ho=>(h3 ho).1⟩
theorem OSp.nil:OSp φ T sz w (.slice none 0 0) []:=⟨nilE T,none,0,0,rfl,Own.nil,fun h=>by simp[nilE]at h⟩
theorem OSp.mono {ψ:Nat→Prop} (h:OSp φ T sz w v xs) (k:∀b cs,φ b→Blk w b T cs→Blk w' b T cs∧ψ b):OSp ψ T sz w' v xs:=by
 obtain ⟨y,p,l,c,h1,h2,h3⟩:=h
 exact ⟨y,p,l,c,h1,h2,fun ho=>k _ _ (h3 ho).2 (h3 ho).1⟩
theorem OSp.keep (h:OSp φ T sz w v xs) (k:∀b cs,φ b→Blk w b T cs→Blk w' b T cs):OSp φ T sz w' v xs:=h.mono fun b cs hb hk=>⟨k b cs hb hk,hb⟩
theorem OSp.len (h:OSp φ T 1 w v xs):∃p c,v=.slice p xs.length c:=by
 obtain ⟨y,p,l,c,h1,h2,h3⟩:=h
 have:=h2.sl.1
 rw[Nat.mul_one]at this
 exact ⟨p,c,by rw[h1,this]⟩
theorem Hp.two {T2:Nat} {y:Ent} (hb:Blk w b T cs) (hO:Own T2 sz y p l c xs) (hy:y.on=true→Blk w y.b T2 y.cs∧B≤y.b) (hB:B≤b) (hT:W.any (fun t=>Nat.beq t T)=true) (hT2:W.any (fun t=>Nat.beq t T2)=true) (hne:T≠T2):
  Hp ⟨w,B,W⟩ w (⟨b,T,cs,true,true,none⟩::y::restH w ([b]++rowL y)):=by
 have hyx:y.ex=true→y.on=true:=fun he=>by simpa[Ent.ex,hO.ho]using he
 refine ⟨⟨fun _=>hb,fun o ho=>by cases ho⟩,fun _ _=>.inr ⟨hB,mem_of_any hT⟩,fun _ z hz hze=>?_,⟨⟨fun ho=>?_,fun o ho=>by rw[hO.ho]at ho;cases ho⟩,fun he _=>.inr ⟨(hy (hyx he)).2,by rw[hO.tag];exact mem_of_any hT2⟩,fun he z hz hze=>?_,Hp.rest _⟩⟩
 ·rcases List.mem_cons.1 hz with rfl|hz
  ·exact ((hb.ne (hy (hyx hze)).1 hne)).symm
  ·exact rest_ne (by simp) z hz hze
 ·rw[hO.hT];exact (hy ho).1
 ·exact rest_ne (by simp[rowL,hyx he]) z hz hze
section
variable {P:Program} {n:Nat} {e:Env} {d ty:Nat} {pos:String} {af:Array Edge}
theorem r_mul {y:Operand} {p q:Int} (hx:ev e x=some (.int kd p)) (hy:ev e y=some (.int kd q)) (ha:Sat n e a):
  (execOp a.eval ⟨some d,.binOp .mul t x y t',ty,pos,af,none⟩).run P w=.ok (.value (.int kd (kd.wrap (p*q)))) w:=by (simp only[execOp,ha.ev hx,ha.ev hy];simp[eqGuard,binOp,Op.intArith])
end
section
variable {P:Program} {n:Nat} {f:Fm} {e:Env} {H:Heap}
theorem ej_ret3 {fn:Func} {R:Value→World→Prop} {s r:Nat} {u z:Value} (hres:fn.results= #[.tmp t,.tmp s,.tmp r]) (ht:look e t=some v) (hs:look e s=some u) (hr:look e r=some z) (h:∀w,Hp f w H→f.ok w→R (.tuple #[v,u,z]) w):
  EJ (bodyPost P fn (Ret R)) .ret n f e H:=fun w hH hf a ha=>by
 refine ⟨ha.defs,_,?_,h w hH hf⟩
 have h1:=ha.has t v ht
 have h2:=ha.has s u hs
 have h3:=ha.has r z hr
 simp only[results,hres]
 simp[Array.getD_eq_getD_getElem?,h1,h2,h3]
end
end Go.Fw
namespace Go.Proofs.YtifdadlhmlhfiaaGreatDoor
open Go Go.Fw Go.Proofs Go.Proofs.Tryz
variable {D:List Nat} {b c i k m o t:Nat} {w w':World}
structure Bys (w:World) (b o c:Nat) (D:List Nat):Prop where
 le:D.length≤c
 row:∃cs,Blk w b tU8 cs∧∀(j:Nat) d,D[j]? =some d→cs[o+j]? =some (bv d)
theorem Bys.at_ (h:Bys w b o c D) (j:Nat) (d:Nat) (hd:D[j]? =some d):w.cell? ⟨b,o+j,none⟩=some (bv d):=by
 obtain ⟨cs,h1,h2⟩:=h.row
 rw[h1.cell];exact h2 j d hd
theorem Bys.mono (h:Bys w b o c D) (k:∀b cs,Blk w b tU8 cs→Blk w' b tU8 cs):Bys w' b o c D:=by
 obtain ⟨cs,h1,h2⟩:=h.row
 exact ⟨h.le,cs,k _ _ h1,h2⟩
theorem Bys.keep (h:Bys w b o c D) (k:Fr 0 [] w w'):Bys w' b o c D:=h.mono fun b cs hb=>k.blk hb (.inr (by simp))
theorem Bys.drop (h:Bys w b o c D) (hi:i≤D.length):Bys w b (cut o c i 1) (c - i) (D.drop i):=by
 have hc:=h.le
 obtain ⟨cs,h1,h2⟩:=h.row
 refine ⟨by simp;omega,cs,h1,fun j d hd=>?_⟩
 rw[List.getElem?_drop]at hd
 have hl:=(List.getElem?_eq_some_iff.1 hd).1
 have:=h2 _ _ hd
 rw[cut,if_neg (by omega),Nat.mul_one,Nat.add_assoc];exact this
theorem Bys.take (h:Bys w b o c D) (i:Nat):Bys w b o c (D.take i):=by
 obtain ⟨cs,h1,h2⟩:=h.row
 refine ⟨by have:=h.le;simp;omega,cs,h1,fun j d hd=>h2 j d ?_⟩
 rw[List.getElem?_take]at hd
 split at hd
 ·exact hd
 ·cases hd
set_option maxRecDepth 20000 in
theorem and127:∀x:Fin 256,(x.val&&&127)=x.val%128:=by decide
theorem bits_low {d:Nat} (h:d<256):IntKind.u8.wrap ((BitVec.ofInt 8 (d:Int)&&&BitVec.ofInt 8 127).toNat:Nat)=((d%128:Nat):Int):=by
 have h1:(BitVec.ofInt 8 (d:Int)).toNat=d:=by
  rw[BitVec.ofInt_natCast,BitVec.toNat_ofNat];exact Nat.mod_eq_of_lt (by omega)
 have h2:(BitVec.ofInt 8 (127:Int)).toNat=127:=rfl
 rw[BitVec.toNat_and,h1,h2,and127 ⟨d,h⟩]
 simp[IntKind.wrap,IntKind.bits,IntKind.signed];omega
theorem wrapU {z:Nat} (h:z<18446744073709551616):IntKind.u64.wrap (z:Int)=(z:Int):=by simp[IntKind.wrap,IntKind.bits,IntKind.signed];omega
theorem bits_join {a:Nat} (ha:a<128^i) (hs:m*128^i+a<18446744073709551616):IntKind.u64.wrap ((BitVec.ofInt 64 (a:Int)|||BitVec.ofInt 64 ((m*128^i:Nat):Int)).toNat:Nat)=((a+m*128^i:Nat):Int):=by
 have h1:(BitVec.ofInt 64 (a:Int)).toNat=a:=by
  rw[BitVec.ofInt_natCast,BitVec.toNat_ofNat];exact Nat.mod_eq_of_lt (by omega)
 have h2:(BitVec.ofInt 64 ((m*128^i:Nat):Int)).toNat=m*128^i:=by
  rw[BitVec.ofInt_natCast,BitVec.toNat_ofNat];exact Nat.mod_eq_of_lt (by omega)
 rw[BitVec.toNat_or,h1,h2,Nat.or_comm]
 have h3:(128:Nat)^i=2^(7*i):=by rw[Nat.pow_mul]
 have h4:=Nat.two_pow_add_eq_or_of_lt (i:=7*i) (b:=a) (by rw[← h3];exact ha) m
 have h5:m*128^i|||a=m*128^i+a:=by rw[h3,Nat.mul_comm];exact h4.symm
 rw[h5,wrapU hs]
 omega
theorem acc_step (n i:Nat):n%128^i+n/128^i%128*128^i=n%128^(i+1):=by
 rw[Nat.mod_pow_succ,Nat.mul_comm (128^i)]
theorem mod_le' (n i:Nat):n/128^i%128*128^i+n%128^i≤n:=by
 have h1:n/128^i%128*128^i≤n/128^i*128^i:=Nat.mul_le_mul_right _ (Nat.mod_le _ _)
 have h2:=Nat.div_add_mod n (128^i)
 rw[Nat.mul_comm]at h2
 omega
theorem tag_shr (ht:t<8):((8*k+t:Nat):Int).fdiv (2^(min 3 IntKind.u64.bits))=(k:Int):=by
 have:min 3 IntKind.u64.bits=3:=rfl
 rw[this,Int.fdiv_eq_ediv_of_nonneg _ (by omega)]
 simp;omega
theorem tag_and (hk:k<1048576) (ht:t<8):IntKind.u64.wrap ((BitVec.ofInt 64 ((8*k+t:Nat):Int)&&&BitVec.ofInt 64 7).toNat:Nat)=(t:Int):=by
 have h1:(BitVec.ofInt 64 ((8*k+t:Nat):Int)).toNat=8*k+t:=by
  rw[BitVec.ofInt_natCast,BitVec.toNat_ofNat];exact Nat.mod_eq_of_lt (by omega)
 have h2:(BitVec.ofInt 64 (7:Int)).toNat=7:=rfl
 rw[BitVec.toNat_and,h1,h2]
 have h3:(8*k+t)&&&7=(8*k+t)%2^3:=Nat.and_two_pow_sub_one_eq_mod _ 3
 rw[h3]
 have h4:(8*k+t)%2^3=t:=by omega
 rw[h4];exact wrapU (by omega)
set_option maxRecDepth 20000 in
theorem and128:∀x:Fin 256,(x.val&&&128)=if x.val<128 then 0 else 128:=by decide
theorem bits_top {d:Nat} (h:d<256):IntKind.u8.wrap ((BitVec.ofInt 8 (d:Int)&&&BitVec.ofInt 8 128).toNat:Nat)=if d<128 then 0 else 128:=by
 have h1:(BitVec.ofInt 8 (d:Int)).toNat=d:=by
  rw[BitVec.ofInt_natCast,BitVec.toNat_ofNat];exact Nat.mod_eq_of_lt (by omega)
 have h2:(BitVec.ofInt 8 (128:Int)).toNat=128:=rfl
 rw[BitVec.toNat_and,h1,h2,and128 ⟨d,h⟩]
 split<;>simp[IntKind.wrap,IntKind.bits,IntKind.signed]
set_option maxHeartbeats 1000000 in
theorem dvarint_c (w:World) (b o c n:Nat) (bs R:List Nat) (hV:VEnc n bs) (hn:n<18446744073709551616) (h:Bys w b o c (bs++R)) (hc:(bs++R).length≤1000000000000):
  Calls Tryz.prog 143 #[.slice (some ⟨b,o,none⟩) (bs++R).length c] w (Ret fun v w'=>v=.tuple #[.int .u64 (n:Nat),.slice (some ⟨b,cut o c bs.length 1,none⟩) R.length (c - bs.length),.nilIface]∧Fr 0 [] w w'):=by
 have hl10:=hV.le
 have hlpos:=hV.pos
 have hle:=h.le
 have hfit:=hV.fit
 refine startJ (args:=[_]) [(0,_)] 0 [] [] func143 rfl ntmps143 rfl rfl .nil ?_
 refine sQ fun K1=>cj_reg (jA (k:=jA (k:=jA (k:=K1 (sQ fun K2=>cj_reg (jA (k:=K2 (sQ fun K3=>cj_reg (jA (k:=K3 ?_))))))))))
 refine sQ fun K4=>cj_reg (jA (k:=K4 (cj_block ?_)))
 intro w1 hH1 hf1
 refine c_loop (σ:=Nat) (fun i=>[(0,.slice (some ⟨b,o,none⟩) (bs++R).length c),(5,.int .i64 (i:Nat)),(6,.int .u64 ((n%128^i:Nat):Int))]) (fun i w'=>i<bs.length∧Fr 0 [] w w') (fun i=>bs.length - i) 0 ⟨rfl,rfl,by simp[Nat.mod_one];rfl,trivial⟩ ⟨hlpos,hf1⟩ ?_
 rintro i w2 ⟨hi,hf2⟩ KL hKL
 have hlen:(bs++R).length=bs.length+R.length:=List.length_append
 obtain ⟨dg,hdg⟩:∃dg,dg=bs[i]:=⟨_,rfl⟩
 have hd0:bs[i]? =some dg:=by rw[hdg];exact List.getElem?_eq_getElem hi
 have hd:(bs++R)[i]? =some dg:=by rw[List.getElem?_append_left hi];exact hd0
 have hdl:=hV.lt hd0
 obtain ⟨hdm,hdt⟩:=hV.head hd0
 have hml:=mod_le' n i
 have hmlt:n%128^i<128^i:=Nat.mod_lt _ (Nat.pow_pos (by omega))
 have hcell:∀w',Fm.ok ⟨w2,0,[]⟩ w'→∀(j:Nat) (u:Value),[bv dg][j]? =some u→w'.cell? ⟨b,o+i*1+j,none⟩=some u:=fun w' hf j u hu=>by
  cases j with
  |zero=>
   simp at hu;subst hu
   have:=((h.keep hf2).keep hf).at_ i dg hd
   simpa using this
  |succ j=>simp at hu
 refine C.begin ⟨w2,0,[]⟩ [] ok_refl .nil ?_
 try dsimp only
 refine sQ fun K5=>cj_block (sQ fun K6=>sQ fun K7=>cj_reg (jM (k:=?_)))
 refine j_val rfl (fun _ _ h=>r_geq rfl rfl h) ?_
 refine j_eqv (u:=.bool false) (congrArg Value.bool (decide_eq_false (by omega))) ?_
 refine jM (k:=?_)
 refine j_gt rfl rfl (jM (k:=?_))
 refine j_gt rfl rfl (jM (k:=?_))
 refine j_gt rfl rfl (jE ru36 (k:=?_))
 refine j_gt rfl rfl (j_val rfl (fun _ _ h=>r_geq rfl rfl h) ?_)
 refine j_eqv (u:=.bool false) (congrArg Value.bool (decide_eq_false (by omega))) ?_
 refine jK (k:=K7 (CJ.t [(0,_),(5,_),(6,_),(16,_)] (k:=?_)))
 refine cj_if_f rfl (cj_skip (K6 (sQ fun K8=>cj_reg (jM (k:=jM (k:=jM (k:=jJ ru36 so5 (k:=jL ag5 hcell 0 (k:=?_)))))))))
 refine j_val rfl (fun _ _ h=>r_and rfl rfl h) ?_
 refine j_eqv (u:=.int .u8 ((dg%128:Nat):Int)) (congrArg (Value.int .u8) (bits_low hdl)) ?_
 refine j_val rfl (fun _ _ h=>r_conv ru5 ru71 rfl h) ?_
 refine j_eqv (u:=.int .u64 ((dg%128:Nat):Int)) (congrArg (Value.int .u64) (conv64 (by omega))) ?_
 refine jM (k:=?_)
 refine j_val rfl (fun _ _ h=>r_mul rfl rfl h) ?_
 refine j_eqv (u:=.int .i64 ((7*i:Nat):Int)) (congrArg (Value.int .i64) (by rw[wrap64_small (by omega) (by omega)];simp)) ?_
 refine j_val rfl (fun _ _ h=>r_conv ru3 ru152 rfl h) ?_
 refine j_eqv (u:=.int .u64 ((7*i:Nat):Int)) (congrArg (Value.int .u64) (conv64 (by omega))) ?_
 refine j_val rfl (fun _ _ h=>r_shl rfl rfl h) ?_
 refine j_eqv (u:=.int .u64 ((n/128^i%128*128^i:Nat):Int)) (congrArg (Value.int .u64) (by
  rw[hdm,show min (7*i) IntKind.u64.bits=7*i from Nat.min_eq_left (by show 7*i≤64;omega)]
  have e:((n/128^i%128:Nat):Int)*2^(7*i)=((n/128^i%128*128^i:Nat):Int):=by
   rw[Int.natCast_mul,show (128:Nat)^i=2^(7*i) by rw[Nat.pow_mul]];simp
  rw[e];exact wrapU (by omega))) ?_
 refine j_val rfl (fun _ _ h=>r_or rfl rfl h) ?_
 refine j_eqv (u:=.int .u64 ((n%128^(i+1):Nat):Int)) (congrArg (Value.int .u64) (by rw[← acc_step n i];exact bits_join hmlt (by omega))) ?_
 refine jA (k:=K8 (CJ.t [(0,_),(5,_),(6,_)] (k:=sQ fun K9=>cj_reg (jM (k:=jM (k:=jJ ru36 so5 (k:=jL ag5 hcell 0 (k:=?_))))))))
 refine j_val rfl (fun _ _ h=>r_and rfl rfl h) ?_
 refine j_eqv (u:=.int .u8 (if dg<128 then 0 else 128)) (congrArg (Value.int .u8) (bits_top hdl)) ?_
 refine jQ (k:=K9 ?_)
 refine cj_dec rfl (fun h35=>?_) (fun h35=>?_)
 ·have hm:dg<128:=by
   rcases Nat.lt_or_ge dg 128 with h|h
   ·exact h
   ·rw[if_neg (by omega)]at h35;omega
  have hil:bs.length=i+1:=(hdt.1 hm).symm
  have hfull:n%128^(i+1)=n:=Nat.mod_eq_of_lt (by rw[← hil];exact hfit)
  refine sQ fun K10=>cj_drawI 8 (lts [0,1,2,3,4,5,6,7]) [] rfl (by kernel_rfl) (by kernel_rfl) (dM [] (k:=dM [] (k:=dM [] (k:=?_))))
  refine dj_val rfl rfl (sub_of [] rfl) (fun _ _ h=>r_inc (by omega) rfl rfl h) (dj_val rfl rfl (sub_of [] rfl) (fun _ _ h=>r_slcut (i:=i+1) ru36 so5 rfl rfl (by omega) h) (dA [] (k:=dA [] (k:=dA [] (k:=K10 (CJ.t [(2,_),(3,_),(4,_)] (k:=cj_ret ?_)))))))
  exact ej_ret3 results143 rfl rfl rfl fun w' hH hf=>⟨by rw[hfull,hil,show (bs++R).length - (i+1)=R.length by omega],frQ hf2 hf⟩
 ·have hil:i+1<bs.length:=by
   rcases Nat.lt_or_ge dg 128 with h|h
   ·rw[if_pos h]at h35;exact absurd rfl h35
   ·have:¬(i+1=bs.length):=fun e=>by have:=hdt.2 e;omega
    omega
  refine cj_skip (K5 (cj_reg (jM (k:=jI (k:=jA (k:=j_nil (ej_then ?_)))))))
  exact fun w' hH hf=>hKL (i+1) _ w' ⟨hil,frQ hf2 hf⟩ (by omega) sR
theorem checkType_c (w:World) (bb:Nat) (f t u:Int) (dv:Value) (tmp:List Value) (hb:Blk w bb tBuf (cBuf f t u dv tmp)):
  Calls Tryz.prog 117 #[ptr bb,.int .i64 t] w (Ret fun v w'=>v=.nilIface∧Fr 0 [] w w'):=by
 have hc0:=mc (f:=⟨w,0,[]⟩) hb rfl
 refine startJ (args:=[_,_]) [(0,_),(1,_)] 0 [] [] func117 rfl ntmps117 rfl rfl .nil ?_
 refine sQ fun K1=>cj_reg (jA (k:=K1 (sQ fun K2=>sQ fun K3=>cj_reg (jM (k:=jN (k:=jF 1 ru198 so3 (k:=jL ag3 hc0 1 (k:=jM (k:=?_)))))))))
 refine j_val rfl (fun _ _ h=>r_neq rfl rfl h) ?_
 refine j_eqv (u:=.bool false) (congrArg Value.bool (by simp)) ?_
 refine K3 (cj_if_f rfl (cj_skip (K2 (sQ fun K4=>cj_reg (jA (k:=K4 (cj_ret ?_)))))))
 exact ej_ret1 results117 rfl fun w' hH hf=>⟨rfl,hf⟩
set_option maxHeartbeats 1000000 in
theorem dfieldNum_c (w:World) (bb b o c k n:Nat) (f t u:Int) (dv:Value) (tmp:List Value) (bs R:List Nat) (hb:Blk w bb tBuf (cBuf f t u dv tmp)) (hG:GEnc (.fld (.num k n)) bs) (h:Bys w b o c (bs++R)) (hc:(bs++R).length≤1000000000000):
  Calls Tryz.prog 118 #[ptr bb,.slice (some ⟨b,o,none⟩) (bs++R).length c] w (Ret fun v w'=>(∃o' c',v=.tuple #[.slice (some ⟨b,o',none⟩) R.length c',.nilIface]∧Bys w' b o' c' R)∧Blk w' bb tBuf (cBuf k 0 n (.slice none 0 0) tmp)∧KeepX [bb] w w'):=by
 obtain ⟨tg,vv,rfl,hV1,hV2,hk,hn⟩:=hG
 have hl1:=hV1.pos
 rw[List.append_assoc]at h hc⊢
 have hB2:Bys w b (cut o c tg.length 1) (c - tg.length) (vv++R):=by
  have:=h.drop (i:=tg.length) (by simp)
  rwa [List.drop_left]at this
 have hB3:Bys w b (cut (cut o c tg.length 1) (c - tg.length) vv.length 1) (c - tg.length - vv.length) R:=by
  have:=hB2.drop (i:=vv.length) (by simp)
  rwa [List.drop_left]at this
 have hlen:(tg++(vv++R)).length=tg.length+(vv++R).length:=List.length_append
 have hbT:∀w',Fm.ok ⟨w,0,[tBuf]⟩ w'→∀b cs,Blk w b tU8 cs→Blk w' b tU8 cs:=fun w' hf=>fr_row hf rfl
 refine startJ (args:=[_,_]) [(0,_),(1,_)] 0 [tBuf] _ func118 rfl ntmps118 rfl rfl (Hp.one hb (Nat.zero_le _) rfl) ?_
 refine sQ fun K1=>cj_reg (jA (k:=jA (k:=K1 (sQ fun K2=>cj_reg (jM (k:=?_))))))
 refine j_callQ (φ:=fun v=>v=.tuple #[.int .u64 ((8*k:Nat):Int),.slice (some ⟨b,cut o c tg.length 1,none⟩) (vv++R).length (c - tg.length),.nilIface]) call143 rfl rfl (fun w2 hH hf=>dvarint_c w2 b o c _ tg _ hV1 (by omega) (h.mono (hbT w2 hf)) hc) fun v hv=>?_
 subst hv
 refine jM (k:=jX (k:=jX (k:=jX (k:=jA (k:=jA (k:=jA (k:=K2 (sQ fun K3=>sQ fun K4=>cj_reg (jM (k:=?_))))))))))
 refine j_val rfl (fun _ _ h=>r_inil ud61 rfl h) (K4 (CJ.t [(0,_),(1,_),(6,_),(7,_),(16,_)] (k:=?_)))
 refine cj_if_f rfl (cj_skip (K3 (sQ fun K5=>cj_reg (jM (k:=jM (k:=?_))))))
 refine j_val rfl (fun _ _ h=>r_shr (q:=3) rfl rfl h) ?_
 refine j_eqv (u:=.int .u64 (k:Nat)) (congrArg (Value.int .u64) (by have:=tag_shr (k:=k) (t:=0) (by omega);simpa using this)) ?_
 refine j_val rfl (fun _ _ h=>r_conv ru71 ru3 rfl h) ?_
 refine j_eqv (u:=.int .i64 (k:Nat)) (congrArg (Value.int .i64) (wrap64_small (by omega) (by omega))) ?_
 refine jN (k:=jF 0 ru198 so3 (k:=jB (_::_::_::_::_) (_::_) 0 so3 (k:=K5 (sQ fun K6=>cj_reg (jM (k:=jM (k:=?_)))))))
 refine j_val rfl (fun _ _ h=>r_and rfl rfl h) ?_
 refine j_eqv (u:=.int .u64 ((0:Nat):Int)) (congrArg (Value.int .u64) (by have:=tag_and (k:=k) (t:=0) hk (by omega);rw[Nat.add_zero]at this;exact this)) ?_
 refine j_val rfl (fun _ _ h=>r_conv ru71 ru3 rfl h) ?_
 refine j_eqv (u:=.int .i64 0) rfl ?_
 refine jN (k:=jF 1 ru198 so3 (k:=jB (_::_::_::_::_) (_::_) 0 so3 (k:=K6 (CJ.t [(0,_),(1,_)] (k:=sQ fun K7=>cj_reg (jM (k:=jN (k:=jF 3 ru198 so36 (k:=jB (_::_::_::_::_) (_::_) 0 so36 (k:=K7 (sQ fun K8=>cj_reg ?_)))))))))))
 refine jM (k:=jN (k:=jF 2 ru198 so71 (k:=jB (_::_::_::_::_) (_::_) 0 so71 (k:=K8 (sQ fun K9=>sQ fun K10=>cj_reg (jM (k:=jN (k:=jF 1 ru198 so3 (k:=jH 0 ag3 (k:=K10 (CJ.t [(0,_),(1,_),(39,_)] (k:=?_))))))))))))
 refine cj_block (sQ fun K11=>cj_reg (jQ (k:=?_)))
 refine j_eqv (u:=.bool true) rfl ?_
 refine jA (k:=K11 ?_)
 refine cj_if_t rfl (sQ fun K12=>cj_reg (jM (k:=jM (k:=?_))))
 refine j_callQ (φ:=fun v=>v=.tuple #[.int .u64 (n:Nat),.slice (some ⟨b,cut (cut o c tg.length 1) (c - tg.length) vv.length 1,none⟩) R.length (c - tg.length - vv.length),.nilIface]) call143 rfl rfl (fun w2 hH hf=>dvarint_c w2 b _ _ _ vv _ hV2 hn (hB2.mono (hbT w2 hf)) (by omega)) fun v hv=>?_
 subst hv
 refine jM (k:=jX (k:=jX (k:=jX (k:=jN (k:=jF 2 ru198 so71 (k:=jB (_::_::_::_::_) (_::_) 0 so71 (k:=jA (k:=jA (k:=K12 (CJ.t [(1,_),(7,_)] (k:=sQ fun K13=>cj_reg (jM (k:=?_)))))))))))))
 refine j_val rfl (fun _ _ h=>r_inil ud61 rfl h) (K13 (cj_if_f rfl (cj_skip (K9 (sQ fun K14=>cj_reg (jM (k:=jA (k:=jA (k:=K14 (cj_ret ?_))))))))))
 exact ej_ret2 results118 rfl rfl fun w' hH hf=>⟨⟨_,_,rfl,hB3.mono (hbT w' hf)⟩,hH.get (i:=0) rfl rfl,Hp.keepX (f:=⟨w,0,[tBuf]⟩) (hH.drop 0) hf⟩
set_option maxHeartbeats 1000000 in
theorem dfieldBys_c (w:World) (bb b o c k:Nat) (D:List Nat) (f t u:Int) (dv:Value) (tmp:List Value) (bs R:List Nat) (hb:Blk w bb tBuf (cBuf f t u dv tmp)) (hG:GEnc (.fld (.bys k D)) bs) (h:Bys w b o c (bs++R)) (hc:(bs++R).length≤1000000000000):
  Calls Tryz.prog 118 #[ptr bb,.slice (some ⟨b,o,none⟩) (bs++R).length c] w (Ret fun v w'=>(∃o' c' o2 c2,v=.tuple #[.slice (some ⟨b,o',none⟩) R.length c',.nilIface]∧Bys w' b o' c' R∧Blk w' bb tBuf (cBuf k 2 0 (.slice (some ⟨b,o2,none⟩) D.length c2) tmp)∧Bys w' b o2 c2 D)∧KeepX [bb] w w'):=by
 obtain ⟨tg,ll,rfl,hV1,hV2,hk,hn⟩:=hG
 have hl1:=hV1.pos
 rw[List.append_assoc,List.append_assoc]at h hc⊢
 have hB2:Bys w b (cut o c tg.length 1) (c - tg.length) (ll++(D++R)):=by
  have:=h.drop (i:=tg.length) (by simp)
  rwa [List.drop_left]at this
 have hB3:Bys w b (cut (cut o c tg.length 1) (c - tg.length) ll.length 1) (c - tg.length - ll.length) (D++R):=by
  have:=hB2.drop (i:=ll.length) (by simp)
  rwa [List.drop_left]at this
 have hlen:(tg++(ll++(D++R))).length=tg.length+(ll++(D++R)).length:=List.length_append
 have hlen2:(ll++(D++R)).length=ll.length+(D++R).length:=List.length_append
 have hlen3:(D++R).length=D.length+R.length:=List.length_append
 have hle3:=hB3.le
 have hbT:∀w',Fm.ok ⟨w,0,[tBuf]⟩ w'→∀b cs,Blk w b tU8 cs→Blk w' b tU8 cs:=fun w' hf=>fr_row hf rfl
 generalize hoS:cut (cut o c tg.length 1) (c - tg.length) ll.length 1=oS at hB3
 generalize hcS:c - tg.length - ll.length=cS at hB3 hle3
 have hB4:Bys w b (cut oS cS D.length 1) (cS - D.length) R:=by
  have:=hB3.drop (i:=D.length) (by simp)
  rwa [List.drop_left]at this
 refine startJ (args:=[_,_]) [(0,_),(1,_)] 0 [tBuf] _ func118 rfl ntmps118 rfl rfl (Hp.one hb (Nat.zero_le _) rfl) ?_
 refine sQ fun K1=>cj_reg (jA (k:=jA (k:=K1 (sQ fun K2=>cj_reg (jM (k:=?_))))))
 refine j_callQ (φ:=fun v=>v=.tuple #[.int .u64 ((8*k+2:Nat):Int),.slice (some ⟨b,cut o c tg.length 1,none⟩) (ll++(D++R)).length (c - tg.length),.nilIface]) call143 rfl rfl (fun w2 hH hf=>dvarint_c w2 b o c _ tg _ hV1 (by omega) (h.mono (hbT w2 hf)) hc) fun v hv=>?_
 subst hv
 refine jM (k:=jX (k:=jX (k:=jX (k:=jA (k:=jA (k:=jA (k:=K2 (sQ fun K3=>sQ fun K4=>cj_reg (jM (k:=?_))))))))))
 refine j_val rfl (fun _ _ h=>r_inil ud61 rfl h) (K4 (CJ.t [(0,_),(1,_),(6,_),(7,_),(16,_)] (k:=?_)))
 refine cj_if_f rfl (cj_skip (K3 (sQ fun K5=>cj_reg (jM (k:=jM (k:=?_))))))
 refine j_val rfl (fun _ _ h=>r_shr (q:=3) rfl rfl h) ?_
 refine j_eqv (u:=.int .u64 (k:Nat)) (congrArg (Value.int .u64) (tag_shr (k:=k) (t:=2) (by omega))) ?_
 refine j_val rfl (fun _ _ h=>r_conv ru71 ru3 rfl h) ?_
 refine j_eqv (u:=.int .i64 (k:Nat)) (congrArg (Value.int .i64) (wrap64_small (by omega) (by omega))) ?_
 refine jN (k:=jF 0 ru198 so3 (k:=jB (_::_::_::_::_) (_::_) 0 so3 (k:=K5 (sQ fun K6=>cj_reg (jM (k:=jM (k:=?_)))))))
 refine j_val rfl (fun _ _ h=>r_and rfl rfl h) ?_
 refine j_eqv (u:=.int .u64 ((2:Nat):Int)) (congrArg (Value.int .u64) (tag_and (k:=k) (t:=2) hk (by omega))) ?_
 refine j_val rfl (fun _ _ h=>r_conv ru71 ru3 rfl h) ?_
 refine j_eqv (u:=.int .i64 2) rfl ?_
 refine jN (k:=jF 1 ru198 so3 (k:=jB (_::_::_::_::_) (_::_) 0 so3 (k:=K6 (CJ.t [(0,_),(1,_)] (k:=sQ fun K7=>cj_reg (jM (k:=jN (k:=jF 3 ru198 so36 (k:=jB (_::_::_::_::_) (_::_) 0 so36 (k:=K7 (sQ fun K8=>cj_reg ?_)))))))))))
 refine jM (k:=jN (k:=jF 2 ru198 so71 (k:=jB (_::_::_::_::_) (_::_) 0 so71 (k:=K8 (sQ fun K9=>sQ fun K10=>cj_reg (jM (k:=jN (k:=jF 1 ru198 so3 (k:=jH 0 ag3 (k:=K10 (CJ.t [(0,_),(1,_),(39,_)] (k:=?_))))))))))))
 refine cj_block (sQ fun K11=>cj_reg (jQ (k:=?_)))
 refine j_eqv (u:=.bool false) rfl ?_
 refine jA (k:=K11 ?_)
 refine cj_if_f rfl (sQ fun K12=>cj_reg (jQ (k:=?_)))
 refine j_eqv (u:=.bool false) rfl ?_
 refine jA (k:=K12 ?_)
 refine cj_if_f rfl (sQ fun K13=>cj_reg (jQ (k:=?_)))
 refine j_eqv (u:=.bool true) rfl ?_
 refine jA (k:=K13 ?_)
 refine cj_if_t rfl (sQ fun K14=>cj_reg (jA (k:=K14 (CJ.t [(0,_),(1,_)] (k:=sQ fun K15=>cj_reg (jM (k:=?_)))))))
 refine j_callQ (φ:=fun v=>v=.tuple #[.int .u64 (D.length:Nat),.slice (some ⟨b,oS,none⟩) (D++R).length cS,.nilIface]) call143 rfl rfl (fun w2 hH hf=>by
   rw[← hoS, ← hcS]
   exact dvarint_c w2 b _ _ _ ll _ hV2 hn (hB2.mono (hbT w2 hf)) (by omega)) fun v hv=>?_
 subst hv
 refine jM (k:=jX (k:=jX (k:=jX (k:=jA (k:=jA (k:=jA (k:=K15 (sQ fun K16=>sQ fun K17=>cj_reg (jM (k:=?_))))))))))
 refine j_val rfl (fun _ _ h=>r_inil ud61 rfl h) (K17 (cj_if_f rfl (cj_skip (K16 (sQ fun K18=>sQ fun K19=>cj_reg (jM (k:=jM (k:=jE ru36 (k:=?_)))))))))
 refine j_val rfl (fun _ _ h=>r_conv ru3 ru71 rfl h) ?_
 refine j_eqv (u:=.int .u64 ((D++R).length:Nat)) (congrArg (Value.int .u64) (wrapU (by omega))) ?_
 refine jG (k:=?_)
 refine j_eqv (u:=.bool false) (congrArg Value.bool (decide_eq_false (by omega))) ?_
 refine K19 (CJ.t [(0,_),(1,_),(8,_),(91,_)] (k:=?_))
 refine cj_if_f rfl (cj_skip (K18 (sQ fun K20=>cj_reg (jM (k:=jM (k:=jM (k:=?_)))))))
 refine j_val rfl (fun _ _ h=>r_slhi (c:=cS) (l:=(D++R).length) (i:=D.length) ru36 so5 rfl rfl (by omega) h) (jN (k:=jF 3 ru198 so36 (k:=jB (_::_::_::_::_) (_::_) 0 so36 (k:=K20 (cj_reg (jM (k:=jM (k:=?_))))))))
 refine j_val rfl (fun _ _ h=>r_slcut (c:=cS) (l:=(D++R).length) (i:=D.length) ru36 so5 rfl rfl (by omega) h) ?_
 refine j_eqv (u:=.slice (some ⟨b,cut oS cS D.length 1,none⟩) R.length (cS - D.length)) (by rw[List.length_append,Nat.add_sub_cancel_left]) ?_
 refine jA (k:=K9 (CJ.t [(1,_)] (k:=sQ fun K21=>cj_reg (jM (k:=jA (k:=jA (k:=K21 (cj_ret ?_))))))))
 exact ej_ret2 results118 rfl rfl fun w' hH hf=>⟨⟨_,_,oS,cS,rfl,hB4.mono (hbT w' hf),hH.get (i:=0) rfl rfl,by have:=hB3.take D.length;rw[List.take_left]at this;exact this.mono (hbT w' hf)⟩,Hp.keepX (f:=⟨w,0,[tBuf]⟩) (hH.drop 0) hf⟩
theorem Bys.cellN (h:Bys w b o c D) (hi:i<D.length):∀w',Fm.ok ⟨w,0,[]⟩ w'→∀(j:Nat) (u:Value),[bv D[i]][j]? =some u→w'.cell? ⟨b,o+i*1+j,none⟩=some u:=fun w' hf j u hu=>by
 cases j with
 |zero=>
  simp at hu;subst hu
  have:=(h.keep hf).at_ i _ (List.getElem?_eq_getElem hi)
  simpa using this
 |succ j=>simp at hu
theorem le32_c (w:World) (b o c:Nat) (D:List Nat) (h:Bys w b o c D) (hD:D.length=4):
  Calls Tryz.prog 145 #[.slice (some ⟨b,o,none⟩) 4 c] w (Ret fun v w'=>(∃z:Int,v=.int .u32 z)∧Fr 0 [] w w'):=by
 have hm4:=h.cellN (i:=0) (by omega)
 have hm8:=h.cellN (i:=1) (by omega)
 have hm14:=h.cellN (i:=2) (by omega)
 have hm20:=h.cellN (i:=3) (by omega)
 refine startJ (args:=[_]) [(0,_)] 0 [] [] func145 rfl ntmps145 rfl rfl .nil ?_
 refine sQ fun K1=>cj_reg (jA (k:=K1 (sQ fun K2=>?_)))
 refine cj_drawI 23 (lts [0,1,2,3,4,5,6,7,8,9,10,11,12,13,14,15,16,17,18,19,20,21,22]) [] rfl (by kernel_rfl) (by kernel_rfl) (dM [] (k:=?_))
 refine dj_val rfl rfl (sub_of [] rfl) (fun _ _ h=>r_idx (i:=0) (l:=4) ru36 so5 rfl rfl (by decide) h) (dL [] ag5 hm4 0 (k:=?_))
 refine dj_val rfl rfl (sub_of [] rfl) (fun _ _ h=>r_conv ru5 ru236 rfl h) (dM [] (k:=?_))
 refine dj_val rfl rfl (sub_of [] rfl) (fun _ _ h=>r_idx (i:=1) (l:=4) ru36 so5 rfl rfl (by decide) h) (dL [] ag5 hm8 0 (k:=?_))
 refine dj_val rfl rfl (sub_of [] rfl) (fun _ _ h=>r_conv ru5 ru236 rfl h) (dj_val rfl rfl (sub_of [] rfl) (fun _ _ h=>r_shl (q:=8) rfl rfl h) (dj_val rfl rfl (sub_of [] rfl) (fun _ _ h=>r_or rfl rfl h) (dM [] (k:=?_))))
 refine dj_val rfl rfl (sub_of [] rfl) (fun _ _ h=>r_idx (i:=2) (l:=4) ru36 so5 rfl rfl (by decide) h) (dL [] ag5 hm14 0 (k:=?_))
 refine dj_val rfl rfl (sub_of [] rfl) (fun _ _ h=>r_conv ru5 ru236 rfl h) (dj_val rfl rfl (sub_of [] rfl) (fun _ _ h=>r_shl (q:=16) rfl rfl h) (dj_val rfl rfl (sub_of [] rfl) (fun _ _ h=>r_or rfl rfl h) (dM [] (k:=?_))))
 refine dj_val rfl rfl (sub_of [] rfl) (fun _ _ h=>r_idx (i:=3) (l:=4) ru36 so5 rfl rfl (by decide) h) (dL [] ag5 hm20 0 (k:=?_))
 refine dj_val rfl rfl (sub_of [] rfl) (fun _ _ h=>r_conv ru5 ru236 rfl h) (dj_val rfl rfl (sub_of [] rfl) (fun _ _ h=>r_shl (q:=24) rfl rfl h) (dj_val rfl rfl (sub_of [] rfl) (fun _ _ h=>r_or rfl rfl h) (dA [] (k:=K2 (CJ.t [(2,_)] (k:=cj_ret ?_))))))
 exact ej_ret1 results145 rfl fun w' hH hf=>⟨⟨_,rfl⟩,hf⟩
theorem le64_c (w:World) (b o c:Nat) (D:List Nat) (h:Bys w b o c D) (hD:D.length=8):
  Calls Tryz.prog 144 #[.slice (some ⟨b,o,none⟩) 8 c] w (Ret fun v w'=>(∃z:Int,v=.int .u64 z)∧Fr 0 [] w w'):=by
 have hm4:=h.cellN (i:=0) (by omega)
 have hm8:=h.cellN (i:=1) (by omega)
 have hm14:=h.cellN (i:=2) (by omega)
 have hm20:=h.cellN (i:=3) (by omega)
 have hm26:=h.cellN (i:=4) (by omega)
 have hm32:=h.cellN (i:=5) (by omega)
 have hm38:=h.cellN (i:=6) (by omega)
 have hm44:=h.cellN (i:=7) (by omega)
 refine startJ (args:=[_]) [(0,_)] 0 [] [] func144 rfl ntmps144 rfl rfl .nil ?_
 refine sQ fun K1=>cj_reg (jA (k:=K1 (sQ fun K2=>?_)))
 refine cj_drawI 47 (lts [0,1,2,3,4,5,6,7,8,9,10,11,12,13,14,15,16,17,18,19,20,21,22,23,24,25,26,27,28,29,30,31,32,33,34,35,36,37,38,39,40,41,42,43,44,45,46]) [] rfl (by kernel_rfl) (by kernel_rfl) (dM [] (k:=?_))
 refine dj_val rfl rfl (sub_of [] rfl) (fun _ _ h=>r_idx (i:=0) (l:=8) ru36 so5 rfl rfl (by decide) h) (dL [] ag5 hm4 0 (k:=?_))
 refine dj_val rfl rfl (sub_of [] rfl) (fun _ _ h=>r_conv ru5 ru71 rfl h) (dM [] (k:=?_))
 refine dj_val rfl rfl (sub_of [] rfl) (fun _ _ h=>r_idx (i:=1) (l:=8) ru36 so5 rfl rfl (by decide) h) (dL [] ag5 hm8 0 (k:=?_))
 refine dj_val rfl rfl (sub_of [] rfl) (fun _ _ h=>r_conv ru5 ru71 rfl h) (dj_val rfl rfl (sub_of [] rfl) (fun _ _ h=>r_shl (q:=8) rfl rfl h) (dj_val rfl rfl (sub_of [] rfl) (fun _ _ h=>r_or rfl rfl h) (dM [] (k:=?_))))
 refine dj_val rfl rfl (sub_of [] rfl) (fun _ _ h=>r_idx (i:=2) (l:=8) ru36 so5 rfl rfl (by decide) h) (dL [] ag5 hm14 0 (k:=?_))
 refine dj_val rfl rfl (sub_of [] rfl) (fun _ _ h=>r_conv ru5 ru71 rfl h) (dj_val rfl rfl (sub_of [] rfl) (fun _ _ h=>r_shl (q:=16) rfl rfl h) (dj_val rfl rfl (sub_of [] rfl) (fun _ _ h=>r_or rfl rfl h) (dM [] (k:=?_))))
 refine dj_val rfl rfl (sub_of [] rfl) (fun _ _ h=>r_idx (i:=3) (l:=8) ru36 so5 rfl rfl (by decide) h) (dL [] ag5 hm20 0 (k:=?_))
 refine dj_val rfl rfl (sub_of [] rfl) (fun _ _ h=>r_conv ru5 ru71 rfl h) (dj_val rfl rfl (sub_of [] rfl) (fun _ _ h=>r_shl (q:=24) rfl rfl h) (dj_val rfl rfl (sub_of [] rfl) (fun _ _ h=>r_or rfl rfl h) (dM [] (k:=?_))))
 refine dj_val rfl rfl (sub_of [] rfl) (fun _ _ h=>r_idx (i:=4) (l:=8) ru36 so5 rfl rfl (by decide) h) (dL [] ag5 hm26 0 (k:=?_))
 refine dj_val rfl rfl (sub_of [] rfl) (fun _ _ h=>r_conv ru5 ru71 rfl h) (dj_val rfl rfl (sub_of [] rfl) (fun _ _ h=>r_shl (q:=32) rfl rfl h) (dj_val rfl rfl (sub_of [] rfl) (fun _ _ h=>r_or rfl rfl h) (dM [] (k:=?_))))
 refine dj_val rfl rfl (sub_of [] rfl) (fun _ _ h=>r_idx (i:=5) (l:=8) ru36 so5 rfl rfl (by decide) h) (dL [] ag5 hm32 0 (k:=?_))
 refine dj_val rfl rfl (sub_of [] rfl) (fun _ _ h=>r_conv ru5 ru71 rfl h) (dj_val rfl rfl (sub_of [] rfl) (fun _ _ h=>r_shl (q:=40) rfl rfl h) (dj_val rfl rfl (sub_of [] rfl) (fun _ _ h=>r_or rfl rfl h) (dM [] (k:=?_))))
 refine dj_val rfl rfl (sub_of [] rfl) (fun _ _ h=>r_idx (i:=6) (l:=8) ru36 so5 rfl rfl (by decide) h) (dL [] ag5 hm38 0 (k:=?_))
 refine dj_val rfl rfl (sub_of [] rfl) (fun _ _ h=>r_conv ru5 ru71 rfl h) (dj_val rfl rfl (sub_of [] rfl) (fun _ _ h=>r_shl (q:=48) rfl rfl h) (dj_val rfl rfl (sub_of [] rfl) (fun _ _ h=>r_or rfl rfl h) (dM [] (k:=?_))))
 refine dj_val rfl rfl (sub_of [] rfl) (fun _ _ h=>r_idx (i:=7) (l:=8) ru36 so5 rfl rfl (by decide) h) (dL [] ag5 hm44 0 (k:=?_))
 refine dj_val rfl rfl (sub_of [] rfl) (fun _ _ h=>r_conv ru5 ru71 rfl h) (dj_val rfl rfl (sub_of [] rfl) (fun _ _ h=>r_shl (q:=56) rfl rfl h) (dj_val rfl rfl (sub_of [] rfl) (fun _ _ h=>r_or rfl rfl h) (dA [] (k:=K2 (CJ.t [(2,_)] (k:=cj_ret ?_))))))
 exact ej_ret1 results144 rfl fun w' hH hf=>⟨⟨_,rfl⟩,hf⟩
set_option maxHeartbeats 1000000 in
theorem dfield8_c (w:World) (bb b o c k:Nat) (B:List Nat) (f t u:Int) (dv:Value) (tmp:List Value) (bs R:List Nat) (hb:Blk w bb tBuf (cBuf f t u dv tmp)) (hG:GEnc (.fix8 k B) bs) (h:Bys w b o c (bs++R)) (hc:(bs++R).length≤1000000000000):
  Calls Tryz.prog 118 #[ptr bb,.slice (some ⟨b,o,none⟩) (bs++R).length c] w (Ret fun v w'=>(∃o' c' z,v=.tuple #[.slice (some ⟨b,o',none⟩) R.length c',.nilIface]∧Bys w' b o' c' R∧Blk w' bb tBuf (cBuf k 1 z (.slice none 0 0) tmp))∧KeepX [bb] w w'):=by
 obtain ⟨tg,rfl,hV1,hB8,hk⟩:=hG
 have hl1:=hV1.pos
 rw[List.append_assoc]at h hc⊢
 have hB2:Bys w b (cut o c tg.length 1) (c - tg.length) (B++R):=by
  have:=h.drop (i:=tg.length) (by simp)
  rwa [List.drop_left]at this
 have hB2':Bys w b (cut o c tg.length 1) (c - tg.length) B:=by
  have:=hB2.take B.length
  rwa [List.take_left]at this
 have hB3:Bys w b (cut (cut o c tg.length 1) (c - tg.length) 8 1) (c - tg.length - 8) R:=by
  have:=hB2.drop (i:=8) (by simp;omega)
  have e:(B++R).drop 8=R:=by rw[← hB8,List.drop_left]
  rw[e]at this;exact this
 have hlen:(tg++(B++R)).length=tg.length+(B++R).length:=List.length_append
 have hlen2:(B++R).length=B.length+R.length:=List.length_append
 have hle2:=hB2.le
 have hbT:∀w',Fm.ok ⟨w,0,[tBuf]⟩ w'→∀b cs,Blk w b tU8 cs→Blk w' b tU8 cs:=fun w' hf=>fr_row hf rfl
 refine startJ (args:=[_,_]) [(0,_),(1,_)] 0 [tBuf] _ func118 rfl ntmps118 rfl rfl (Hp.one hb (Nat.zero_le _) rfl) ?_
 refine sQ fun K1=>cj_reg (jA (k:=jA (k:=K1 (sQ fun K2=>cj_reg (jM (k:=?_))))))
 refine j_callQ (φ:=fun v=>v=.tuple #[.int .u64 ((8*k+1:Nat):Int),.slice (some ⟨b,cut o c tg.length 1,none⟩) (B++R).length (c - tg.length),.nilIface]) call143 rfl rfl (fun w2 hH hf=>dvarint_c w2 b o c _ tg _ hV1 (by omega) (h.mono (hbT w2 hf)) hc) fun v hv=>?_
 subst hv
 refine jM (k:=jX (k:=jX (k:=jX (k:=jA (k:=jA (k:=jA (k:=K2 (sQ fun K3=>sQ fun K4=>cj_reg (jM (k:=?_))))))))))
 refine j_val rfl (fun _ _ h=>r_inil ud61 rfl h) (K4 (CJ.t [(0,_),(1,_),(6,_),(7,_),(16,_)] (k:=?_)))
 refine cj_if_f rfl (cj_skip (K3 (sQ fun K5=>cj_reg (jM (k:=jM (k:=?_))))))
 refine j_val rfl (fun _ _ h=>r_shr (q:=3) rfl rfl h) ?_
 refine j_eqv (u:=.int .u64 (k:Nat)) (congrArg (Value.int .u64) (tag_shr (k:=k) (t:=1) (by omega))) ?_
 refine j_val rfl (fun _ _ h=>r_conv ru71 ru3 rfl h) ?_
 refine j_eqv (u:=.int .i64 (k:Nat)) (congrArg (Value.int .i64) (wrap64_small (by omega) (by omega))) ?_
 refine jN (k:=jF 0 ru198 so3 (k:=jB (_::_::_::_::_) (_::_) 0 so3 (k:=K5 (sQ fun K6=>cj_reg (jM (k:=jM (k:=?_)))))))
 refine j_val rfl (fun _ _ h=>r_and rfl rfl h) ?_
 refine j_eqv (u:=.int .u64 ((1:Nat):Int)) (congrArg (Value.int .u64) (tag_and (k:=k) (t:=1) hk (by omega))) ?_
 refine j_val rfl (fun _ _ h=>r_conv ru71 ru3 rfl h) ?_
 refine j_eqv (u:=.int .i64 1) rfl ?_
 refine jN (k:=jF 1 ru198 so3 (k:=jB (_::_::_::_::_) (_::_) 0 so3 (k:=K6 (CJ.t [(0,_),(1,_)] (k:=sQ fun K7=>cj_reg (jM (k:=jN (k:=jF 3 ru198 so36 (k:=jB (_::_::_::_::_) (_::_) 0 so36 (k:=K7 (sQ fun K8=>cj_reg ?_)))))))))))
 refine jM (k:=jN (k:=jF 2 ru198 so71 (k:=jB (_::_::_::_::_) (_::_) 0 so71 (k:=K8 (sQ fun K9=>sQ fun K10=>cj_reg (jM (k:=jN (k:=jF 1 ru198 so3 (k:=jH 0 ag3 (k:=K10 (CJ.t [(0,_),(1,_),(39,_)] (k:=?_))))))))))))
 refine cj_block (sQ fun K11=>cj_reg (jQ (k:=?_)))
 refine j_eqv (u:=.bool false) rfl ?_
 refine jA (k:=K11 ?_)
 refine cj_if_f rfl (sQ fun K12=>cj_reg (jQ (k:=?_)))
 refine j_eqv (u:=.bool true) rfl ?_
 refine jA (k:=K12 ?_)
 refine cj_if_t rfl (sQ fun K13=>sQ fun K14=>cj_reg (jM (k:=jE ru36 (k:=jS (k:=?_)))))
 refine j_eqv (u:=.bool false) (congrArg Value.bool (decide_eq_false (by omega))) ?_
 refine K14 (cj_if_f rfl (cj_skip (K13 (sQ fun K15=>cj_reg (jM (k:=jM (k:=?_)))))))
 refine j_val rfl (fun _ _ h=>r_slhi (c:=c - tg.length) (l:=(B++R).length) (i:=8) ru36 so5 rfl rfl (by omega) h) ?_
 refine j_callQ (φ:=fun v=>∃z:Int,v=.int .u64 z) call144 rfl rfl (fun w2 hH hf=>le64_c w2 b _ _ B (hB2'.mono (hbT w2 hf)) hB8) fun v hv=>?_
 obtain ⟨z,rfl⟩:=hv
 refine jN (k:=jF 2 ru198 so71 (k:=jB (_::_::_::_::_) (_::_) 0 so71 (k:=K15 (CJ.t [(1,_)] (k:=cj_reg (jM (k:=?_)))))))
 refine j_val rfl (fun _ _ h=>r_slcut (c:=c - tg.length) (l:=(B++R).length) (i:=8) ru36 so5 rfl rfl (by omega) h) ?_
 refine j_eqv (u:=.slice (some ⟨b,cut (cut o c tg.length 1) (c - tg.length) 8 1,none⟩) R.length (c - tg.length - 8)) (by rw[hlen2,hB8,Nat.add_sub_cancel_left]) ?_
 refine jA (k:=K9 (sQ fun K16=>cj_reg (jM (k:=jA (k:=jA (k:=K16 (cj_ret ?_)))))))
 exact ej_ret2 results118 rfl rfl fun w' hH hf=>⟨⟨_,_,_,rfl,hB3.mono (hbT w' hf),hH.get (i:=0) rfl rfl⟩,Hp.keepX (f:=⟨w,0,[tBuf]⟩) (hH.drop 0) hf⟩
set_option maxHeartbeats 1000000 in
theorem dfield4_c (w:World) (bb b o c k:Nat) (B:List Nat) (f t u:Int) (dv:Value) (tmp:List Value) (bs R:List Nat) (hb:Blk w bb tBuf (cBuf f t u dv tmp)) (hG:GEnc (.fix4 k B) bs) (h:Bys w b o c (bs++R)) (hc:(bs++R).length≤1000000000000):
  Calls Tryz.prog 118 #[ptr bb,.slice (some ⟨b,o,none⟩) (bs++R).length c] w (Ret fun v w'=>(∃o' c' z,v=.tuple #[.slice (some ⟨b,o',none⟩) R.length c',.nilIface]∧Bys w' b o' c' R∧Blk w' bb tBuf (cBuf k 5 z (.slice none 0 0) tmp))∧KeepX [bb] w w'):=by
 obtain ⟨tg,rfl,hV1,hB8,hk⟩:=hG
 have hl1:=hV1.pos
 rw[List.append_assoc]at h hc⊢
 have hB2:Bys w b (cut o c tg.length 1) (c - tg.length) (B++R):=by
  have:=h.drop (i:=tg.length) (by simp)
  rwa [List.drop_left]at this
 have hB2':Bys w b (cut o c tg.length 1) (c - tg.length) B:=by
  have:=hB2.take B.length
  rwa [List.take_left]at this
 have hB3:Bys w b (cut (cut o c tg.length 1) (c - tg.length) 4 1) (c - tg.length - 4) R:=by
  have:=hB2.drop (i:=4) (by simp;omega)
  have e:(B++R).drop 4=R:=by rw[← hB8,List.drop_left]
  rw[e]at this;exact this
 have hlen:(tg++(B++R)).length=tg.length+(B++R).length:=List.length_append
 have hlen2:(B++R).length=B.length+R.length:=List.length_append
 have hle2:=hB2.le
 have hbT:∀w',Fm.ok ⟨w,0,[tBuf]⟩ w'→∀b cs,Blk w b tU8 cs→Blk w' b tU8 cs:=fun w' hf=>fr_row hf rfl
 refine startJ (args:=[_,_]) [(0,_),(1,_)] 0 [tBuf] _ func118 rfl ntmps118 rfl rfl (Hp.one hb (Nat.zero_le _) rfl) ?_
 refine sQ fun K1=>cj_reg (jA (k:=jA (k:=K1 (sQ fun K2=>cj_reg (jM (k:=?_))))))
 refine j_callQ (φ:=fun v=>v=.tuple #[.int .u64 ((8*k+5:Nat):Int),.slice (some ⟨b,cut o c tg.length 1,none⟩) (B++R).length (c - tg.length),.nilIface]) call143 rfl rfl (fun w2 hH hf=>dvarint_c w2 b o c _ tg _ hV1 (by omega) (h.mono (hbT w2 hf)) hc) fun v hv=>?_
 subst hv
 refine jM (k:=jX (k:=jX (k:=jX (k:=jA (k:=jA (k:=jA (k:=K2 (sQ fun K3=>sQ fun K4=>cj_reg (jM (k:=?_))))))))))
 refine j_val rfl (fun _ _ h=>r_inil ud61 rfl h) (K4 (CJ.t [(0,_),(1,_),(6,_),(7,_),(16,_)] (k:=?_)))
 refine cj_if_f rfl (cj_skip (K3 (sQ fun K5=>cj_reg (jM (k:=jM (k:=?_))))))
 refine j_val rfl (fun _ _ h=>r_shr (q:=3) rfl rfl h) ?_
 refine j_eqv (u:=.int .u64 (k:Nat)) (congrArg (Value.int .u64) (tag_shr (k:=k) (t:=5) (by omega))) ?_
 refine j_val rfl (fun _ _ h=>r_conv ru71 ru3 rfl h) ?_
 refine j_eqv (u:=.int .i64 (k:Nat)) (congrArg (Value.int .i64) (wrap64_small (by omega) (by omega))) ?_
 refine jN (k:=jF 0 ru198 so3 (k:=jB (_::_::_::_::_) (_::_) 0 so3 (k:=K5 (sQ fun K6=>cj_reg (jM (k:=jM (k:=?_)))))))
 refine j_val rfl (fun _ _ h=>r_and rfl rfl h) ?_
 refine j_eqv (u:=.int .u64 ((5:Nat):Int)) (congrArg (Value.int .u64) (tag_and (k:=k) (t:=5) hk (by omega))) ?_
 refine j_val rfl (fun _ _ h=>r_conv ru71 ru3 rfl h) ?_
 refine j_eqv (u:=.int .i64 5) rfl ?_
 refine jN (k:=jF 1 ru198 so3 (k:=jB (_::_::_::_::_) (_::_) 0 so3 (k:=K6 (CJ.t [(0,_),(1,_)] (k:=sQ fun K7=>cj_reg (jM (k:=jN (k:=jF 3 ru198 so36 (k:=jB (_::_::_::_::_) (_::_) 0 so36 (k:=K7 (sQ fun K8=>cj_reg ?_)))))))))))
 refine jM (k:=jN (k:=jF 2 ru198 so71 (k:=jB (_::_::_::_::_) (_::_) 0 so71 (k:=K8 (sQ fun K9=>sQ fun K10=>cj_reg (jM (k:=jN (k:=jF 1 ru198 so3 (k:=jH 0 ag3 (k:=K10 (CJ.t [(0,_),(1,_),(39,_)] (k:=?_))))))))))))
 refine cj_block (sQ fun K11=>cj_reg (jQ (k:=?_)))
 refine j_eqv (u:=.bool false) rfl ?_
 refine jA (k:=K11 ?_)
 refine cj_if_f rfl (sQ fun K12=>cj_reg (jQ (k:=?_)))
 refine j_eqv (u:=.bool false) rfl ?_
 refine jA (k:=K12 ?_)
 refine cj_if_f rfl (sQ fun K13=>cj_reg (jQ (k:=?_)))
 refine j_eqv (u:=.bool false) rfl ?_
 refine jA (k:=K13 ?_)
 refine cj_if_f rfl (sQ fun K14=>cj_reg (jQ (k:=?_)))
 refine j_eqv (u:=.bool true) rfl ?_
 refine jA (k:=K14 (CJ.t [(0,_),(1,_),(102,_)] (k:=?_)))
 refine cj_if_t rfl (sQ fun K15=>sQ fun K16=>cj_reg (jM (k:=jE ru36 (k:=jS (k:=?_)))))
 refine j_eqv (u:=.bool false) (congrArg Value.bool (decide_eq_false (by omega))) ?_
 refine K16 (cj_if_f rfl (cj_skip (K15 (sQ fun K17=>cj_reg (jM (k:=jM (k:=?_)))))))
 refine j_val rfl (fun _ _ h=>r_slhi (c:=c - tg.length) (l:=(B++R).length) (i:=4) ru36 so5 rfl rfl (by omega) h) ?_
 refine j_callQ (φ:=fun v=>∃z:Int,v=.int .u32 z) call145 rfl rfl (fun w2 hH hf=>le32_c w2 b _ _ B (hB2'.mono (hbT w2 hf)) hB8) fun v hv=>?_
 obtain ⟨z,rfl⟩:=hv
 refine j_val rfl (fun _ _ h=>r_conv ru236 ru71 rfl h) (jN (k:=jF 2 ru198 so71 (k:=jB (_::_::_::_::_) (_::_) 0 so71 (k:=K17 (CJ.t [(1,_)] (k:=cj_reg (jM (k:=?_))))))))
 refine j_val rfl (fun _ _ h=>r_slcut (c:=c - tg.length) (l:=(B++R).length) (i:=4) ru36 so5 rfl rfl (by omega) h) ?_
 refine j_eqv (u:=.slice (some ⟨b,cut (cut o c tg.length 1) (c - tg.length) 4 1,none⟩) R.length (c - tg.length - 4)) (by rw[hlen2,hB8,Nat.add_sub_cancel_left]) ?_
 refine jA (k:=K9 (sQ fun K18=>cj_reg (jM (k:=jA (k:=jA (k:=K18 (cj_ret ?_)))))))
 exact ej_ret2 results118 rfl rfl fun w' hH hf=>⟨⟨_,_,_,rfl,hB3.mono (hbT w' hf),hH.get (i:=0) rfl rfl⟩,Hp.keepX (f:=⟨w,0,[tBuf]⟩) (hH.drop 0) hf⟩
abbrev tDecF:Nat:=221
def BufAt (w:World) (bb:Nat):Prop:=∃f t u dv tmp,Blk w bb tBuf (cBuf f t u dv tmp)
def BufF (w:World) (bb:Nat) (f:Fld):Prop:=match f with
 | .num k n=>n<18446744073709551616∧∃tmp,Blk w bb tBuf (cBuf (k:Nat) 0 n (.slice none 0 0) tmp)
 | .bys k D=>D.length≤1000000000000∧∃b o c tmp,Blk w bb tBuf (cBuf (k:Nat) 2 0 (.slice (some ⟨b,o,none⟩) D.length c) tmp)∧Bys w b o c D
theorem BufF.at_ {bb:Nat} {f:Fld} (h:BufF w bb f):BufAt w bb:=by
 cases f with
 |num k n=>obtain ⟨-,tmp,h⟩:=h;exact ⟨_,_,_,_,_,h⟩
 |bys k D=>obtain ⟨-,b,o,c,tmp,h, -⟩:=h;exact ⟨_,_,_,_,_,h⟩
theorem BufAt.keep {bb:Nat} (h:BufAt w bb) (k:∀cs,Blk w bb tBuf cs→Blk w' bb tBuf cs):BufAt w' bb:=by
 obtain ⟨f,t,u,dv,tmp,h⟩:=h
 exact ⟨f,t,u,dv,tmp,k _ h⟩
def SetsN (T iT:Nat) (g:FuncId) (off:Nat) (val:Nat→Value):Prop:=∀(w:World) (bb pb o k n:Nat) (cs tmp:List Value),n<18446744073709551616→Blk w bb tBuf (cBuf (k:Nat) 0 n (.slice none 0 0) tmp)→Blk w pb T cs→o+off<cs.length→
 Calls Tryz.prog g #[ptr bb,.iface iT (.pointer (some ⟨pb,o,none⟩))] w (Ret fun v w'=>v=.nilIface∧Blk w' pb T (setL cs (o+off) [val n])∧KeepX [pb] w w')
abbrev Sch:=List (Option (FuncId×Nat×(Nat→Value)))
def SchOK (T iT:Nat) (sch:Sch):Prop:=∀(k:Nat) g off val,sch[k]? =some (some (g,off,val))→SetsN T iT g off val
def apS (sch:Sch) (o:Nat) (cs:List Value) (f:Fld):List Value:=match sch[fkey f]? with
 |some (some (_,off,val))=>setL cs (o+off) [val (fnum f)]
 |_=>cs
theorem apS_len (sch:Sch) (o:Nat) (cs:List Value) (f:Fld):(apS sch o cs f).length=cs.length:=by
 unfold apS
 split
 ·rw[setL_length]
 ·rfl
theorem fold_len (sch:Sch) (o:Nat):∀(fs:List Fld) (cs:List Value),(fs.foldl (apS sch o) cs).length=cs.length
 |[],_=>rfl
 |f::r,cs=>by rw[List.foldl_cons,fold_len sch o r,apS_len]
theorem setL_in (A l B:List Value) (off:Nat) (v:Value) (h:off<l.length):setL (A++l++B) (A.length+off) [v]=A++setL l off [v]++B:=by
 simp only[setL]
 rw[List.append_assoc,List.append_assoc,List.set_append_right _ _ (Nat.le_add_right _ _),Nat.add_sub_cancel_left,List.set_append_left _ _ h]
theorem fold_in (sch:Sch) (A B:List Value) (hs:∀(k:Nat) g off val,sch[k]? =some (some (g,off,val))→off<m):∀(fs:List Fld) (l:List Value),l.length=m→fs.foldl (apS sch A.length) (A++l++B)=A++fs.foldl (apS sch 0) l++B
 |[],_,_=>rfl
 |f::r,l,hl=>by
    rw[List.foldl_cons,List.foldl_cons]
    have:apS sch A.length (A++l++B) f=A++apS sch 0 l f++B:=by
     unfold apS
     split
     ·next g off val h=>rw[setL_in _ _ _ _ _ (by rw[hl];exact hs _ _ _ _ h),Nat.zero_add]
     ·rfl
    rw[this]
    exact fold_in sch A B hs r _ (by rw[apS_len];exact hl)
end Go.Proofs.YtifdadlhmlhfiaaGreatDoor
namespace Go.Fw
open Go
section
variable {P:Program} {Q:Exit→Act→World→Prop} {n:Nat} {f:Fm} {e:Env} {H:Heap} {ops:Array Oper} {rest:List Oper} {d ty:Nat} {pos:String} {af:Array Edge}
theorem j_callIW {name:String} {x:Operand} {args:Array Operand} {vs:List Value} {T:Nat} {v0:Value} {tys:Array TypeId} {R:World→Value→World→Prop}
  (hx:ev e x=some (.iface T v0)) (hargs:evL e args.toList=some vs) (hd:Nat.blt d n=true) (hc:∀w,Hp f w H→f.ok w→∃g as',(callMethod (.iface T v0) name vs.toArray).run P w=.ok (.enter g as') w∧Calls P g as' w (Ret (R w)))
  (k:∀w v w',Hp f w H→f.ok w→R w v w'→L P ops Q n ((d,v)::e) rest w'):J P ops Q n f e H (⟨some d,.call ⟨.invoke x name,args,tys⟩,ty,pos,af,none⟩::rest):=fun w hH hf a ha=>by
 have hmap:args.map a.eval=vs.toArray:=by apply Array.toList_inj.1;rw[Array.toList_map];exact evL_ok ha hargs
 obtain ⟨g,as',hg,hcall⟩:=hc w hH hf
 unfold wpList
 rw[if_pos (by simp[Region.wanted])]
 refine .inl ?_
 have hrun:(execOp a.eval ⟨some d,.call ⟨.invoke x name,args,tys⟩,ty,pos,af,none⟩).run P w=.ok (.enter g as') w:=by
  simp only[execOp,resolve,hmap,ha.ev hx]
  simp only[Sem.run_bind,Sem.run_pure,Result.andThen_ok,invoke]
  simp
  exact hg
 unfold Oper.wp
 rw[hrun]
 refine Calls.mono hcall fun e w' he=>?_
 cases e with
 |returned v=>exact k w v w' hH hf he _ (ha.put hd)
 |panicked c=>exact he.elim
 |outgrown=>exact he.elim
end
end Go.Fw
namespace Go.Proofs.YtifdadlhmlhfiaaGreatDoor
open Go Go.Fw Go.Proofs Go.Proofs.Tryz
variable {T:Nat} {v:Value} {w w1:World}
def gkey:GFld→Nat
 | .fld f=>fkey f
 | .fix8 k _=>k
 | .fix4 k _=>k
theorem dfield_c (w:World) (bb b o c:Nat) (g:GFld) (bs R:List Nat) (hb:BufAt w bb) (hG:GEnc g bs) (h:Bys w b o c (bs++R)) (hc:(bs++R).length≤1000000000000):
  Calls Tryz.prog 118 #[ptr bb,.slice (some ⟨b,o,none⟩) (bs++R).length c] w (Ret fun v w'=>(∃o' c',v=.tuple #[.slice (some ⟨b,o',none⟩) R.length c',.nilIface]∧Bys w' b o' c' R)∧(∃t u dv tmp,Blk w' bb tBuf (cBuf (gkey g:Nat) t u dv tmp))∧(∀f,g=.fld f→BufF w' bb f)∧KeepX [bb] w w'):=by
 obtain ⟨f0,t0,u0,dv0,tmp0,hb⟩:=hb
 cases g with
 |fld f=>
  cases f with
  |num k n=>
   refine Calls.mono (dfieldNum_c w bb b o c k n _ _ _ _ _ bs R hb hG h hc) (Ret.mono fun v w' hR=>?_)
   obtain ⟨⟨o',c',h1,h2⟩,h3,h4⟩:=hR
   obtain ⟨_,_,_,_,_,_,hn⟩:=hG
   exact ⟨⟨o',c',h1,h2⟩,⟨_,_,_,_,h3⟩,fun f hf=>by cases hf;exact ⟨hn,_,h3⟩,h4⟩
  |bys k D=>
   refine Calls.mono (dfieldBys_c w bb b o c k D _ _ _ _ _ bs R hb hG h hc) (Ret.mono fun v w' hR=>?_)
   obtain ⟨⟨o',c',o2,c2,h1,h2,h3,h5⟩,h4⟩:=hR
   have hD:D.length≤1000000000000:=by
      obtain ⟨t,l,rfl,_⟩:=hG
      simp only[List.length_append]at hc
      omega
   exact ⟨⟨o',c',h1,h2⟩,⟨_,_,_,_,h3⟩,fun f hf=>by cases hf;exact ⟨hD,b,o2,c2,_,h3,h5⟩,h4⟩
 |fix8 k B=>
  refine Calls.mono (dfield8_c w bb b o c k B _ _ _ _ _ bs R hb hG h hc) (Ret.mono fun v w' hR=>?_)
  obtain ⟨⟨o',c',z,h1,h2,h3⟩,h4⟩:=hR
  exact ⟨⟨o',c',h1,h2⟩,⟨_,_,_,_,h3⟩,(fun f hf=>by cases hf),h4⟩
 |fix4 k B=>
  refine Calls.mono (dfield4_c w bb b o c k B _ _ _ _ _ bs R hb hG h hc) (Ret.mono fun v w' hR=>?_)
  obtain ⟨⟨o',c',z,h1,h2,h3⟩,h4⟩:=hR
  exact ⟨⟨o',c',h1,h2⟩,⟨_,_,_,_,h3⟩,(fun f hf=>by cases hf),h4⟩
structure DsOK (tb:Nat→Nat) (ds:List Value):Prop where
 yes:∀k,tb k≠0→∃g,ds[k]? =some (.func (.func g) #[] #[])∧∀(az:Array Value) (w:World),(callFunc g az).run Tryz.prog w=.ok (.enter g az) w
 no:∀k,tb k=0→ds[k]? =none∨ds[k]? =some .nilFunc
 few:ds.length≤1000
def Tells (iT:Nat) (mv:Value) (ds:List Value) (w:World):Prop:=∃g as',(callMethod (.iface iT mv) "loop.example/pub-profileroads/pub/goprofile.decoder" #[]).run Tryz.prog w=.ok (.enter g as') w∧
 Calls Tryz.prog g as' w (Ret fun v w'=>(∃y p c,v=.slice p ds.length c∧Own tDecF 1 y p ds.length c ds∧(y.on=true→Blk w' y.b tDecF y.cs))∧Fr 0 [] w w')
structure Reads (iT:Nat) (mv:Value) (mb bb:Nat) (ds:List Value) (tb:Nat→Nat) (fs:List Fld) (w1:World) (St:List Fld→World→Prop):Prop where
 start:St [] w1
 kx:∀pre w,St pre w→KeepX [bb,mb] w1 w
 buf:∀pre w,St pre w→BufAt w bb
 turn:∀pre w w',St pre w→KeepX [bb] w w'→BufAt w' bb→St pre w'
 skip:∀pre f w,pre++[f]<+:fs→St pre w→tb (fkey f)=0→St (pre++[f]) w
 step:∀pre f w g,pre++[f]<+:fs→St pre w→BufF w bb f→(match f with| .num k _=>tb k=1∨tb k=3| .bys k _=>tb k=2∨tb k=3)→ds[fkey f]? =some (.func (.func g) #[] #[])→
  Calls Tryz.prog g #[ptr bb,.iface iT mv] w (Ret fun v w'=>v=.nilIface∧St (pre++[f]) w')
theorem flds_cons (g:GFld×List Nat) (r:Msg):flds (g::r)=(match g.1 with| .fld f=>[f]|_=>[])++flds r:=by
 obtain ⟨g,bs⟩:=g
 cases g<;>simp[flds]
theorem BufF.keep {w':World} {bb:Nat} {f:Fld} (h:BufF w bb f) (k:Fr 0 [] w w'):BufF w' bb f:=by
 cases f with
 |num n m=>obtain ⟨h1,tmp,h⟩:=h;exact ⟨h1,tmp,k.blk h (.inr (by simp))⟩
 |bys n D=>obtain ⟨h1,b,o,c,tmp,h,h2⟩:=h;exact ⟨h1,b,o,c,tmp,k.blk h (.inr (by simp)),h2.keep k⟩
theorem genc_pos {g:GFld} {bs:List Nat} (h:GEnc g bs):0<bs.length:=by
 cases g with
 |fld f=>
  cases f with
  |num k n=>obtain ⟨t,v,rfl,h1, -⟩:=h;have:=h1.pos;simp;omega
  |bys k B=>obtain ⟨t,v,rfl,h1, -⟩:=h;have:=h1.pos;simp;omega
 |fix8 k B=>obtain ⟨t,rfl,h1, -⟩:=h;have:=h1.pos;simp;omega
 |fix4 k B=>obtain ⟨t,rfl,h1, -⟩:=h;have:=h1.pos;simp;omega
set_option maxHeartbeats 2000000 in
theorem dmsg_c (w:World) (bb mb iT T:Nat) (mv:Value) (ds:List Value) (tb:Nat→Nat) (m:Msg) (k0:Nat) (mcs:List Value) (hm:MOK tb m) (htb:∀k,tb k≤3) (hds:DsOK tb ds) (hbuf:BufF w bb (.bys k0 (mB m))) (hmb:Blk w mb T mcs) (hT8:T≠tU8) (hTD:T≠tDecF)
  (hdec:∀w',Fr 0 [] w w'→Tells iT mv ds w') (St:World→List Fld→World→Prop) (hSt:∀w1,Fr 0 [] w w1→Reads iT mv mb bb ds tb (flds m) w1 (St w1)):
  Calls Tryz.prog 105 #[ptr bb,.iface iT mv] w (Ret fun v w'=>v=.nilIface∧∃w1,Fr 0 [] w w1∧St w1 (flds m) w'):=by
 obtain ⟨hD,b,o,c,tmp,hb,hB⟩:=hbuf
 have hc0:=mc (f:=⟨w,0,[]⟩) hb rfl
 refine startJ (args:=[_,_]) [(0,_),(1,_)] 0 [] [] Tryz.func105 rfl Tryz.ntmps105 rfl rfl .nil ?_
 refine sQ fun K1=>cj_reg (jA (k:=K1 (sQ fun K2=>sQ fun K3=>cj_reg (jM (k:=?_)))))
 refine j_callQ (φ:=fun v=>v=.nilIface) Tryz.call117 rfl rfl (fun w3 hH hf=>checkType_c w3 bb _ 2 _ _ _ (hf.blk hb (.inr (by simp)))) fun v hv=>?_
 subst hv
 refine jA (k:=K3 (sQ fun K4=>cj_reg (jM (k:=?_))))
 refine j_val rfl (fun _ _ h=>r_inil ud61 rfl h) (K4 (cj_if_f rfl (cj_skip (K2 (sQ fun K5=>cj_reg (jM (k:=?_)))))))
 refine j_callIW (R:=fun w1 v w'=>(∃y p c,v=.slice p ds.length c∧Own tDecF 1 y p ds.length c ds∧(y.on=true→Blk w' y.b tDecF y.cs))∧Fr 0 [] w1 w') rfl rfl rfl (fun w1 hH hf=>hdec w1 hf) fun w0 v w1 hH0 hf0 hR=>?_
 obtain ⟨⟨yd,pd,cd,rfl,hOd,hyd⟩,hf1⟩:=hR
 have hfr:Fr 0 [] w w1:=frQ hf0 hf1
 have hb1:=hfr.blk hb (.inr (by simp))
 have hB1:=hB.keep hfr
 have hmb1:=hfr.blk hmb (.inr (by simp))
 have hc0:=mc (f:=⟨w1,0,[]⟩) hb1 rfl
 have hRd:=hSt w1 hfr
 refine J.begin ⟨w1,0,[]⟩ [] ok_refl .nil ?_
 refine jA (k:=K5 (sQ fun K6=>cj_reg (jM (k:=jN (k:=jF 3 ru198 so36 (k:=jL ag36 hc0 3 (k:=jA (k:=K6 (CJ.t [(0,_),(1,_),(6,_),(7,_)] (k:=sQ fun K7=>cj_block ?_))))))))))
 intro w2 hH2 hf2
 refine c_loop (σ:=Msg×Nat×Nat×List Fld) (fun s=>[(0,ptr bb),(1,.iface iT mv),(6,.slice pd ds.length cd),(7,.slice (some ⟨b,s.2.1,none⟩) (mB s.1).length s.2.2.1)])
  (fun s w'=>s.2.2.2++flds s.1=flds m∧(∀g∈s.1,g∈m)∧Bys w' b s.2.1 s.2.2.1 (mB s.1)∧(mB s.1).length≤1000000000000∧∃w3,Fr 0 [] w1 w3∧w3=w1∧St w1 s.2.2.2 w') (fun s=>s.1.length)
  (m,o,c,[]) ⟨rfl,rfl,rfl,rfl,trivial⟩ ⟨by simp,fun _ h=>h,hB1.keep hf2,hD,w1,Fr.refl _ _ _,rfl,?_⟩ ?_
 ·exact hRd.turn [] w1 w2 hRd.start (KeepX.of hf2|>.mono (by simp)) ((hRd.buf [] w1 hRd.start).keep fun cs hk=>hf2.blk hk (.inr (by simp)))
 rintro ⟨rest,o1,c1,pre⟩ w3 ⟨hfs,hin,hB3,hlen3, -, -, -,hS3⟩ KL hKL
 try dsimp only at hfs hin hB3 hlen3 hS3
 refine C.begin ⟨w3,0,[]⟩ [] ok_refl .nil ?_
 try dsimp only
 refine sQ fun K8=>sQ fun K9=>cj_reg (jM (k:=jE ru36 (k:=jG (k:=K9 ?_))))
 refine cj_dec rfl (fun h23=>?_) (fun h23=>?_)
 ·obtain ⟨g,rest',rfl⟩:∃g r,rest=g::r:=by
   cases rest with
   |nil=>simp[mB]at h23
   |cons g r=>exact ⟨g,r,rfl⟩
  have hgm:g∈m:=hin g (by simp)
  have hmBc:mB (g::rest')=g.2++mB rest':=by simp[mB]
  have hG:GEnc g.1 g.2:=hm.enc g hgm
  rw[hmBc]at hB3 hlen3⊢
  refine cj_skip (K8 (cj_block (sQ fun K10=>cj_reg (jA (k:=K10 (sQ fun K11=>cj_reg (jM (k:=jM (k:=?_)))))))))
  refine j_callE (R:=fun w4 v w'=>(∃o' c',v=.tuple #[.slice (some ⟨b,o',none⟩) (mB rest').length c',.nilIface]∧Bys w' b o' c' (mB rest'))∧(∃t u dv tmp,Blk w' bb tBuf (cBuf (gkey g.1:Nat) t u dv tmp))∧(∀f,g.1=.fld f→BufF w' bb f)∧KeepX [bb] w4 w') Tryz.call118 rfl rfl (fun w4 hH hf=>dfield_c w4 bb b o1 c1 g.1 g.2 (mB rest') ((hRd.buf _ _ hS3).keep fun cs hk=>hf.blk hk (.inr (by simp))) hG (hB3.keep hf) hlen3) fun w4 v w5 hH4 hf4 hR=>?_
  obtain ⟨⟨o',c',rfl,hB5⟩,⟨t5,u5,dv5,tmp5,hb5⟩,hF5,hk5⟩:=hR
  have hS5:St w1 pre w5:=hRd.turn pre w3 w5 hS3 (hk5.afterF hf4) ⟨_,_,_,_,_,hb5⟩
  have hkx:=hRd.kx _ _ hS5
  have hc0:=mc (f:=⟨w5,0,[]⟩) hb5 rfl
  have hdv:∀v,ds[gkey g.1]? =some v→∃db,pd=some ⟨db,0,none⟩∧∀w',Fm.ok ⟨w5,0,[]⟩ w'→∀(j:Nat) (u:Value),[v][j]? =some u→w'.cell? ⟨db,0+gkey g.1*1+j,none⟩=some u:=fun v hv=>by
   have hl:=(List.getElem?_eq_some_iff.1 hv).1
   obtain ⟨hon,hp⟩:=hOd.pos (by omega)
   refine ⟨yd.b,hp,fun w' hf j u hu=>?_⟩
   have h1:=hyd hon
   have hne:yd.b∉[bb,mb]:=by
    simp only[List.mem_cons,List.mem_nil_iff,or_false,not_or]
    exact ⟨h1.ne hb1 (by decide),h1.ne hmb1 (Ne.symm hTD)⟩
   have h5:Blk w' yd.b yd.T yd.cs:=by rw[hOd.hT];exact hf.blk (hkx.blk h1 hne) (.inr (by simp))
   cases j with
   |zero=>
    simp at hu;subst hu
    exact hOd.cell h5 hv
   |succ j=>simp at hu
  refine J.begin ⟨w5,0,[]⟩ [] ok_refl .nil ?_
  refine jM (k:=jX (k:=jX (k:=jA (k:=jA (k:=K11 (CJ.t [(0,_),(1,_),(6,_),(7,_),(8,_)] (k:=sQ fun K12=>sQ fun K13=>cj_reg (jM (k:=?_)))))))))
  refine j_val rfl (fun _ _ h=>r_inil ud61 rfl h) (K13 (cj_if_f rfl (cj_skip (K12 (sQ fun K14=>sQ fun K15=>cj_reg (jM (k:=jN (k:=jF 0 ru198 so3 (k:=jL ag3 hc0 0 (k:=jM (k:=jE ru217 (k:=?_))))))))))))
  refine j_val rfl (fun _ _ h=>r_geq rfl rfl h) ?_
  by_cases hkl:ds.length≤gkey g.1
  ·refine j_eqv (u:=.bool true) (congrArg Value.bool (decide_eq_true (by omega))) ?_
   have htk:tb (gkey g.1)=0:=Decidable.byContradiction fun h=>by obtain ⟨gf,h2, -⟩:=hds.yes (gkey g.1) h;have:=(List.getElem?_eq_some_iff.1 h2).1;omega
   refine jM (k:=?_)
   refine j_gf rfl rfl rfl rfl (j_gf rfl rfl rfl rfl (j_gf rfl rfl rfl rfl (j_gf rfl rfl rfl rfl (j_gf rfl rfl rfl rfl (j_gf rfl rfl rfl rfl (j_gf rfl rfl rfl rfl (j_gf rfl rfl rfl rfl (jT (k:=K15 (CJ.t [(0,_),(1,_),(6,_),(7,_),(49,_)] (k:=?_)))))))))))
   refine cj_if_t rfl (cj_exit (ej_then_exit (ej_blk_hit (ej_then ?_))))
   first
   |exact fun w' hH hf=>hKL (rest',o',c',pre++[f]) _ w' ⟨by rw[← hfs,flds_cons,hf1];simp,fun g hg=>hin g (by simp[hg]),hB7.keep hf,by have h:=hlen3;simp only[List.length_append]at h;show (mB rest').length≤1000000000000;omega,w1,Fr.refl _ _ _,rfl,hRd.turn _ w7 w' hS7 ((KeepX.of hf).mono (by simp)) ((hRd.buf _ _ hS7).keep fun cs hk=>hf.blk hk (.inr (by simp)))⟩ (by simp) ⟨rfl,rfl,rfl,rfl,trivial⟩
   |exact fun w' hH hf=>by
      have ht0:=htk
      refine hKL (rest',o',c',pre++(match g.1 with| .fld f=>[f]|_=>[])) _ w' ⟨by rw[← hfs,flds_cons];simp,fun g hg=>hin g (by simp[hg]),hB5.keep hf,by have h:=hlen3;simp only[List.length_append]at h;show (mB rest').length≤1000000000000;omega,w1,Fr.refl _ _ _,rfl,?_⟩ (by simp) sR
      have hS:=hRd.turn _ w5 w' hS5 ((KeepX.of hf).mono (by simp)) ((hRd.buf _ _ hS5).keep fun cs hk=>hf.blk hk (.inr (by simp)))
      cases hg1:g.1 with
      |fld f=>
       rw[hg1]at ht0
       exact hRd.skip pre f w' (by rw[← hfs,flds_cons,hg1];exact ⟨flds rest',by simp⟩) hS ht0
      |fix8 k B=>simpa using hS
      |fix4 k B=>simpa using hS
  ·refine j_eqv (u:=.bool false) (congrArg Value.bool (decide_eq_false (by omega))) ?_
   obtain ⟨dv,hdv0⟩:∃dv,ds[gkey g.1]? =some dv:=⟨_,List.getElem?_eq_getElem (by omega)⟩
   obtain ⟨db,rfl,hdc⟩:=hdv dv hdv0
   refine jM (k:=?_)
   refine j_gt rfl rfl (jM (k:=?_))
   refine j_gt rfl rfl (jM (k:=?_))
   refine j_gt rfl rfl (jN (k:=?_))
   refine j_gt rfl rfl (jF 0 ru198 so3 (k:=?_))
   refine j_gt rfl rfl (jL ag3 hc0 0 (k:=?_))
   refine j_gt rfl rfl (jJ ru217 so221 (k:=?_))
   refine j_gt rfl rfl (jL ag221 hdc 0 (k:=?_))
   have hdk:(∃gf,dv=.func (.func gf) #[] #[]∧tb (gkey g.1)≠0∧∀(az:Array Value) (w:World),(callFunc gf az).run Tryz.prog w=.ok (.enter gf az) w)∨(dv=.nilFunc∧tb (gkey g.1)=0):=by
    by_cases h0:tb (gkey g.1)=0
    ·rcases hds.no _ h0 with h|h
     ·rw[h]at hdv0;cases hdv0
     ·rw[h]at hdv0;exact .inr ⟨(Option.some.inj hdv0).symm,h0⟩
    ·obtain ⟨gf,h,h2⟩:=hds.yes _ h0
     rw[h]at hdv0;exact .inl ⟨gf,(Option.some.inj hdv0).symm,h0,h2⟩
   refine j_gt rfl rfl ?_
   rcases hdk with ⟨gf,rfl,htk,hgf⟩|⟨rfl,htk⟩
   ·refine j_val rfl (fun _ _ h=>r_feql ud221 rfl h) (jK (k:=K15 (CJ.t [(0,_),(1,_),(6,_),(7,_),(49,_)] (k:=?_))))
    refine cj_if_f rfl (cj_skip (K14 (sQ fun K16=>cj_reg (jM (k:=jM (k:=jN (k:=jF 0 ru198 so3 (k:=jL ag3 hc0 0 (k:=jJ ru217 so221 (k:=jL ag221 hdc 0 (k:=jM (k:=jM (k:=?_)))))))))))))
    refine j_callV (g:=gf) (us:=[]) (R:=fun w6 v w'=>v=.nilIface∧∃f,g.1=.fld f∧St w1 (pre++[f]) w') hgf rfl rfl rfl (fun w6 hH hf=>?_) fun w6 v w7 hH6 hf6 hR=>?_
    ·obtain ⟨f,hf1⟩:∃f,g.1=.fld f:=by
      have hw:=hm.wire g hgm
      cases hg:g.1 with
      |fld f=>exact ⟨f,rfl⟩
      |fix8 k B=>rw[hg]at hw htk;exact absurd hw htk
      |fix4 k B=>rw[hg]at hw htk;exact absurd hw htk
     have hp:pre++[f]<+:flds m:=by
      rw[← hfs,flds_cons,hf1]
      exact ⟨flds rest',by simp⟩
     have hw:=hm.wire g hgm
     rw[hf1]at hw htk hdv0
     refine Calls.mono (hRd.step pre f w6 gf hp (hRd.turn pre w5 w6 hS5 ((KeepX.of hf).mono (by simp)) ((hRd.buf _ _ hS5).keep fun cs hk=>hf.blk hk (.inr (by simp)))) ((hF5 f hf1).keep hf) ?_ hdv0) (Ret.mono fun v w' h=>⟨h.1,f,hf1,h.2⟩)
     have h3:=htb (fkey f)
     have htk':tb (fkey f)≠0:=htk
     cases f with
     |num k n=>have hw':tb k≠2:=hw;simp only[fkey]at h3 htk'⊢;omega
     |bys k D=>have hw':tb k≠1:=hw;simp only[fkey]at h3 htk'⊢;omega
    obtain ⟨rfl,f,hf1,hS7⟩:=hR
    have hB7:Bys w7 b o' c' (mB rest'):=by
     obtain ⟨hle,csB,hbB,hatB⟩:=hB5
     refine ⟨hle,csB,?_,hatB⟩
     obtain ⟨cs0,hb0, -⟩:=hB1.row
     have hne:b∉[bb,mb]:=by
      simp only[List.mem_cons,List.mem_nil_iff,or_false,not_or]
      exact ⟨hb0.ne hb1 (by decide),hb0.ne hmb1 (Ne.symm hT8)⟩
     have h1:=hkx.blk hb0 hne
     have h2:=(hRd.kx _ _ hS7).blk hb0 hne
     have e:cs0=csB:=by
      have h3:w5.heap[b]? =some (.cells cs0.toArray tU8 (0,0)):=h1
      have h4:w5.heap[b]? =some (.cells csB.toArray tU8 (0,0)):=hbB
      rw[h3]at h4
      injection h4 with h4
      injection h4 with h4
      simpa using h4
     rw[← e];exact h2
    refine J.begin ⟨w7,0,[]⟩ [] ok_refl .nil ?_
    refine jA (k:=K16 (sQ fun K17=>cj_reg (jM (k:=?_))))
    refine j_val rfl (fun _ _ h=>r_inil ud61 rfl h) (K17 (CJ.t [(0,_),(1,_),(6,_),(7,_),(9,_),(61,_)] (k:=?_)))
    refine cj_if_f rfl (cj_skip (ej_blk (ej_then ?_)))
    first
    |exact fun w' hH hf=>hKL (rest',o',c',pre++[f]) _ w' ⟨by rw[← hfs,flds_cons,hf1];simp,fun g hg=>hin g (by simp[hg]),hB7.keep hf,by have h:=hlen3;simp only[List.length_append]at h;show (mB rest').length≤1000000000000;omega,w1,Fr.refl _ _ _,rfl,hRd.turn _ w7 w' hS7 ((KeepX.of hf).mono (by simp)) ((hRd.buf _ _ hS7).keep fun cs hk=>hf.blk hk (.inr (by simp)))⟩ (by simp) ⟨rfl,rfl,rfl,rfl,trivial⟩
    |exact fun w' hH hf=>by
       have ht0:=htk
       refine hKL (rest',o',c',pre++(match g.1 with| .fld f=>[f]|_=>[])) _ w' ⟨by rw[← hfs,flds_cons];simp,fun g hg=>hin g (by simp[hg]),hB5.keep hf,by have h:=hlen3;simp only[List.length_append]at h;show (mB rest').length≤1000000000000;omega,w1,Fr.refl _ _ _,rfl,?_⟩ (by simp) sR
       have hS:=hRd.turn _ w5 w' hS5 ((KeepX.of hf).mono (by simp)) ((hRd.buf _ _ hS5).keep fun cs hk=>hf.blk hk (.inr (by simp)))
       cases hg1:g.1 with
       |fld f=>
        rw[hg1]at ht0
        exact hRd.skip pre f w' (by rw[← hfs,flds_cons,hg1];exact ⟨flds rest',by simp⟩) hS ht0
       |fix8 k B=>simpa using hS
       |fix4 k B=>simpa using hS
   ·refine j_val rfl (fun _ _ h=>r_feqlN ud221 rfl h) (jK (k:=K15 ?_))
    refine cj_if_t rfl (cj_exit (ej_then_exit (ej_blk_hit (ej_then ?_))))
    first
    |exact fun w' hH hf=>hKL (rest',o',c',pre++[f]) _ w' ⟨by rw[← hfs,flds_cons,hf1];simp,fun g hg=>hin g (by simp[hg]),hB7.keep hf,by have h:=hlen3;simp only[List.length_append]at h;show (mB rest').length≤1000000000000;omega,w1,Fr.refl _ _ _,rfl,hRd.turn _ w7 w' hS7 ((KeepX.of hf).mono (by simp)) ((hRd.buf _ _ hS7).keep fun cs hk=>hf.blk hk (.inr (by simp)))⟩ (by simp) ⟨rfl,rfl,rfl,rfl,trivial⟩
    |exact fun w' hH hf=>by
       have ht0:=htk
       refine hKL (rest',o',c',pre++(match g.1 with| .fld f=>[f]|_=>[])) _ w' ⟨by rw[← hfs,flds_cons];simp,fun g hg=>hin g (by simp[hg]),hB5.keep hf,by have h:=hlen3;simp only[List.length_append]at h;show (mB rest').length≤1000000000000;omega,w1,Fr.refl _ _ _,rfl,?_⟩ (by simp) sR
       have hS:=hRd.turn _ w5 w' hS5 ((KeepX.of hf).mono (by simp)) ((hRd.buf _ _ hS5).keep fun cs hk=>hf.blk hk (.inr (by simp)))
       cases hg1:g.1 with
       |fld f=>
        rw[hg1]at ht0
        exact hRd.skip pre f w' (by rw[← hfs,flds_cons,hg1];exact ⟨flds rest',by simp⟩) hS ht0
       |fix8 k B=>simpa using hS
       |fix4 k B=>simpa using hS
 ·refine cj_exit (K7 (sQ fun K18=>cj_reg (jA (k:=K18 (cj_ret ?_)))))
  exact ej_ret1 Tryz.results105 rfl fun w' hH hf=>⟨rfl,w1,hfr,by
   have hr:rest=[]:=by
    cases rest with
    |nil=>rfl
    |cons g r=>
     have hg0:0<g.2.length:=by
       have:=hm.enc g (hin g (by simp))
       obtain ⟨g,bs⟩:=g
       exact genc_pos this
     simp only[mB,List.flatMap_cons,List.length_append]at h23
     omega
   subst hr
   have hp:pre=flds m:=by rw[← hfs];simp[flds]
   rw[← hp]
   exact hRd.turn pre w3 w' hS3 ((KeepX.of hf).mono (by simp)) ((hRd.buf _ _ hS3).keep fun cs hk=>hf.blk hk (.inr (by simp)))⟩
theorem dInt64_c (w:World) (bb pb T off:Nat) (cs:List Value) (k:Int) (n:Nat) (dv:Value) (tmp:List Value) (hb:Blk w bb tBuf (cBuf k 0 n dv tmp)) (hp:Blk w pb T cs) (hT:Nat.beq T tBuf=false) (ho:off<cs.length):
  Calls Tryz.prog 205 #[ptr bb,.pointer (some ⟨pb,off,none⟩)] w (Ret fun v w'=>v=.nilIface∧Blk w' pb T (setL cs off [.int .i64 (IntKind.i64.wrap (n:Nat))])∧KeepX [pb] w w'):=by
 have hW:[T].all (fun t=> !Nat.beq t tBuf)=true:=by simp only[List.all_cons,hT,Bool.not_false,List.all_nil,Bool.and_self]
 have hc0:=mc (f:=⟨w,0,[T]⟩) hb hW
 refine startJ (args:=[_,_]) [(0,_),(1,_)] 0 [T] _ func205 rfl ntmps205 rfl rfl (Hp.one hp (Nat.zero_le _) (by simp)) ?_
 refine sQ fun K1=>cj_reg (jA (k:=K1 (sQ fun K2=>sQ fun K3=>cj_reg (jM (k:=?_)))))
 refine j_callQ (φ:=fun v=>v=.nilIface) call117 rfl rfl (fun w3 hH hf=>checkType_c w3 bb k 0 n dv tmp (fr_row hf hW _ _ hb)) fun v hv=>?_
 subst hv
 refine jA (k:=K3 (sQ fun K4=>cj_reg (jM (k:=?_))))
 refine j_val rfl (fun _ _ h=>r_inil ud61 rfl h) (K4 (cj_if_f rfl (cj_skip (K2 (sQ fun K5=>cj_reg (jM (k:=jM (k:=jN (k:=jF 2 ru198 so71 (k:=jL ag71 hc0 2 (k:=?_)))))))))))
 refine j_val rfl (fun _ _ h=>r_conv ru71 ru2 rfl h) (jN (k:=?_))
 refine j_store (y:=⟨pb,T,cs,true,true,none⟩) (o:=off) 0 rfl rfl rfl rfl so2 rfl rfl rfl rfl (Nat.ble_eq_true_of_le (show off+1≤cs.length by omega)) ?_
 refine K5 (CJ.t [] (k:=sQ fun K6=>cj_reg (jA (k:=K6 (cj_ret ?_)))))
 exact ej_ret1 results205 rfl fun w' hH hf=>⟨rfl,hH.get (i:=0) rfl rfl,Hp.keepX (f:=⟨w,0,[T]⟩) (hH.drop 0) hf⟩
theorem dUint64_c (w:World) (bb pb T off:Nat) (cs:List Value) (k:Int) (n:Nat) (dv:Value) (tmp:List Value) (hb:Blk w bb tBuf (cBuf k 0 n dv tmp)) (hp:Blk w pb T cs) (hT:Nat.beq T tBuf=false) (ho:off<cs.length):
  Calls Tryz.prog 233 #[ptr bb,.pointer (some ⟨pb,off,none⟩)] w (Ret fun v w'=>v=.nilIface∧Blk w' pb T (setL cs off [.int .u64 (n:Nat)])∧KeepX [pb] w w'):=by
 have hW:[T].all (fun t=> !Nat.beq t tBuf)=true:=by simp only[List.all_cons,hT,Bool.not_false,List.all_nil,Bool.and_self]
 have hc0:=mc (f:=⟨w,0,[T]⟩) hb hW
 refine startJ (args:=[_,_]) [(0,_),(1,_)] 0 [T] _ func233 rfl ntmps233 rfl rfl (Hp.one hp (Nat.zero_le _) (by simp)) ?_
 refine sQ fun K1=>cj_reg (jA (k:=K1 (sQ fun K2=>sQ fun K3=>cj_reg (jM (k:=?_)))))
 refine j_callQ (φ:=fun v=>v=.nilIface) call117 rfl rfl (fun w3 hH hf=>checkType_c w3 bb _ _ _ _ _ (fr_row hf hW _ _ hb)) fun v hv=>?_
 subst hv
 refine jA (k:=K3 (sQ fun K4=>cj_reg (jM (k:=?_))))
 refine j_val rfl (fun _ _ h=>r_inil ud61 rfl h) (K4 (cj_if_f rfl (cj_skip (K2 (sQ fun K5=>cj_reg (jM (k:=jM (k:=jN (k:=jF 2 ru198 so71 (k:=jL ag71 hc0 2 (k:=jN (k:=?_))))))))))))
 refine j_store (y:=⟨pb,T,cs,true,true,none⟩) (o:=off) 0 rfl rfl rfl rfl so71 rfl rfl rfl rfl (Nat.ble_eq_true_of_le (show off+1≤cs.length by omega)) ?_
 refine K5 (CJ.t [] (k:=sQ fun K6=>cj_reg (jA (k:=K6 (cj_ret ?_)))))
 exact ej_ret1 results233 rfl fun w' hH hf=>⟨rfl,hH.get (i:=0) rfl rfl,Hp.keepX (f:=⟨w,0,[T]⟩) (hH.drop 0) hf⟩
theorem wrap_ne {n:Nat} (hn:n<18446744073709551616):IntKind.i64.wrap (n:Nat)=0↔n=0:=by
 simp[IntKind.wrap,IntKind.bits,IntKind.signed];omega
theorem dBool_c (w:World) (bb pb T off:Nat) (cs:List Value) (k:Int) (n:Nat) (dv:Value) (tmp:List Value) (hb:Blk w bb tBuf (cBuf k 0 n dv tmp)) (hp:Blk w pb T cs) (hT:Nat.beq T tBuf=false) (ho:off<cs.length) (hn:n<18446744073709551616):
  Calls Tryz.prog 240 #[ptr bb,.pointer (some ⟨pb,off,none⟩)] w (Ret fun v w'=>v=.nilIface∧Blk w' pb T (setL cs off [.bool (decide (n≠0))])∧KeepX [pb] w w'):=by
 have hW:[T].all (fun t=> !Nat.beq t tBuf)=true:=by simp only[List.all_cons,hT,Bool.not_false,List.all_nil,Bool.and_self]
 have hc0:=mc (f:=⟨w,0,[T]⟩) hb hW
 refine startJ (args:=[_,_]) [(0,_),(1,_)] 0 [T] _ func240 rfl ntmps240 rfl rfl (Hp.one hp (Nat.zero_le _) (by simp)) ?_
 refine sQ fun K1=>cj_reg (jA (k:=K1 (sQ fun K2=>sQ fun K3=>cj_reg (jM (k:=?_)))))
 refine j_callQ (φ:=fun v=>v=.nilIface) call117 rfl rfl (fun w3 hH hf=>checkType_c w3 bb _ _ _ _ _ (fr_row hf hW _ _ hb)) fun v hv=>?_
 subst hv
 refine jA (k:=K3 (sQ fun K4=>cj_reg (jM (k:=?_))))
 refine j_val rfl (fun _ _ h=>r_inil ud61 rfl h) (K4 (cj_if_f rfl (cj_skip (K2 (sQ fun K5=>sQ fun K6=>cj_reg (jM (k:=jN (k:=jF 2 ru198 so71 (k:=jL ag71 hc0 2 (k:=?_))))))))))
 refine j_val rfl (fun _ _ h=>r_conv ru71 ru2 rfl h) (jQ (k:=K6 (CJ.t [(1,_),(16,_)] (k:=?_))))
 refine cj_dec rfl (fun h16=>?_) (fun h16=>?_)
 ·have hz:decide (n≠0)=false:=decide_eq_false (by have:=(wrap_ne hn).1 h16;omega)
  refine cj_reg (jM (k:=jN (k:=?_)))
  refine j_store (y:=⟨pb,T,cs,true,true,none⟩) (o:=off) 0 rfl rfl rfl rfl so4 rfl rfl rfl rfl (Nat.ble_eq_true_of_le (show off+1≤cs.length by omega)) ?_
  refine K5 (sQ fun K7=>cj_reg (jA (k:=K7 (cj_ret ?_))))
  exact ej_ret1 results240 rfl fun w' hH hf=>⟨rfl,by rw[hz];exact hH.get (i:=0) rfl rfl,Hp.keepX (f:=⟨w,0,[T]⟩) (hH.drop 0) hf⟩
 ·have hz:decide (n≠0)=true:=decide_eq_true (fun h=>h16 ((wrap_ne hn).2 h))
  refine cj_reg (jM (k:=jN (k:=?_)))
  refine j_store (y:=⟨pb,T,cs,true,true,none⟩) (o:=off) 0 rfl rfl rfl rfl so4 rfl rfl rfl rfl (Nat.ble_eq_true_of_le (show off+1≤cs.length by omega)) ?_
  refine K5 (sQ fun K8=>cj_reg (jA (k:=K8 (cj_ret ?_))))
  exact ej_ret1 results240 rfl fun w' hH hf=>⟨rfl,by rw[hz];exact hH.get (i:=0) rfl rfl,Hp.keepX (f:=⟨w,0,[T]⟩) (hH.drop 0) hf⟩
theorem dString_c (w:World) (bb pb T off:Nat) (cs:List Value) (k u:Int) (b o c:Nat) (D:List Nat) (s:ByteArray) (tmp:List Value) (hb:Blk w bb tBuf (cBuf k 2 u (.slice (some ⟨b,o,none⟩) D.length c) tmp)) (hp:Blk w pb T cs) (hT:Nat.beq T tBuf=false) (ho:off<cs.length) (hB:Bys w b o c D) (hs:sB s=D) (hT8:Nat.beq T tU8=false):
  Calls Tryz.prog 217 #[ptr bb,.pointer (some ⟨pb,off,none⟩)] w (Ret fun v w'=>v=.nilIface∧Blk w' pb T (setL cs off [.string s])∧KeepX [pb] w w'):=by
 have hW:[T].all (fun t=> !Nat.beq t tBuf)=true:=by simp only[List.all_cons,hT,Bool.not_false,List.all_nil,Bool.and_self]
 have hW8:[T].all (fun t=> !Nat.beq t tU8)=true:=by simp only[List.all_cons,hT8,Bool.not_false,List.all_nil,Bool.and_self]
 have hc0:=mc (f:=⟨w,0,[T]⟩) hb hW
 refine startJ (args:=[_,_]) [(0,_),(1,_)] 0 [T] _ func217 rfl ntmps217 rfl rfl (Hp.one hp (Nat.zero_le _) (by simp)) ?_
 refine sQ fun K1=>cj_reg (jA (k:=K1 (sQ fun K2=>sQ fun K3=>cj_reg (jM (k:=?_)))))
 refine j_callQ (φ:=fun v=>v=.nilIface) call117 rfl rfl (fun w3 hH hf=>checkType_c w3 bb _ _ _ _ _ (fr_row hf hW _ _ hb)) fun v hv=>?_
 subst hv
 refine jA (k:=K3 (sQ fun K4=>cj_reg (jM (k:=?_))))
 refine j_val rfl (fun _ _ h=>r_inil ud61 rfl h) (K4 (cj_if_f rfl (cj_skip (K2 (sQ fun K5=>cj_reg (jM (k:=jM (k:=jN (k:=jF 3 ru198 so36 (k:=jL ag36 hc0 3 (k:=?_)))))))))))
 refine j_valw rfl (fun a w1 ha hH hf=>r_b2s (s:=s) ud36 ud5 ud9 rfl (by rw[hs]) (fun j kk hj=>(hB.mono (fr_row hf hW8)).at_ j kk (by rw[← hs];exact hj)) ha) ?_
 refine jN (k:=?_)
 refine j_store (y:=⟨pb,T,cs,true,true,none⟩) (o:=off) 0 rfl rfl rfl rfl so9 rfl rfl rfl rfl (Nat.ble_eq_true_of_le (show off+1≤cs.length by omega)) ?_
 refine K5 (CJ.t [] (k:=sQ fun K6=>cj_reg (jA (k:=K6 (cj_ret ?_)))))
 exact ej_ret1 results217 rfl fun w' hH hf=>⟨rfl,hH.get (i:=0) rfl rfl,Hp.keepX (f:=⟨w,0,[T]⟩) (hH.drop 0) hf⟩
abbrev vI (n:Nat):Value:=.int .i64 (IntKind.i64.wrap (n:Nat))
abbrev vU (n:Nat):Value:=.int .u64 (n:Nat)
abbrev vB (n:Nat):Value:=.bool (decide (n≠0))
theorem Own.all {b:Nat} {cs:List Value}:Own T 1 ⟨b,T,cs,true,true,none⟩ (some ⟨b,0,none⟩) cs.length cs.length cs:=⟨rfl,rfl,rfl,by simp,Nat.le_refl _,.inl ⟨rfl,rfl,⟨[],by simp⟩,by simp⟩⟩
def NumD (T:Nat) (h:FuncId) (val:Nat→Value):Prop:=∀(w:World) (bb pb o k n:Nat) (cs tmp:List Value),n<18446744073709551616→Blk w bb tBuf (cBuf (k:Nat) 0 n (.slice none 0 0) tmp)→Blk w pb T cs→o<cs.length→
 Calls Tryz.prog h #[ptr bb,.pointer (some ⟨pb,o,none⟩)] w (Ret fun v w'=>v=.nilIface∧Blk w' pb T (setL cs o [val n])∧KeepX [pb] w w')
theorem cI (hT:Nat.beq T tBuf=false):NumD T 205 vI:=fun w bb pb _ _ _ _ _ _ hb hp ho=>dInt64_c w bb pb _ _ _ _ _ _ _ hb hp hT ho
theorem cU (hT:Nat.beq T tBuf=false):NumD T 233 vU:=fun w bb pb _ _ _ _ _ _ hb hp ho=>dUint64_c w bb pb _ _ _ _ _ _ _ hb hp hT ho
theorem cB (hT:Nat.beq T tBuf=false):NumD T 240 vB:=fun w bb pb _ _ _ _ _ hn hb hp ho=>dBool_c w bb pb _ _ _ _ _ _ _ hb hp hT ho hn
theorem setsN_of {iT sT g h off fi ft x0 k0 k1 y0 y1 y2 y3 y4 y5 y6 y7:Nat} {p0 p1 p2 p3 p4 p5 p6 p7:String} {z0 z1 z2 z3 z4 z5 z6 z7:Array Edge} {tys:Array TypeId} {fn:Func} {fs:Array Field} {sz te:Nat} {val:Nat→Value} (hf:Tryz.prog.funcs[g]? =some fn)
  (hb:fn.body=some (.seq (.region k0 #[⟨some 4,.assign (.const .nilIface),y0,p0,z0,none⟩] false) (.seq (.region k1 #[⟨some 5,.move (.tmp 0),y1,p1,z1,none⟩,⟨some 6,.move (.tmp 1),y2,p2,z2,none⟩,⟨some 7,.typeAssert (.tmp 6) x0 iT false,y3,p3,z3,none⟩,⟨some 8,.nilCheck (.tmp 7),y4,p4,z4,none⟩,⟨some 9,.fieldAddr sT (.tmp 8) fi,y5,p5,z5,none⟩,⟨some 10,.call ⟨.value (.func h), #[.tmp 5,.tmp 9],tys⟩,y6,p6,z6,none⟩,⟨some 4,.assign (.tmp 10),y7,p7,z7,none⟩] false) .ret)))
  (hm:fn.ntmps=11) (hr:fn.results= #[.tmp 4]) (hu:∀w,(underlying iT).run Tryz.prog w=.ok (.pointer te) w) (hs:∀w,(underlying sT).run Tryz.prog w=.ok (.struct fs) w) (hq:(fs[fi]?).map (fun x=>(x.offset,x.type))=some (off,ft)) (hz:∀w,(sizeOf ft).run Tryz.prog w=.ok (sz+1) w)
  (hg:∀(az:Array Value) (w:World),(callFunc h az).run Tryz.prog w=.ok (.enter h az) w) (hc:NumD T h val):SetsN T iT g off val:=by
 intro w bb pb o k n cs tmp hn hb' hp ho
 refine startJ (args:=[_,_]) [(0,_),(1,_)] 0 [] [] hf hb hm rfl rfl .nil ?_
 refine sQ fun K1=>cj_reg (jA (k:=K1 (sQ fun K2=>cj_reg (jM (k:=jM (k:=?_))))))
 refine j_val rfl (fun _ _ h=>r_assert hu rfl h) (jN (k:=?_))
 refine j_val rfl (fun _ _ h=>r_fl (q:=off) (ft:=ft) hs hq hz rfl h) ?_
 refine j_callE (R:=fun w1 v w'=>v=.nilIface∧Blk w' pb T (setL cs (o+off) [val n])∧KeepX [pb] w1 w') hg rfl rfl (fun w1 hH hf=>hc w1 bb pb _ _ _ _ _ hn (hf.blk hb' (.inr (by simp))) (hf.blk hp (.inr (by simp))) ho) fun w1 v w2 hH1 hf1 hR=>?_
 obtain ⟨rfl,hb2,hk2⟩:=hR
 have hk:KeepX [pb] w w2:=hk2.afterF hf1
 refine J.begin ⟨w2,0,[]⟩ [] ok_refl .nil ?_
 refine jA (k:=K2 (cj_ret ?_))
 exact ej_ret1 hr rfl fun w' hH hf=>⟨rfl,hf.blk hb2 (.inr (by simp)),hk.thenF hf⟩
abbrev ivt:Nat:=123
theorem vt1_s:SetsN tVT ivt 225 2 vI:=setsN_of func225 rfl ntmps225 results225 ru123 ru127 rfl so2 call205 (cI rfl)
theorem vt2_s:SetsN tVT ivt 226 3 vI:=setsN_of func226 rfl ntmps226 results226 ru123 ru127 rfl so2 call205 (cI rfl)
abbrev ilb:Nat:=315
theorem lb1_s:SetsN tLabel ilb 273 0 vI:=setsN_of func273 rfl ntmps273 results273 ru315 ru193 rfl so2 call205 (cI rfl)
theorem lb2_s:SetsN tLabel ilb 274 1 vI:=setsN_of func274 rfl ntmps274 results274 ru315 ru193 rfl so2 call205 (cI rfl)
theorem lb3_s:SetsN tLabel ilb 275 2 vI:=setsN_of func275 rfl ntmps275 results275 ru315 ru193 rfl so2 call205 (cI rfl)
abbrev imp:Nat:=128
theorem mp1_s:SetsN tMap imp 232 0 vU:=setsN_of func232 rfl ntmps232 results232 ru128 ru130 rfl so71 call233 (cU rfl)
theorem mp2_s:SetsN tMap imp 234 1 vU:=setsN_of func234 rfl ntmps234 results234 ru128 ru130 rfl so71 call233 (cU rfl)
theorem mp3_s:SetsN tMap imp 235 2 vU:=setsN_of func235 rfl ntmps235 results235 ru128 ru130 rfl so71 call233 (cU rfl)
theorem mp4_s:SetsN tMap imp 236 3 vU:=setsN_of func236 rfl ntmps236 results236 ru128 ru130 rfl so71 call233 (cU rfl)
theorem mp5_s:SetsN tMap imp 237 10 vI:=setsN_of func237 rfl ntmps237 results237 ru128 ru130 rfl so2 call205 (cI rfl)
theorem mp6_s:SetsN tMap imp 238 11 vI:=setsN_of func238 rfl ntmps238 results238 ru128 ru130 rfl so2 call205 (cI rfl)
theorem mp7_s:SetsN tMap imp 239 6 vB:=setsN_of func239 rfl ntmps239 results239 ru128 ru130 rfl so4 call240 (cB rfl)
theorem mp8_s:SetsN tMap imp 241 7 vB:=setsN_of func241 rfl ntmps241 results241 ru128 ru130 rfl so4 call240 (cB rfl)
theorem mp9_s:SetsN tMap imp 242 8 vB:=setsN_of func242 rfl ntmps242 results242 ru128 ru130 rfl so4 call240 (cB rfl)
theorem mp10_s:SetsN tMap imp 243 9 vB:=setsN_of func243 rfl ntmps243 results243 ru128 ru130 rfl so4 call240 (cB rfl)
abbrev iln:Nat:=311
theorem ln1_s:SetsN tLine iln 281 2 vU:=setsN_of func281 rfl ntmps281 results281 ru311 ru140 rfl so71 call233 (cU rfl)
theorem ln2_s:SetsN tLine iln 282 1 vI:=setsN_of func282 rfl ntmps282 results282 ru311 ru140 rfl so2 call205 (cI rfl)
abbrev ifn:Nat:=131
theorem fn1_s:SetsN tFun ifn 248 0 vU:=setsN_of func248 rfl ntmps248 results248 ru131 ru133 rfl so71 call233 (cU rfl)
theorem fn2_s:SetsN tFun ifn 249 5 vI:=setsN_of func249 rfl ntmps249 results249 ru131 ru133 rfl so2 call205 (cI rfl)
theorem fn3_s:SetsN tFun ifn 250 6 vI:=setsN_of func250 rfl ntmps250 results250 ru131 ru133 rfl so2 call205 (cI rfl)
theorem fn4_s:SetsN tFun ifn 251 7 vI:=setsN_of func251 rfl ntmps251 results251 ru131 ru133 rfl so2 call205 (cI rfl)
theorem fn5_s:SetsN tFun ifn 252 4 vI:=setsN_of func252 rfl ntmps252 results252 ru131 ru133 rfl so2 call205 (cI rfl)
abbrev ilc:Nat:=134
theorem lc1_s:SetsN tLoc ilc 256 0 vU:=setsN_of func256 rfl ntmps256 results256 ru134 ru137 rfl so71 call233 (cU rfl)
theorem lc2_s:SetsN tLoc ilc 257 5 vU:=setsN_of func257 rfl ntmps257 results257 ru134 ru137 rfl so71 call233 (cU rfl)
theorem lc3_s:SetsN tLoc ilc 258 2 vU:=setsN_of func258 rfl ntmps258 results258 ru134 ru137 rfl so71 call233 (cU rfl)
abbrev ipf:Nat:=59
theorem pf7_s:SetsN tProf ipf 204 14 vI:=setsN_of func204 rfl ntmps204 results204 ru59 ru125 rfl so2 call205 (cI rfl)
theorem pf8_s:SetsN tProf ipf 206 15 vI:=setsN_of func206 rfl ntmps206 results206 ru59 ru125 rfl so2 call205 (cI rfl)
theorem pf9_s:SetsN tProf ipf 207 9 vI:=setsN_of func207 rfl ntmps207 results207 ru59 ru125 rfl so2 call205 (cI rfl)
theorem pf10_s:SetsN tProf ipf 208 10 vI:=setsN_of func208 rfl ntmps208 results208 ru59 ru125 rfl so2 call205 (cI rfl)
theorem pf12_s:SetsN tProf ipf 210 12 vI:=setsN_of func210 rfl ntmps210 results210 ru59 ru125 rfl so2 call205 (cI rfl)
theorem pf14_s:SetsN tProf ipf 213 17 vI:=setsN_of func213 rfl ntmps213 results213 ru59 ru125 rfl so2 call205 (cI rfl)
def Dsl (ds:List Value) (w:World) (v:Value) (w':World):Prop:=(∃y p c,v=.slice p ds.length c∧Own tDecF 1 y p ds.length c ds∧(y.on=true→Blk w' y.b tDecF y.cs))∧Fr 0 [] w w'
theorem Dsl.fr {ds:List Value} {w2:World} (h:Dsl ds w v w1) (k:Fr 0 [] w1 w2):Dsl ds w v w2:=by
 obtain ⟨⟨y,p,c,h1,h2,h3⟩,h4⟩:=h
 exact ⟨⟨y,p,c,h1,h2,fun ho=>k.blk (h3 ho) (.inr (by simp))⟩,frQ h4 k⟩
theorem Dsl.after {ds:List Value} {w2:World} (k:Fr 0 [] w w1) (h:Dsl ds w1 v w2):Dsl ds w v w2:=⟨h.1,frQ k h.2⟩
abbrev vtDs:List Value:=[.nilFunc,.func (.func 225) #[] #[],.func (.func 226) #[] #[]]
theorem vtTab_c (w:World):Calls Tryz.prog 224 #[] w (Ret fun v w'=>Dsl vtDs w v w'):=by
 refine startJ (args:=[]) [] 0 [] [] func224 rfl ntmps224 rfl rfl .nil ?_
 refine sQ fun K1=>cj_reg (jA (k:=K1 (sQ fun K2=>cj_reg ?_)))
 refine j_bsliceN (vals:=[(0,.nilFunc),(1,.func (.func 225) #[] #[]),(2,.func (.func 226) #[] #[])]) (cells:=vtDs.toArray) ru217 so221 zv221 rfl rfl rfl (by kernel_rfl) rfl fun bt=>?_
 refine jA (k:=K2 (cj_ret ?_))
 exact ej_ret1 results224 rfl fun w' hH hf=>⟨⟨⟨bt,tDecF,vtDs,true,true,none⟩,_,_,rfl,Own.all,fun _=>hH.get (i:=0) rfl rfl⟩,hf⟩
theorem vtDec_c (w:World) (v0:Value):Calls Tryz.prog 222 #[v0] w (Ret fun v w'=>Dsl vtDs w v w'):=by
 refine startJ (args:=[_]) [(0,_)] 0 [] [] func222 rfl ntmps222 rfl rfl .nil ?_
 refine sQ fun K1=>cj_reg (jA (k:=K1 (sQ fun K2=>cj_reg ?_)))
 refine j_callE (R:=fun w1 v w'=>Dsl vtDs w1 v w') call224 rfl rfl (fun w1 hH hf=>vtTab_c w1) fun w1 v w2 hH1 hf1 hR=>?_
 have hD:=hR.after hf1
 refine J.begin ⟨w2,0,[]⟩ [] ok_refl .nil ?_
 refine jA (k:=K2 (cj_ret ?_))
 exact ej_ret1 results222 rfl fun w' hH hf=>hD.fr hf
theorem vt_tells (w:World) (v0:Value):Tells ivt v0 vtDs w:=⟨222, #[v0],by kernel_rfl,vtDec_c w v0⟩
abbrev lbDs:List Value:=[.nilFunc,.func (.func 273) #[] #[],.func (.func 274) #[] #[],.func (.func 275) #[] #[]]
theorem lbTab_c (w:World):Calls Tryz.prog 272 #[] w (Ret fun v w'=>Dsl lbDs w v w'):=by
 refine startJ (args:=[]) [] 0 [] [] func272 rfl ntmps272 rfl rfl .nil ?_
 refine sQ fun K1=>cj_reg (jA (k:=K1 (sQ fun K2=>cj_reg ?_)))
 refine j_bsliceN (vals:=[(0,.nilFunc),(1,.func (.func 273) #[] #[]),(2,.func (.func 274) #[] #[]),(3,.func (.func 275) #[] #[])]) (cells:=lbDs.toArray) ru217 so221 zv221 rfl rfl rfl (by kernel_rfl) rfl fun bt=>?_
 refine jA (k:=K2 (cj_ret ?_))
 exact ej_ret1 results272 rfl fun w' hH hf=>⟨⟨⟨bt,tDecF,lbDs,true,true,none⟩,_,_,rfl,Own.all,fun _=>hH.get (i:=0) rfl rfl⟩,hf⟩
theorem lbDec_c (w:World) (v0:Value):Calls Tryz.prog 270 #[v0] w (Ret fun v w'=>Dsl lbDs w v w'):=by
 refine startJ (args:=[_]) [(0,_)] 0 [] [] func270 rfl ntmps270 rfl rfl .nil ?_
 refine sQ fun K1=>cj_reg ?_
 refine j_box rfl rfl fun b1=>?_
 refine jA (k:=K1 (sQ fun K2=>cj_reg ?_))
 refine j_callE (R:=fun w1 v w'=>Dsl lbDs w1 v w') call272 rfl rfl (fun w1 hH hf=>lbTab_c w1) fun w1 v w2 hH1 hf1 hR=>?_
 have hD:=hR.after hf1
 refine J.begin ⟨w2,0,[]⟩ [] ok_refl .nil ?_
 refine jA (k:=K2 (cj_ret ?_))
 exact ej_ret1 results270 rfl fun w' hH hf=>hD.fr hf
theorem lb_call (w:World) (pb o:Nat):(callMethod (.iface ilb (.pointer (some ⟨pb,o,none⟩))) "loop.example/pub-profileroads/pub/goprofile.decoder" #[]).run Tryz.prog w=(loadVar tLabel ⟨pb,o,none⟩>>=fun v=>pure (Next.enter 270 #[v])).run Tryz.prog w:=by kernel_rfl
theorem lb_tells (w:World) (pb o:Nat) (vs cs:List Value) (h:Blk w pb tLabel cs) (hl:vs.length=3) (hc:(cs.drop o).take 3=vs):Tells ilb (.pointer (some ⟨pb,o,none⟩)) lbDs w:=by
 refine ⟨270, #[.agg vs.toArray],?_,lbDec_c w _⟩
 have h1:=Go.Fw.run_loadCells (P:=Tryz.prog) (b:=pb) w vs o (by subst hc;exact h.mid o 3)
 rw[lb_call]
 simp[loadVar,ag193,so193, ← hl,h1]
abbrev mpDs:List Value:=[.nilFunc,.func (.func 232) #[] #[],.func (.func 234) #[] #[],.func (.func 235) #[] #[],.func (.func 236) #[] #[],.func (.func 237) #[] #[],.func (.func 238) #[] #[],.func (.func 239) #[] #[],.func (.func 241) #[] #[],.func (.func 242) #[] #[],.func (.func 243) #[] #[]]
theorem mpTab_c (w:World):Calls Tryz.prog 229 #[] w (Ret fun v w'=>Dsl mpDs w v w'):=by
 refine startJ (args:=[]) [] 0 [] [] func229 rfl ntmps229 rfl rfl .nil ?_
 refine sQ fun K1=>cj_reg (jA (k:=K1 (sQ fun K2=>cj_reg ?_)))
 refine j_bsliceN (vals:=[(0,.nilFunc),(1,.func (.func 232) #[] #[]),(2,.func (.func 234) #[] #[]),(3,.func (.func 235) #[] #[]),(4,.func (.func 236) #[] #[]),(5,.func (.func 237) #[] #[]),(6,.func (.func 238) #[] #[]),(7,.func (.func 239) #[] #[]),(8,.func (.func 241) #[] #[]),(9,.func (.func 242) #[] #[]),(10,.func (.func 243) #[] #[])]) (cells:=mpDs.toArray) ru217 so221 zv221 rfl rfl rfl (by kernel_rfl) rfl fun bt=>?_
 refine jA (k:=K2 (cj_ret ?_))
 exact ej_ret1 results229 rfl fun w' hH hf=>⟨⟨⟨bt,tDecF,mpDs,true,true,none⟩,_,_,rfl,Own.all,fun _=>hH.get (i:=0) rfl rfl⟩,hf⟩
theorem mpDec_c (w:World) (v0:Value):Calls Tryz.prog 227 #[v0] w (Ret fun v w'=>Dsl mpDs w v w'):=by
 refine startJ (args:=[_]) [(0,_)] 0 [] [] func227 rfl ntmps227 rfl rfl .nil ?_
 refine sQ fun K1=>cj_reg (jA (k:=K1 (sQ fun K2=>cj_reg ?_)))
 refine j_callE (R:=fun w1 v w'=>Dsl mpDs w1 v w') call229 rfl rfl (fun w1 hH hf=>mpTab_c w1) fun w1 v w2 hH1 hf1 hR=>?_
 have hD:=hR.after hf1
 refine J.begin ⟨w2,0,[]⟩ [] ok_refl .nil ?_
 refine jA (k:=K2 (cj_ret ?_))
 exact ej_ret1 results227 rfl fun w' hH hf=>hD.fr hf
theorem mp_tells (w:World) (v0:Value):Tells imp v0 mpDs w:=⟨227, #[v0],by kernel_rfl,mpDec_c w v0⟩
abbrev lnDs:List Value:=[.nilFunc,.func (.func 281) #[] #[],.func (.func 282) #[] #[]]
theorem lnTab_c (w:World):Calls Tryz.prog 280 #[] w (Ret fun v w'=>Dsl lnDs w v w'):=by
 refine startJ (args:=[]) [] 0 [] [] func280 rfl ntmps280 rfl rfl .nil ?_
 refine sQ fun K1=>cj_reg (jA (k:=K1 (sQ fun K2=>cj_reg ?_)))
 refine j_bsliceN (vals:=[(0,.nilFunc),(1,.func (.func 281) #[] #[]),(2,.func (.func 282) #[] #[])]) (cells:=lnDs.toArray) ru217 so221 zv221 rfl rfl rfl (by kernel_rfl) rfl fun bt=>?_
 refine jA (k:=K2 (cj_ret ?_))
 exact ej_ret1 results280 rfl fun w' hH hf=>⟨⟨⟨bt,tDecF,lnDs,true,true,none⟩,_,_,rfl,Own.all,fun _=>hH.get (i:=0) rfl rfl⟩,hf⟩
theorem lnDec_c (w:World) (v0:Value):Calls Tryz.prog 278 #[v0] w (Ret fun v w'=>Dsl lnDs w v w'):=by
 refine startJ (args:=[_]) [(0,_)] 0 [] [] func278 rfl ntmps278 rfl rfl .nil ?_
 refine sQ fun K1=>cj_reg (jA (k:=K1 (sQ fun K2=>cj_reg ?_)))
 refine j_callE (R:=fun w1 v w'=>Dsl lnDs w1 v w') call280 rfl rfl (fun w1 hH hf=>lnTab_c w1) fun w1 v w2 hH1 hf1 hR=>?_
 have hD:=hR.after hf1
 refine J.begin ⟨w2,0,[]⟩ [] ok_refl .nil ?_
 refine jA (k:=K2 (cj_ret ?_))
 exact ej_ret1 results278 rfl fun w' hH hf=>hD.fr hf
theorem ln_tells (w:World) (v0:Value):Tells iln v0 lnDs w:=⟨278, #[v0],by kernel_rfl,lnDec_c w v0⟩
abbrev fnDs:List Value:=[.nilFunc,.func (.func 248) #[] #[],.func (.func 249) #[] #[],.func (.func 250) #[] #[],.func (.func 251) #[] #[],.func (.func 252) #[] #[]]
theorem fnTab_c (w:World):Calls Tryz.prog 247 #[] w (Ret fun v w'=>Dsl fnDs w v w'):=by
 refine startJ (args:=[]) [] 0 [] [] func247 rfl ntmps247 rfl rfl .nil ?_
 refine sQ fun K1=>cj_reg (jA (k:=K1 (sQ fun K2=>cj_reg ?_)))
 refine j_bsliceN (vals:=[(0,.nilFunc),(1,.func (.func 248) #[] #[]),(2,.func (.func 249) #[] #[]),(3,.func (.func 250) #[] #[]),(4,.func (.func 251) #[] #[]),(5,.func (.func 252) #[] #[])]) (cells:=fnDs.toArray) ru217 so221 zv221 rfl rfl rfl (by kernel_rfl) rfl fun bt=>?_
 refine jA (k:=K2 (cj_ret ?_))
 exact ej_ret1 results247 rfl fun w' hH hf=>⟨⟨⟨bt,tDecF,fnDs,true,true,none⟩,_,_,rfl,Own.all,fun _=>hH.get (i:=0) rfl rfl⟩,hf⟩
theorem fnDec_c (w:World) (v0:Value):Calls Tryz.prog 245 #[v0] w (Ret fun v w'=>Dsl fnDs w v w'):=by
 refine startJ (args:=[_]) [(0,_)] 0 [] [] func245 rfl ntmps245 rfl rfl .nil ?_
 refine sQ fun K1=>cj_reg (jA (k:=K1 (sQ fun K2=>cj_reg ?_)))
 refine j_callE (R:=fun w1 v w'=>Dsl fnDs w1 v w') call247 rfl rfl (fun w1 hH hf=>fnTab_c w1) fun w1 v w2 hH1 hf1 hR=>?_
 have hD:=hR.after hf1
 refine J.begin ⟨w2,0,[]⟩ [] ok_refl .nil ?_
 refine jA (k:=K2 (cj_ret ?_))
 exact ej_ret1 results245 rfl fun w' hH hf=>hD.fr hf
theorem fn_tells (w:World) (v0:Value):Tells ifn v0 fnDs w:=⟨245, #[v0],by kernel_rfl,fnDec_c w v0⟩
abbrev lcDs:List Value:=[.nilFunc,.func (.func 256) #[] #[],.func (.func 257) #[] #[],.func (.func 258) #[] #[],.func (.func 259) #[] #[]]
theorem lcTab_c (w:World):Calls Tryz.prog 255 #[] w (Ret fun v w'=>Dsl lcDs w v w'):=by
 refine startJ (args:=[]) [] 0 [] [] func255 rfl ntmps255 rfl rfl .nil ?_
 refine sQ fun K1=>cj_reg (jA (k:=K1 (sQ fun K2=>cj_reg ?_)))
 refine j_bsliceN (vals:=[(0,.nilFunc),(1,.func (.func 256) #[] #[]),(2,.func (.func 257) #[] #[]),(3,.func (.func 258) #[] #[]),(4,.func (.func 259) #[] #[])]) (cells:=lcDs.toArray) ru217 so221 zv221 rfl rfl rfl (by kernel_rfl) rfl fun bt=>?_
 refine jA (k:=K2 (cj_ret ?_))
 exact ej_ret1 results255 rfl fun w' hH hf=>⟨⟨⟨bt,tDecF,lcDs,true,true,none⟩,_,_,rfl,Own.all,fun _=>hH.get (i:=0) rfl rfl⟩,hf⟩
theorem lcDec_c (w:World) (v0:Value):Calls Tryz.prog 253 #[v0] w (Ret fun v w'=>Dsl lcDs w v w'):=by
 refine startJ (args:=[_]) [(0,_)] 0 [] [] func253 rfl ntmps253 rfl rfl .nil ?_
 refine sQ fun K1=>cj_reg (jA (k:=K1 (sQ fun K2=>cj_reg ?_)))
 refine j_callE (R:=fun w1 v w'=>Dsl lcDs w1 v w') call255 rfl rfl (fun w1 hH hf=>lcTab_c w1) fun w1 v w2 hH1 hf1 hR=>?_
 have hD:=hR.after hf1
 refine J.begin ⟨w2,0,[]⟩ [] ok_refl .nil ?_
 refine jA (k:=K2 (cj_ret ?_))
 exact ej_ret1 results253 rfl fun w' hH hf=>hD.fr hf
theorem lc_tells (w:World) (v0:Value):Tells ilc v0 lcDs w:=⟨253, #[v0],by kernel_rfl,lcDec_c w v0⟩
abbrev pfDs:List Value:=[.nilFunc,.func (.func 197) #[] #[],.func (.func 198) #[] #[],.func (.func 199) #[] #[],.func (.func 200) #[] #[],.func (.func 201) #[] #[],.func (.func 202) #[] #[],.func (.func 204) #[] #[],.func (.func 206) #[] #[],.func (.func 207) #[] #[],.func (.func 208) #[] #[],.func (.func 209) #[] #[],.func (.func 210) #[] #[],.func (.func 211) #[] #[],.func (.func 213) #[] #[]]
theorem pfTab_c (w:World):Calls Tryz.prog 193 #[] w (Ret fun v w'=>Dsl pfDs w v w'):=by
 refine startJ (args:=[]) [] 0 [] [] func193 rfl ntmps193 rfl rfl .nil ?_
 refine sQ fun K1=>cj_reg (jA (k:=K1 (sQ fun K2=>cj_reg ?_)))
 refine j_bsliceN (vals:=[(0,.nilFunc),(1,.func (.func 197) #[] #[]),(2,.func (.func 198) #[] #[]),(3,.func (.func 199) #[] #[]),(4,.func (.func 200) #[] #[]),(5,.func (.func 201) #[] #[]),(6,.func (.func 202) #[] #[]),(7,.func (.func 204) #[] #[]),(8,.func (.func 206) #[] #[]),(9,.func (.func 207) #[] #[]),(10,.func (.func 208) #[] #[]),(11,.func (.func 209) #[] #[]),(12,.func (.func 210) #[] #[]),(13,.func (.func 211) #[] #[]),(14,.func (.func 213) #[] #[])]) (cells:=pfDs.toArray) ru217 so221 zv221 rfl rfl rfl (by kernel_rfl) rfl fun bt=>?_
 refine jA (k:=K2 (cj_ret ?_))
 exact ej_ret1 results193 rfl fun w' hH hf=>⟨⟨⟨bt,tDecF,pfDs,true,true,none⟩,_,_,rfl,Own.all,fun _=>hH.get (i:=0) rfl rfl⟩,hf⟩
theorem pfDec_c (w:World) (v0:Value):Calls Tryz.prog 191 #[v0] w (Ret fun v w'=>Dsl pfDs w v w'):=by
 refine startJ (args:=[_]) [(0,_)] 0 [] [] func191 rfl ntmps191 rfl rfl .nil ?_
 refine sQ fun K1=>cj_reg (jA (k:=K1 (sQ fun K2=>cj_reg ?_)))
 refine j_callE (R:=fun w1 v w'=>Dsl pfDs w1 v w') call193 rfl rfl (fun w1 hH hf=>pfTab_c w1) fun w1 v w2 hH1 hf1 hR=>?_
 have hD:=hR.after hf1
 refine J.begin ⟨w2,0,[]⟩ [] ok_refl .nil ?_
 refine jA (k:=K2 (cj_ret ?_))
 exact ej_ret1 results191 rfl fun w' hH hf=>hD.fr hf
theorem pf_tells (w:World) (v0:Value):Tells ipf v0 pfDs w:=⟨191, #[v0],by kernel_rfl,pfDec_c w v0⟩
abbrev smDs:List Value:=[.nilFunc,.func (.func 264) #[] #[],.func (.func 266) #[] #[],.func (.func 267) #[] #[]]
theorem smTab_c (w:World):Calls Tryz.prog 262 #[] w (Ret fun v w'=>Dsl smDs w v w'):=by
 refine startJ (args:=[]) [] 0 [] [] func262 rfl ntmps262 rfl rfl .nil ?_
 refine sQ fun K1=>cj_reg (jA (k:=K1 (sQ fun K2=>cj_reg ?_)))
 refine j_bsliceN (vals:=[(0,.nilFunc),(1,.func (.func 264) #[] #[]),(2,.func (.func 266) #[] #[]),(3,.func (.func 267) #[] #[])]) (cells:=smDs.toArray) ru217 so221 zv221 rfl rfl rfl (by kernel_rfl) rfl fun bt=>?_
 refine jA (k:=K2 (cj_ret ?_))
 exact ej_ret1 results262 rfl fun w' hH hf=>⟨⟨⟨bt,tDecF,smDs,true,true,none⟩,_,_,rfl,Own.all,fun _=>hH.get (i:=0) rfl rfl⟩,hf⟩
theorem smDec_c (w:World) (v0:Value):Calls Tryz.prog 260 #[v0] w (Ret fun v w'=>Dsl smDs w v w'):=by
 refine startJ (args:=[_]) [(0,_)] 0 [] [] func260 rfl ntmps260 rfl rfl .nil ?_
 refine sQ fun K1=>cj_reg (jA (k:=K1 (sQ fun K2=>cj_reg ?_)))
 refine j_callE (R:=fun w1 v w'=>Dsl smDs w1 v w') call262 rfl rfl (fun w1 hH hf=>smTab_c w1) fun w1 v w2 hH1 hf1 hR=>?_
 have hD:=hR.after hf1
 refine J.begin ⟨w2,0,[]⟩ [] ok_refl .nil ?_
 refine jA (k:=K2 (cj_ret ?_))
 exact ej_ret1 results260 rfl fun w' hH hf=>hD.fr hf
abbrev ism:Nat:=142
theorem sm_tells (w:World) (v0:Value):Tells ism v0 smDs w:=⟨260, #[v0],by kernel_rfl,smDec_c w v0⟩
end Go.Proofs.YtifdadlhmlhfiaaGreatDoor
