/-
  Part 2 of the proof. Conditions: as each lemma states them.
-/
import Derived.Test.YtffghbkcomlefaaGreatDoorX1
import Derived.Lib.QuoteLoop
import Derived.Lib.MapLaws
import Derived.Lib.Join
import Derived.Laws.BytesArg
import Derived.Lib.PrintData
import Derived.Sort.Walk0
import Derived.Laws.BytesString
import Derived.Lib.LaidTab
import Derived.Lib.ItoaNum
import Derived.Lib.ItoaMem
import Derived.Shelf.Strconv.Itoa1
import Derived.Laws.StructEq
namespace Go.Proofs.YtffghbkcomlefaaGreatDoor
open Go Go.Fw Go.Proofs Go.Proofs.Tryz
variable {H:Heap} {T k:Nat} {w w':World}
theorem take_succ_mem {α:Type} {xs:List α} (hk:k<xs.length) {x:α}:x∈xs.take (k+1)↔x∈xs.take k∨x=xs[k]:=by
 rw[← List.take_append_getElem hk,List.mem_append,List.mem_singleton]
theorem indexStr_c (w:World) (v:Value) (xs:List ByteArray) (x:ByteArray) (h:Lay RStr 1 w v xs):Calls Tryz.prog 66 #[v,.string x] w (Ret fun v w'=>(∃i:Int,v=.int .i64 i∧(i<0→x∉xs))∧Fr 0 [] w w'):=by
 obtain ⟨p,c,rfl,hl,hx⟩:=h.open
 refine startJ (args:=[_,_]) [(0,_),(1,_)] 0 [] [] func66 rfl ntmps66 rfl rfl .nil ?_
 refine sQ fun K1=>cj_reg (jA (k:=K1 (sQ fun K2=>sQ fun K3=>cj_reg (jM (k:=jE ru29 (k:=jM (k:=K3 (cj_block ?_))))))))
 refine cj_loop (σ:=Nat) (fun k=>[(0,.slice p xs.length c),(1,.string x),(7,.int .i64 (xs.length:Nat)),(8,.int .i64 (k:Nat))]) (fun _=>[]) (fun k _=>k≤xs.length∧x∉xs.take k) (fun k=>xs.length - k) 0 sR (fun w hH hf=>⟨.nil,Nat.zero_le _,by simp⟩) ?_
 rintro k w1 ⟨hk,hk'⟩ hf1 hH1 KL hKL
 refine C.begin _ [] hf1 .nil ?_
 refine sQ fun K4=>cj_reg (jS (k:=K4 (sQ fun K5=>?_)))
 refine cj_dec rfl (fun hlt=>?_) (fun hlt=>?_)
 ·have hlt':k<xs.length:=by omega
  obtain ⟨b,o,cs,rfl,hcs,hR,hcell⟩:=hx k xs[k] (List.getElem?_eq_getElem hlt')
  unfold RStr at hR
  subst hR
  refine cj_skip (K5 (sQ fun K6=>cj_block (sQ fun K7=>cj_reg (jM (k:=jA (k:=K7 (sQ fun K8=>cj_reg (jM (k:=jM (k:=jM (k:=jJ ru29 so9 (k:=?_))))))))))))
  refine j_valw rfl (fun a w ha hH hf=>r_load ag9 rfl (hcell w (hf.keepAll (.inr rfl)) 0 _ rfl) ha) (j_val rfl (fun _ _ h=>r_seql rfl rfl h) (K8 ?_))
  refine cj_dec rfl (fun heq=>?_) (fun heq=>?_)
  ·refine sQ fun K9=>cj_reg (jM (k:=jA (k:=K9 (CJ.t [(4,_)] (k:=cj_ret ?_)))))
   first|exact ej_ret1 results66 rfl fun w' hH hf=>⟨⟨_,rfl,fun h=>absurd h (by omega)⟩,hf⟩|exact ej_ret1 results66 rfl fun w' hH hf=>⟨⟨_,rfl,fun _ hm=>hk' (by rw[List.take_of_length_le (by omega)];exact hm)⟩,hf⟩
  ·refine cj_skip (K6 (cj_reg (jI (k:=jM (k:=j_nil (ej_then ?_))))))
   exact fun w hH hf=>hKL (k+1) _ w ⟨hlt',by rw[take_succ_mem hlt'];rintro (h|h)<;>simp_all⟩ hf .nil (by omega) sR
 ·refine cj_exit (K2 (sQ fun K10=>cj_reg (jA (k:=K10 (cj_ret ?_)))))
  first|exact ej_ret1 results66 rfl fun w' hH hf=>⟨⟨_,rfl,fun h=>absurd h (by omega)⟩,hf⟩|exact ej_ret1 results66 rfl fun w' hH hf=>⟨⟨_,rfl,fun _ hm=>hk' (by rw[List.take_of_length_le (by omega)];exact hm)⟩,hf⟩
theorem containsStr_c (w:World) (v:Value) (xs:List ByteArray) (x:ByteArray) (h:Lay RStr 1 w v xs):Calls Tryz.prog 49 #[v,.string x] w (Ret fun v w'=>(∃b,v=.bool b∧(b=false→x∉xs))∧Fr 0 [] w w'):=by
 refine startJ (args:=[_,_]) [(0,_),(1,_)] 0 [] [] func49 rfl ntmps49 rfl rfl .nil ?_
 refine sQ fun K1=>cj_reg (jA (k:=K1 (sQ fun K2=>cj_reg (jM (k:=jM (k:=?_))))))
 refine j_callQ (φ:=fun v=>∃i:Int,v=.int .i64 i∧(i<0→x∉xs)) call66 rfl rfl (fun w hH hf=>indexStr_c w _ _ _ (h.keep (RStr.keep (hf.keepAll (.inr rfl))) (hf.keepAll (.inr rfl)))) ?_
 rintro _ ⟨i7,rfl,hi7⟩
 refine j_val rfl (fun _ _ h=>r_geq rfl rfl h) (jA (k:=K2 (cj_ret ?_)))
 exact ej_ret1 results49 rfl fun w' hH hf=>⟨⟨_,rfl,fun h=>hi7 (by simpa using h)⟩,hf⟩
theorem indexU64_c (w:World) (v:Value) (xs:List Int) (x:Int) (h:Lay (RInt .u64) 1 w v xs):Calls Tryz.prog 83 #[v,.int .u64 x] w (Ret fun v w'=>(∃i:Int,v=.int .i64 i∧(i<0→x∉xs))∧Fr 0 [] w w'):=by
 obtain ⟨p,c,rfl,hl,hx⟩:=h.open
 refine startJ (args:=[_,_]) [(0,_),(1,_)] 0 [] [] func83 rfl ntmps83 rfl rfl .nil ?_
 refine sQ fun K1=>cj_reg (jA (k:=K1 (sQ fun K2=>sQ fun K3=>cj_reg (jM (k:=jE ru100 (k:=jM (k:=K3 (cj_block ?_))))))))
 refine cj_loop (σ:=Nat) (fun k=>[(0,.slice p xs.length c),(1,.int .u64 x),(7,.int .i64 (xs.length:Nat)),(8,.int .i64 (k:Nat))]) (fun _=>[]) (fun k _=>k≤xs.length∧x∉xs.take k) (fun k=>xs.length - k) 0 sR (fun w hH hf=>⟨.nil,Nat.zero_le _,by simp⟩) ?_
 rintro k w1 ⟨hk,hk'⟩ hf1 hH1 KL hKL
 refine C.begin _ [] hf1 .nil ?_
 refine sQ fun K4=>cj_reg (jS (k:=K4 (sQ fun K5=>?_)))
 refine cj_dec rfl (fun hlt=>?_) (fun hlt=>?_)
 ·have hlt':k<xs.length:=by omega
  obtain ⟨b,o,cs,rfl,hcs,hR,hcell⟩:=hx k xs[k] (List.getElem?_eq_getElem hlt')
  obtain ⟨rfl, -⟩:=hR
  refine cj_skip (K5 (sQ fun K6=>cj_block (sQ fun K7=>cj_reg (jM (k:=jA (k:=K7 (sQ fun K8=>cj_reg (jM (k:=jM (k:=jM (k:=jJ ru100 so76 (k:=?_))))))))))))
  refine j_valw rfl (fun a w ha hH hf=>r_load ag76 rfl (hcell w (hf.keepAll (.inr rfl)) 0 _ rfl) ha) (jQ (k:=K8 ?_))
  refine cj_dec rfl (fun heq=>?_) (fun heq=>?_)
  ·refine sQ fun K9=>cj_reg (jM (k:=jA (k:=K9 (CJ.t [(4,_)] (k:=cj_ret ?_)))))
   first|exact ej_ret1 results83 rfl fun w' hH hf=>⟨⟨_,rfl,fun h=>absurd h (by omega)⟩,hf⟩|exact ej_ret1 results83 rfl fun w' hH hf=>⟨⟨_,rfl,fun _ hm=>hk' (by rw[List.take_of_length_le (by omega)];exact hm)⟩,hf⟩
  ·refine cj_skip (K6 (cj_reg (jI (k:=jM (k:=j_nil (ej_then ?_))))))
   exact fun w hH hf=>hKL (k+1) _ w ⟨hlt',by rw[take_succ_mem hlt'];rintro (h|h)<;>simp_all⟩ hf .nil (by omega) sR
 ·refine cj_exit (K2 (sQ fun K10=>cj_reg (jA (k:=K10 (cj_ret ?_)))))
  first|exact ej_ret1 results83 rfl fun w' hH hf=>⟨⟨_,rfl,fun h=>absurd h (by omega)⟩,hf⟩|exact ej_ret1 results83 rfl fun w' hH hf=>⟨⟨_,rfl,fun _ hm=>hk' (by rw[List.take_of_length_le (by omega)];exact hm)⟩,hf⟩
theorem containsU64_c (w:World) (v:Value) (xs:List Int) (x:Int) (h:Lay (RInt .u64) 1 w v xs):Calls Tryz.prog 67 #[v,.int .u64 x] w (Ret fun v w'=>(∃b,v=.bool b∧(b=false→x∉xs))∧Fr 0 [] w w'):=by
 refine startJ (args:=[_,_]) [(0,_),(1,_)] 0 [] [] func67 rfl ntmps67 rfl rfl .nil ?_
 refine sQ fun K1=>cj_reg (jA (k:=K1 (sQ fun K2=>cj_reg (jM (k:=jM (k:=?_))))))
 refine j_callQ (φ:=fun v=>∃i:Int,v=.int .i64 i∧(i<0→x∉xs)) call83 rfl rfl (fun w hH hf=>indexU64_c w _ _ _ (h.keep (RInt.keep (hf.keepAll (.inr rfl))) (hf.keepAll (.inr rfl)))) ?_
 rintro _ ⟨i7,rfl,hi7⟩
 refine j_val rfl (fun _ _ h=>r_geq rfl rfl h) (jA (k:=K2 (cj_ret ?_)))
 exact ej_ret1 results67 rfl fun w' hH hf=>⟨⟨_,rfl,fun h=>hi7 (by simpa using h)⟩,hf⟩
theorem nodup_take_succ {α:Type} {xs:List α} (hk:k<xs.length) (h:(xs.take k).Nodup) (hn:xs[k]∉xs.take k):(xs.take (k+1)).Nodup:=by
 rw[← List.take_append_getElem hk,List.nodup_append]
 exact ⟨h,by simp,by simp;rintro a ha rfl;exact hn ha⟩
theorem ids_c (w:World) (v:Value) (xs:List Int) (h:Lay (RInt .u64) 1 w v xs):Calls Tryz.prog 50 #[v] w (Ret fun v w'=>(∃b,v=.bool b∧(b=true→0∉xs∧xs.Nodup∧xs.length≤60))∧Fr 0 [] w w'):=by
 obtain ⟨p,c,rfl,hl,hx⟩:=h.open
 have hcap:=h.cap
 refine startJ (args:=[_]) [(0,_)] 0 [] [] func50 rfl ntmps50 rfl rfl .nil ?_
 refine sQ fun K1=>cj_reg (jA (k:=K1 (sQ fun K2=>sQ fun K3=>cj_reg (jM (k:=jE ru100 (k:=jM (k:=K3 (cj_block ?_))))))))
 refine cj_loop (σ:=Nat) (fun k=>[(0,.slice p xs.length c),(5,.slice p xs.length c),(6,.int .i64 (xs.length:Nat)),(7,.int .i64 (k:Nat))]) (fun _=>[]) (fun k _=>k≤xs.length∧0∉xs.take k∧(xs.take k).Nodup) (fun k=>xs.length - k) 0 sR (fun w hH hf=>⟨.nil,Nat.zero_le _,by simp,by simp⟩) ?_
 rintro k w1 ⟨hk,hz,hd⟩ hf1 hH1 KL hKL
 refine C.begin _ [] hf1 .nil ?_
 refine sQ fun K4=>cj_reg (jS (k:=K4 (sQ fun K5=>?_)))
 refine cj_dec rfl (fun hlt=>?_) (fun hlt=>?_)
 ·have hlt':k<xs.length:=by omega
  obtain ⟨b,o,cs,rfl,hcs,hR,hcell⟩:=hx k xs[k] (List.getElem?_eq_getElem hlt')
  obtain ⟨rfl, -⟩:=hR
  refine cj_skip (K5 (sQ fun K6=>cj_block (sQ fun K7=>cj_reg (jM (k:=jJ ru100 so76 (k:=?_))))))
  refine j_valw rfl (fun a w ha hH hf=>r_load ag76 rfl (hcell w (hf.keepAll (.inr rfl)) 0 _ rfl) ha) (jA (k:=jA (k:=K7 (sQ fun K8=>cj_reg (jM (k:=jQ (k:=jM (k:=?_))))))))
  refine j_split (t:=14) rfl (fun hg14=>?_) (fun hg14=>?_)
  ·refine j_gf rfl rfl rfl rfl (j_gf rfl rfl rfl rfl (j_gf rfl rfl rfl rfl (j_gf rfl rfl rfl rfl (j_gf rfl rfl rfl rfl (jT (k:=K8 (CJ.t [(0,_),(5,_),(6,_),(7,_),(20,_)] (k:=?_))))))))
   refine cj_if_t rfl (sQ fun K9=>cj_reg (jA (k:=K9 (cj_ret ?_))))
   first|exact ej_ret1 results50 rfl fun w' hH hf=>⟨⟨_,rfl,fun h=>absurd h (by decide)⟩,hf⟩|exact ej_ret1 results50 rfl fun w' hH hf=>⟨⟨_,rfl,fun h=>by
    rw[List.take_of_length_le (by omega)]at hz hd
    simp at h
    exact ⟨hz,hd,by omega⟩⟩,hf⟩
  ·refine j_gt rfl rfl (jM (k:=?_))
   refine j_gt rfl rfl (jM (k:=?_))
   refine j_gt rfl rfl (j_val rfl (fun _ _ h=>r_slhi ru100 so76 rfl rfl (by omega) h) (j_gt rfl rfl (jM (k:=?_))))
   refine j_gt rfl rfl ?_
   refine j_callQ (φ:=fun v=>∃b,v=.bool b∧(b=false→xs[k]∉xs.take k)) call67 rfl rfl (fun w hH hf=>containsU64_c w _ _ _ ((h.take k hk).keep (RInt.keep (hf.keepAll (.inr rfl))) (hf.keepAll (.inr rfl)))) ?_
   rintro _ ⟨b19,rfl,hb19⟩
   refine jK (k:=K8 (CJ.t [(0,_),(5,_),(6,_),(7,_),(20,_)] (k:=?_)))
   refine cj_if rfl (fun h20=>?_) (fun h20=>?_)
   ·refine sQ fun K10=>cj_reg (jA (k:=K10 (cj_ret ?_)))
    first|exact ej_ret1 results50 rfl fun w' hH hf=>⟨⟨_,rfl,fun h=>absurd h (by decide)⟩,hf⟩|exact ej_ret1 results50 rfl fun w' hH hf=>⟨⟨_,rfl,fun h=>by
     rw[List.take_of_length_le (by omega)]at hz hd
     simp at h
     exact ⟨hz,hd,by omega⟩⟩,hf⟩
   ·refine cj_skip (K6 (cj_reg (jI (k:=jM (k:=j_nil (ej_then ?_))))))
    have hne:xs[k]≠0:=by simpa using hg14
    exact fun w hH hf=>hKL (k+1) _ w ⟨hlt',fun h=>((take_succ_mem hlt').1 h).elim hz (fun h=>hne h.symm),nodup_take_succ hlt' hd (hb19 h20)⟩ hf .nil (by omega) sR
 ·refine cj_exit (K2 (sQ fun K11=>cj_reg (jM (k:=jE ru100 (k:=?_)))))
  refine j_val rfl (fun _ _ h=>r_leq rfl rfl h) (jA (k:=K11 (cj_ret ?_)))
  first|exact ej_ret1 results50 rfl fun w' hH hf=>⟨⟨_,rfl,fun h=>absurd h (by decide)⟩,hf⟩|exact ej_ret1 results50 rfl fun w' hH hf=>⟨⟨_,rfl,fun h=>by
   rw[List.take_of_length_le (by omega)]at hz hd
   simp at h
   exact ⟨hz,hd,by omega⟩⟩,hf⟩
structure LabP (x:PSample):Prop where
 tlen:x.texts.length≤60
 nlen:x.nums.length≤60
 tasc:∀(i:Nat) (t u:PTexts),x.texts[i]? =some t→x.texts[i+1]? =some u→ltB t.key u.key=true
 nasc:∀(i:Nat) (t u:PNums),x.nums[i]? =some t→x.nums[i+1]? =some u→ltB t.key u.key=true
 tl:∀t∈x.texts,t.list≠[]∧t.list.length≤60∧⟨#[]⟩∉t.list
 nl:∀t∈x.nums,t.list≠[]∧t.list.length≤60
theorem ne_nil_of {α:Type} {l:List α} (h:decide ((l.length:Int)=0)=false):l≠[]:=by
 rintro rfl;simp at h
theorem le60_of {l:Nat} (h:decide ((60:Int)<(l:Int))=false):l≤60:=by simp at h;omega
theorem asc_step {α:Type} {xs:List α} {lt:α→α→Bool} (hk:k<xs.length) (h:∀(i:Nat) (t u:α),i+1<k→xs[i]? =some t→xs[i+1]? =some u→lt t u=true) (hn:∀(h0:0<k),lt (xs[k - 1]'(by omega)) xs[k]=true):
  ∀(i:Nat) (t u:α),i+1<k+1→xs[i]? =some t→xs[i+1]? =some u→lt t u=true:=by
 intro i t u hi ht hu
 by_cases hik:i+1<k
 ·exact h i t u hik ht hu
 ·have:i+1=k:=by omega
  subst this
  have:=hn (by omega)
  rw[List.getElem?_eq_getElem (by omega)]at ht
  rw[List.getElem?_eq_getElem hk]at hu
  simp at ht hu
  rw[← ht, ← hu]
  simpa using this
theorem all_step {α:Type} {xs:List α} {φ:α→Prop} (hk:k<xs.length) (h:∀t∈xs.take k,φ t) (hn:φ xs[k]):∀t∈xs.take (k+1),φ t:=by
 intro t ht
 rcases (take_succ_mem hk).1 ht with h1|rfl
 ·exact h t h1
 ·exact hn
theorem labeled_c (w:World) (cs:List Value) (x:PSample) (h:RSample w cs x):Calls Tryz.prog 26 #[.agg cs.toArray] w (Ret fun v w'=>(∃b,v=.bool b∧(b=true→LabP x))∧Fr 0 [] w w'):=by
 obtain ⟨la,lb,lt,lu,rfl,hla,hlb,hlt,hlu⟩:=h
 obtain ⟨p3,c3,rfl,hl3,hx3⟩:=hlt.open
 obtain ⟨p4,c4,rfl,hl4,hx4⟩:=hlu.open
 refine startJ (args:=[_]) [(0,_)] 0 [] [] func26 rfl ntmps26 rfl rfl .nil ?_
 refine sQ fun K1=>cj_reg (j_boxA (vs:=[_,_,_,_]) rfl rfl fun b1=>jA (k:=K1 ?_))
 refine cj_seqF fun K2 hK2=>sQ fun K3=>cj_reg (jF 2 ru55 so52 (k:=jH 0 ag52 (k:=jE ru52 (k:=jM (k:=K3 (cj_block ?_))))))
 refine cj_loop (σ:=Nat) (fun k=>[(1,.pointer (some ⟨b1,0,none⟩)),(8,.slice p3 x.texts.length c3),(9,.int .i64 (x.texts.length:Nat)),(10,.int .i64 (k:Nat))]) (fun _=>[⟨b1,55,[la,lb,.slice p3 x.texts.length c3,.slice p4 x.nums.length c4],true,true,none⟩])
  (fun k _=>k≤x.texts.length∧(∀(i:Nat) (t u:PTexts),i+1<k→x.texts[i]? =some t→x.texts[i+1]? =some u→ltB t.key u.key=true)∧∀t∈x.texts.take k,t.list≠[]∧t.list.length≤60∧⟨#[]⟩∉t.list)
  (fun k=>x.texts.length - k) 0 sR (fun w hH hf=>⟨hH,Nat.zero_le _,by intro i t u h;omega,by simp⟩) ?_
 rintro k w1 ⟨hk,hT1,hT2⟩ hf1 hH1 KL hKL
 refine C.begin _ _ hf1 hH1 ?_
 refine sQ fun K4=>cj_reg (jS (k:=K4 (sQ fun K5=>?_)))
 refine cj_dec rfl (fun hlt11=>?_) (fun hlt11=>?_)
 ·have hk':k<x.texts.length:=by omega
  obtain ⟨b,o,cs,rfl,hcs,⟨l1,rfl,hl1⟩,hcell⟩:=hx3 k x.texts[k] (List.getElem?_eq_getElem hk')
  obtain ⟨p1,c1,rfl,hs1, -⟩:=hl1.open
  refine cj_skip (K5 (sQ fun K6=>cj_block (sQ fun K7=>cj_reg (jM (k:=jJ ru52 so130 (k:=?_))))))
  refine j_valw rfl (fun a w ha hH hf=>r_loadA ag130 so130 rfl rfl (hcell w (hf.keepAll (.inr rfl))) ha) (j_allocA (zs:=[(.string ⟨#[]⟩),(.slice none 0 0)]) zv130 rfl fun b4=>jA (k:=jB [_,_] [_,_] 0 so130 (k:=K7 (sQ fun K8=>?_))))
  refine cj_drawI 31 (lts [0,1,2,3,4,5,6,7,8,9,10,11,12,13,14,15,16,17,18,19,20,21,22,23,24,25,26,27,28]++(29,false)::lts [30]) [0,1] rfl (by kernel_rfl) (by kernel_rfl) (dM [0,1] (k:=?_))
  refine dj_val rfl rfl (sub_of [0,1] rfl) (fun _ _ h=>r_gtr rfl rfl h) (dM [0,1] (k:=?_))
  refine dj_split (t:=17) rfl (fun hg17=>?_) (fun hg17=>?_)
  ·have h0k:0<k:=by simpa using hg17
   obtain ⟨b',o',cs',hp, -,⟨l',rfl, -⟩,hcell'⟩:=hx3 (k - 1) (x.texts[k - 1]'(by omega)) (List.getElem?_eq_getElem (by omega))
   injection hp with hp;injection hp with hp1 hp2;subst hp1;subst hp2
   refine dj_gt rfl rfl rfl rfl (sub_of [0,1] rfl) (fun a w ha hS=>r_fl (q:=2) (ft:=52) ru55 rfl so52 rfl ha) (dj_gt rfl rfl rfl rfl (sub_of [0,1] rfl) (fun a w ha hS=>r_ldS 1 rfl rfl ag52 rfl rfl ha hS) (dj_gt rfl rfl rfl rfl (sub_of [0,1] rfl) (fun a w ha hS=>r_move rfl ha) (dj_gt rfl rfl rfl rfl (sub_of [0,1] rfl) (fun a w ha hS=>r_dec h0k (by omega) rfl rfl ha) (dj_gt rfl rfl rfl rfl (sub_of [0,1] rfl) (fun a w ha hS=>r_idx ru52 so130 rfl rfl (by omega) ha) (dj_gt rfl rfl rfl rfl (sub_of [0,1] rfl) (fun a w ha hS=>r_fl (q:=0) (ft:=9) ru130 rfl so9 rfl ha) (dj_gt rfl rfl rfl rfl (sub_of [0,1] rfl) (fun a w ha hS=>r_load ag9 rfl (hcell' w (hS.2.keepAll (.inr rfl)) 0 _ rfl) ha) (dj_gt rfl rfl rfl rfl (sub_of [0,1] rfl) (fun a w ha hS=>r_fl (q:=0) (ft:=9) ru130 rfl so9 rfl ha) (dj_gt rfl rfl rfl rfl (sub_of [0,1] rfl) (fun a w ha hS=>r_ldS 0 rfl rfl ag9 rfl rfl ha hS) (dj_gt rfl rfl rfl rfl (sub_of [0,1] rfl) (fun a w ha hS=>r_sgeq rfl rfl ha) (dj_val rfl rfl (sub_of [0,1] rfl) (fun _ _ h=>r_pick_t rfl rfl h) (dM [0,1] (k:=?_))))))))))))
   refine dj_split (t:=29) rfl (fun hg29=>?_) (fun hg29=>?_)
   ·refine dj_gf rfl rfl rfl rfl rfl (sub_of [0,1] rfl) (dj_gf rfl rfl rfl rfl rfl (sub_of [0,1] rfl) (dj_gf rfl rfl rfl rfl rfl (sub_of [0,1] rfl) (dj_gf rfl rfl rfl rfl rfl (sub_of [0,1] rfl) (dj_val rfl rfl (sub_of [0,1] rfl) (fun _ _ h=>r_pick_t rfl rfl h) (dM [0,1] (k:=?_))))))
    refine dj_gf rfl rfl rfl rfl rfl (sub_of [0,1] rfl) (dj_gf rfl rfl rfl rfl rfl (sub_of [0,1] rfl) (dj_gf rfl rfl rfl rfl rfl (sub_of [0,1] rfl) (dj_gf rfl rfl rfl rfl rfl (sub_of [0,1] rfl) (dj_val rfl rfl (sub_of [0,1] rfl) (fun _ _ h=>r_pick_t rfl rfl h) (dM [0,1] (k:=?_))))))
    refine dj_gf rfl rfl rfl rfl rfl (sub_of [0,1] rfl) (dj_gf rfl rfl rfl rfl rfl (sub_of [0,1] rfl) (dE (h:=fun Kd=>j_gf rfl rfl rfl rfl (Kd (sb [0,1]) (dj_val rfl rfl (sub_of [0,1] rfl) (fun _ _ h=>r_pick_t rfl rfl h) (K8 (CJ.t [(1,_),(8,_),(9,_),(10,_),(45,_)] (k:=?_))))))))
    refine cj_if_t rfl (sQ fun K9=>cj_reg (jA (k:=K9 (cj_ret ?_))))
    first|exact ej_ret1 results26 rfl fun w' hH hf=>⟨⟨_,rfl,fun h=>absurd h (by decide)⟩,hf⟩|exact ej_ret1 results26 rfl fun w' hH hf=>⟨⟨_,rfl,fun h=>by
     rw[List.take_of_length_le (by omega)]at hT2 hN2
     simp at h hg86
     exact ⟨by omega,by omega,fun i t u ht hu=>hT1 i t u (by have:=(List.getElem?_eq_some_iff.1 hu).1;omega) ht hu,fun i t u ht hu=>hN1 i t u (by have:=(List.getElem?_eq_some_iff.1 hu).1;omega) ht hu,hT2,hN2⟩⟩,hf⟩
   ·refine dj_gt rfl rfl rfl rfl (sub_of [0,1] rfl) (fun a w ha hS=>r_fl (q:=1) (ft:=29) ru130 rfl so29 rfl ha) (dj_gt rfl rfl rfl rfl (sub_of [0,1] rfl) (fun a w ha hS=>r_ldS 0 rfl rfl ag29 rfl rfl ha hS) (dj_gt rfl rfl rfl rfl (sub_of [0,1] rfl) (fun a w ha hS=>r_len ru29 rfl ha) (dj_gt rfl rfl rfl rfl (sub_of [0,1] rfl) (fun a w ha hS=>r_eql rfl rfl ha) (dj_val rfl rfl (sub_of [0,1] rfl) (fun _ _ h=>r_pick_f rfl rfl h) (dM [0,1] (k:=?_))))))
    refine dj_split (t:=35) rfl (fun hg35=>?_) (fun hg35=>?_)
    ·refine dj_gf rfl rfl rfl rfl rfl (sub_of [0,1] rfl) (dj_gf rfl rfl rfl rfl rfl (sub_of [0,1] rfl) (dj_gf rfl rfl rfl rfl rfl (sub_of [0,1] rfl) (dj_gf rfl rfl rfl rfl rfl (sub_of [0,1] rfl) (dj_val rfl rfl (sub_of [0,1] rfl) (fun _ _ h=>r_pick_t rfl rfl h) (dM [0,1] (k:=?_))))))
     refine dj_gf rfl rfl rfl rfl rfl (sub_of [0,1] rfl) (dj_gf rfl rfl rfl rfl rfl (sub_of [0,1] rfl) (dE (h:=fun Kd=>j_gf rfl rfl rfl rfl (Kd (sb [0,1]) (dj_val rfl rfl (sub_of [0,1] rfl) (fun _ _ h=>r_pick_t rfl rfl h) (K8 (CJ.t [(1,_),(8,_),(9,_),(10,_),(45,_)] (k:=?_))))))))
     refine cj_if_t rfl (sQ fun K10=>cj_reg (jA (k:=K10 (cj_ret ?_))))
     first|exact ej_ret1 results26 rfl fun w' hH hf=>⟨⟨_,rfl,fun h=>absurd h (by decide)⟩,hf⟩|exact ej_ret1 results26 rfl fun w' hH hf=>⟨⟨_,rfl,fun h=>by
      rw[List.take_of_length_le (by omega)]at hT2 hN2
      simp at h hg86
      exact ⟨by omega,by omega,fun i t u ht hu=>hT1 i t u (by have:=(List.getElem?_eq_some_iff.1 hu).1;omega) ht hu,fun i t u ht hu=>hN1 i t u (by have:=(List.getElem?_eq_some_iff.1 hu).1;omega) ht hu,hT2,hN2⟩⟩,hf⟩
    ·refine dj_gt rfl rfl rfl rfl (sub_of [0,1] rfl) (fun a w ha hS=>r_fl (q:=1) (ft:=29) ru130 rfl so29 rfl ha) (dj_gt rfl rfl rfl rfl (sub_of [0,1] rfl) (fun a w ha hS=>r_ldS 0 rfl rfl ag29 rfl rfl ha hS) (dj_gt rfl rfl rfl rfl (sub_of [0,1] rfl) (fun a w ha hS=>r_len ru29 rfl ha) (dj_gt rfl rfl rfl rfl (sub_of [0,1] rfl) (fun a w ha hS=>r_gtr rfl rfl ha) (dj_val rfl rfl (sub_of [0,1] rfl) (fun _ _ h=>r_pick_f rfl rfl h) (dM [0,1] (k:=?_))))))
     refine dj_split (t:=41) rfl (fun hg41=>?_) (fun hg41=>?_)
     ·refine dj_gf rfl rfl rfl rfl rfl (sub_of [0,1] rfl) (dj_gf rfl rfl rfl rfl rfl (sub_of [0,1] rfl) (dE (h:=fun Kd=>j_gf rfl rfl rfl rfl (Kd (sb [0,1]) (dj_val rfl rfl (sub_of [0,1] rfl) (fun _ _ h=>r_pick_t rfl rfl h) (K8 (CJ.t [(1,_),(8,_),(9,_),(10,_),(45,_)] (k:=?_))))))))
      refine cj_if_t rfl (sQ fun K11=>cj_reg (jA (k:=K11 (cj_ret ?_))))
      first|exact ej_ret1 results26 rfl fun w' hH hf=>⟨⟨_,rfl,fun h=>absurd h (by decide)⟩,hf⟩|exact ej_ret1 results26 rfl fun w' hH hf=>⟨⟨_,rfl,fun h=>by
       rw[List.take_of_length_le (by omega)]at hT2 hN2
       simp at h hg86
       exact ⟨by omega,by omega,fun i t u ht hu=>hT1 i t u (by have:=(List.getElem?_eq_some_iff.1 hu).1;omega) ht hu,fun i t u ht hu=>hN1 i t u (by have:=(List.getElem?_eq_some_iff.1 hu).1;omega) ht hu,hT2,hN2⟩⟩,hf⟩
     ·refine dj_gt rfl rfl rfl rfl (sub_of [0,1] rfl) (fun a w ha hS=>r_fl (q:=1) (ft:=29) ru130 rfl so29 rfl ha) (dj_gt rfl rfl rfl rfl (sub_of [0,1] rfl) (fun a w ha hS=>r_ldS 0 rfl rfl ag29 rfl rfl ha hS) (dE (h:=fun Kd=>j_gt rfl rfl ?_)))
      refine j_callQ (φ:=fun v=>∃b,v=.bool b∧(b=false→⟨#[]⟩∉x.texts[k].list)) call49 rfl rfl (fun w hH hf=>containsStr_c w _ _ _ (hl1.keep (RStr.keep (hf.keepAll (.inr rfl))) (hf.keepAll (.inr rfl)))) ?_
      rintro _ ⟨b44,rfl,hb44⟩
      refine Kd (sb [0,1]) (dj_val rfl rfl (sub_of [0,1] rfl) (fun _ _ h=>r_pick_f rfl rfl h) (K8 ?_))
      refine cj_if rfl (fun h45=>?_) (fun h45=>?_)
      ·refine sQ fun K12=>cj_reg (jA (k:=K12 (cj_ret ?_)))
       first|exact ej_ret1 results26 rfl fun w' hH hf=>⟨⟨_,rfl,fun h=>absurd h (by decide)⟩,hf⟩|exact ej_ret1 results26 rfl fun w' hH hf=>⟨⟨_,rfl,fun h=>by
        rw[List.take_of_length_le (by omega)]at hT2 hN2
        simp at h hg86
        exact ⟨by omega,by omega,fun i t u ht hu=>hT1 i t u (by have:=(List.getElem?_eq_some_iff.1 hu).1;omega) ht hu,fun i t u ht hu=>hN1 i t u (by have:=(List.getElem?_eq_some_iff.1 hu).1;omega) ht hu,hT2,hN2⟩⟩,hf⟩
      ·refine cj_skip (K6 (cj_reg (jI (k:=jM (k:=j_nil (ej_then ?_))))))
       refine fun w hH hf=>hKL (k+1) _ w ⟨hk',asc_step (lt:=fun t u=>ltB t.key u.key) hk' hT1 (fun h0=>?_),all_step hk' hT2 ⟨ne_nil_of hg35,le60_of hg41,hb44 h45⟩⟩ hf hH.2.2.2 (by omega) sR
       first|(simp at hg17;omega)|simpa using hg29
  ·refine dj_gf rfl rfl rfl rfl rfl (sub_of [0,1] rfl) (dj_gf rfl rfl rfl rfl rfl (sub_of [0,1] rfl) (dj_gf rfl rfl rfl rfl rfl (sub_of [0,1] rfl) (dj_gf rfl rfl rfl rfl rfl (sub_of [0,1] rfl) (dj_gf rfl rfl rfl rfl rfl (sub_of [0,1] rfl) (dj_gf rfl rfl rfl rfl rfl (sub_of [0,1] rfl) (dj_gf rfl rfl rfl rfl rfl (sub_of [0,1] rfl) (dj_gf rfl rfl rfl rfl rfl (sub_of [0,1] rfl) (dj_gf rfl rfl rfl rfl rfl (sub_of [0,1] rfl) (dj_gf rfl rfl rfl rfl rfl (sub_of [0,1] rfl) (dj_val rfl rfl (sub_of [0,1] rfl) (fun _ _ h=>r_pick_f rfl rfl h) (dM [0,1] (k:=?_))))))))))))
   refine dj_gt rfl rfl rfl rfl (sub_of [0,1] rfl) (fun a w ha hS=>r_fl (q:=1) (ft:=29) ru130 rfl so29 rfl ha) (dj_gt rfl rfl rfl rfl (sub_of [0,1] rfl) (fun a w ha hS=>r_ldS 0 rfl rfl ag29 rfl rfl ha hS) (dj_gt rfl rfl rfl rfl (sub_of [0,1] rfl) (fun a w ha hS=>r_len ru29 rfl ha) (dj_gt rfl rfl rfl rfl (sub_of [0,1] rfl) (fun a w ha hS=>r_eql rfl rfl ha) (dj_val rfl rfl (sub_of [0,1] rfl) (fun _ _ h=>r_pick_f rfl rfl h) (dM [0,1] (k:=?_))))))
   refine dj_split (t:=35) rfl (fun hg35=>?_) (fun hg35=>?_)
   ·refine dj_gf rfl rfl rfl rfl rfl (sub_of [0,1] rfl) (dj_gf rfl rfl rfl rfl rfl (sub_of [0,1] rfl) (dj_gf rfl rfl rfl rfl rfl (sub_of [0,1] rfl) (dj_gf rfl rfl rfl rfl rfl (sub_of [0,1] rfl) (dj_val rfl rfl (sub_of [0,1] rfl) (fun _ _ h=>r_pick_t rfl rfl h) (dM [0,1] (k:=?_))))))
    refine dj_gf rfl rfl rfl rfl rfl (sub_of [0,1] rfl) (dj_gf rfl rfl rfl rfl rfl (sub_of [0,1] rfl) (dE (h:=fun Kd=>j_gf rfl rfl rfl rfl (Kd (sb [0,1]) (dj_val rfl rfl (sub_of [0,1] rfl) (fun _ _ h=>r_pick_t rfl rfl h) (K8 (CJ.t [(1,_),(8,_),(9,_),(10,_),(45,_)] (k:=?_))))))))
    refine cj_if_t rfl (sQ fun K13=>cj_reg (jA (k:=K13 (cj_ret ?_))))
    first|exact ej_ret1 results26 rfl fun w' hH hf=>⟨⟨_,rfl,fun h=>absurd h (by decide)⟩,hf⟩|exact ej_ret1 results26 rfl fun w' hH hf=>⟨⟨_,rfl,fun h=>by
     rw[List.take_of_length_le (by omega)]at hT2 hN2
     simp at h hg86
     exact ⟨by omega,by omega,fun i t u ht hu=>hT1 i t u (by have:=(List.getElem?_eq_some_iff.1 hu).1;omega) ht hu,fun i t u ht hu=>hN1 i t u (by have:=(List.getElem?_eq_some_iff.1 hu).1;omega) ht hu,hT2,hN2⟩⟩,hf⟩
   ·refine dj_gt rfl rfl rfl rfl (sub_of [0,1] rfl) (fun a w ha hS=>r_fl (q:=1) (ft:=29) ru130 rfl so29 rfl ha) (dj_gt rfl rfl rfl rfl (sub_of [0,1] rfl) (fun a w ha hS=>r_ldS 0 rfl rfl ag29 rfl rfl ha hS) (dj_gt rfl rfl rfl rfl (sub_of [0,1] rfl) (fun a w ha hS=>r_len ru29 rfl ha) (dj_gt rfl rfl rfl rfl (sub_of [0,1] rfl) (fun a w ha hS=>r_gtr rfl rfl ha) (dj_val rfl rfl (sub_of [0,1] rfl) (fun _ _ h=>r_pick_f rfl rfl h) (dM [0,1] (k:=?_))))))
    refine dj_split (t:=41) rfl (fun hg41=>?_) (fun hg41=>?_)
    ·refine dj_gf rfl rfl rfl rfl rfl (sub_of [0,1] rfl) (dj_gf rfl rfl rfl rfl rfl (sub_of [0,1] rfl) (dE (h:=fun Kd=>j_gf rfl rfl rfl rfl (Kd (sb [0,1]) (dj_val rfl rfl (sub_of [0,1] rfl) (fun _ _ h=>r_pick_t rfl rfl h) (K8 (CJ.t [(1,_),(8,_),(9,_),(10,_),(45,_)] (k:=?_))))))))
     refine cj_if_t rfl (sQ fun K14=>cj_reg (jA (k:=K14 (cj_ret ?_))))
     first|exact ej_ret1 results26 rfl fun w' hH hf=>⟨⟨_,rfl,fun h=>absurd h (by decide)⟩,hf⟩|exact ej_ret1 results26 rfl fun w' hH hf=>⟨⟨_,rfl,fun h=>by
      rw[List.take_of_length_le (by omega)]at hT2 hN2
      simp at h hg86
      exact ⟨by omega,by omega,fun i t u ht hu=>hT1 i t u (by have:=(List.getElem?_eq_some_iff.1 hu).1;omega) ht hu,fun i t u ht hu=>hN1 i t u (by have:=(List.getElem?_eq_some_iff.1 hu).1;omega) ht hu,hT2,hN2⟩⟩,hf⟩
    ·refine dj_gt rfl rfl rfl rfl (sub_of [0,1] rfl) (fun a w ha hS=>r_fl (q:=1) (ft:=29) ru130 rfl so29 rfl ha) (dj_gt rfl rfl rfl rfl (sub_of [0,1] rfl) (fun a w ha hS=>r_ldS 0 rfl rfl ag29 rfl rfl ha hS) (dE (h:=fun Kd=>j_gt rfl rfl ?_)))
     refine j_callQ (φ:=fun v=>∃b,v=.bool b∧(b=false→⟨#[]⟩∉x.texts[k].list)) call49 rfl rfl (fun w hH hf=>containsStr_c w _ _ _ (hl1.keep (RStr.keep (hf.keepAll (.inr rfl))) (hf.keepAll (.inr rfl)))) ?_
     rintro _ ⟨b44,rfl,hb44⟩
     refine Kd (sb [0,1]) (dj_val rfl rfl (sub_of [0,1] rfl) (fun _ _ h=>r_pick_f rfl rfl h) (K8 ?_))
     refine cj_if rfl (fun h45=>?_) (fun h45=>?_)
     ·refine sQ fun K15=>cj_reg (jA (k:=K15 (cj_ret ?_)))
      first|exact ej_ret1 results26 rfl fun w' hH hf=>⟨⟨_,rfl,fun h=>absurd h (by decide)⟩,hf⟩|exact ej_ret1 results26 rfl fun w' hH hf=>⟨⟨_,rfl,fun h=>by
       rw[List.take_of_length_le (by omega)]at hT2 hN2
       simp at h hg86
       exact ⟨by omega,by omega,fun i t u ht hu=>hT1 i t u (by have:=(List.getElem?_eq_some_iff.1 hu).1;omega) ht hu,fun i t u ht hu=>hN1 i t u (by have:=(List.getElem?_eq_some_iff.1 hu).1;omega) ht hu,hT2,hN2⟩⟩,hf⟩
     ·refine cj_skip (K6 (cj_reg (jI (k:=jM (k:=j_nil (ej_then ?_))))))
      refine fun w hH hf=>hKL (k+1) _ w ⟨hk',asc_step (lt:=fun t u=>ltB t.key u.key) hk' hT1 (fun h0=>?_),all_step hk' hT2 ⟨ne_nil_of hg35,le60_of hg41,hb44 h45⟩⟩ hf hH.2.2.2 (by omega) sR
      first|(simp at hg17;omega)|simpa using hg29
 ·refine cj_exit (ej_then_exit (ej_then_exit (ej_blk_hit (ej_then (hK2 _ _ _ (CJ.t [(1,_)] (k:=sQ fun K16=>sQ fun K17=>cj_reg (jF 3 ru55 so53 (k:=jH 0 ag53 (k:=jE ru53 (k:=jM (k:=K17 (cj_block ?_)))))))))))))
  refine cj_loop (σ:=Nat) (fun k=>[(1,.pointer (some ⟨b1,0,none⟩)),(48,.slice p4 x.nums.length c4),(49,.int .i64 (x.nums.length:Nat)),(50,.int .i64 (k:Nat))]) (fun _=>[⟨b1,55,[la,lb,.slice p3 x.texts.length c3,.slice p4 x.nums.length c4],true,true,none⟩])
   (fun k _=>k≤x.nums.length∧(∀(i:Nat) (t u:PNums),i+1<k→x.nums[i]? =some t→x.nums[i+1]? =some u→ltB t.key u.key=true)∧∀t∈x.nums.take k,t.list≠[]∧t.list.length≤60)
   (fun k=>x.nums.length - k) 0 sR (fun w hH hf=>⟨hH,Nat.zero_le _,by intro i t u h;omega,by simp⟩) ?_
  rintro m w2 ⟨hm,hN1,hN2⟩ hf2 hH2 KL hKL
  refine C.begin _ _ hf2 hH2 ?_
  refine sQ fun K18=>cj_reg (jS (k:=K18 (sQ fun K19=>?_)))
  refine cj_dec rfl (fun hlt51=>?_) (fun hlt51=>?_)
  ·have hm':m<x.nums.length:=by omega
   obtain ⟨b,o,cs,rfl,hcs,⟨l1,rfl,hl1⟩,hcell⟩:=hx4 m x.nums[m] (List.getElem?_eq_getElem hm')
   obtain ⟨p1,c1,rfl,hs1, -⟩:=hl1.open
   refine cj_skip (K19 (sQ fun K20=>cj_block (sQ fun K21=>cj_reg (jM (k:=jJ ru53 so133 (k:=?_))))))
   refine j_valw rfl (fun a w ha hH hf=>r_loadA ag133 so133 rfl rfl (hcell w (hf.keepAll (.inr rfl))) ha) (j_allocA (zs:=[(.string ⟨#[]⟩),(.slice none 0 0)]) zv133 rfl fun b6=>jA (k:=jB [_,_] [_,_] 0 so133 (k:=K21 (sQ fun K22=>?_))))
   refine cj_drawI 26 (lts [0,1,2,3,4,5,6,7,8,9,10,11,12,13,14,15,16,17,18,19,20,21,22,23,24,25]) [0,1] rfl (by kernel_rfl) (by kernel_rfl) (dM [0,1] (k:=?_))
   refine dj_val rfl rfl (sub_of [0,1] rfl) (fun _ _ h=>r_gtr rfl rfl h) (dM [0,1] (k:=?_))
   refine dj_split (t:=57) rfl (fun hg57=>?_) (fun hg57=>?_)
   ·have h0k:0<m:=by simpa using hg57
    obtain ⟨b',o',cs',hp, -,⟨l',rfl, -⟩,hcell'⟩:=hx4 (m - 1) (x.nums[m - 1]'(by omega)) (List.getElem?_eq_getElem (by omega))
    injection hp with hp;injection hp with hp1 hp2;subst hp1;subst hp2
    refine dj_gt rfl rfl rfl rfl (sub_of [0,1] rfl) (fun a w ha hS=>r_fl (q:=3) (ft:=53) ru55 rfl so53 rfl ha) (dj_gt rfl rfl rfl rfl (sub_of [0,1] rfl) (fun a w ha hS=>r_ldS 1 rfl rfl ag53 rfl rfl ha hS) (dj_gt rfl rfl rfl rfl (sub_of [0,1] rfl) (fun a w ha hS=>r_move rfl ha) (dj_gt rfl rfl rfl rfl (sub_of [0,1] rfl) (fun a w ha hS=>r_dec h0k (by omega) rfl rfl ha) (dj_gt rfl rfl rfl rfl (sub_of [0,1] rfl) (fun a w ha hS=>r_idx ru53 so133 rfl rfl (by omega) ha) (dj_gt rfl rfl rfl rfl (sub_of [0,1] rfl) (fun a w ha hS=>r_fl (q:=0) (ft:=9) ru133 rfl so9 rfl ha) (dj_gt rfl rfl rfl rfl (sub_of [0,1] rfl) (fun a w ha hS=>r_load ag9 rfl (hcell' w (hS.2.keepAll (.inr rfl)) 0 _ rfl) ha) (dj_gt rfl rfl rfl rfl (sub_of [0,1] rfl) (fun a w ha hS=>r_fl (q:=0) (ft:=9) ru133 rfl so9 rfl ha) (dj_gt rfl rfl rfl rfl (sub_of [0,1] rfl) (fun a w ha hS=>r_ldS 0 rfl rfl ag9 rfl rfl ha hS) (dj_gt rfl rfl rfl rfl (sub_of [0,1] rfl) (fun a w ha hS=>r_sgeq rfl rfl ha) (dj_val rfl rfl (sub_of [0,1] rfl) (fun _ _ h=>r_pick_t rfl rfl h) (dM [0,1] (k:=?_))))))))))))
    refine dj_split (t:=69) rfl (fun hg69=>?_) (fun hg69=>?_)
    ·refine dj_gf rfl rfl rfl rfl rfl (sub_of [0,1] rfl) (dj_gf rfl rfl rfl rfl rfl (sub_of [0,1] rfl) (dj_gf rfl rfl rfl rfl rfl (sub_of [0,1] rfl) (dj_gf rfl rfl rfl rfl rfl (sub_of [0,1] rfl) (dj_val rfl rfl (sub_of [0,1] rfl) (fun _ _ h=>r_pick_t rfl rfl h) (dM [0,1] (k:=?_))))))
     refine dj_gf rfl rfl rfl rfl rfl (sub_of [0,1] rfl) (dj_gf rfl rfl rfl rfl rfl (sub_of [0,1] rfl) (dj_gf rfl rfl rfl rfl rfl (sub_of [0,1] rfl) (dj_gf rfl rfl rfl rfl rfl (sub_of [0,1] rfl) (dj_val rfl rfl (sub_of [0,1] rfl) (fun _ _ h=>r_pick_t rfl rfl h) (K22 (CJ.t [(1,_),(48,_),(49,_),(50,_),(80,_)] (k:=?_)))))))
     refine cj_if_t rfl (sQ fun K23=>cj_reg (jA (k:=K23 (cj_ret ?_))))
     first|exact ej_ret1 results26 rfl fun w' hH hf=>⟨⟨_,rfl,fun h=>absurd h (by decide)⟩,hf⟩|exact ej_ret1 results26 rfl fun w' hH hf=>⟨⟨_,rfl,fun h=>by
      rw[List.take_of_length_le (by omega)]at hT2 hN2
      simp at h hg86
      exact ⟨by omega,by omega,fun i t u ht hu=>hT1 i t u (by have:=(List.getElem?_eq_some_iff.1 hu).1;omega) ht hu,fun i t u ht hu=>hN1 i t u (by have:=(List.getElem?_eq_some_iff.1 hu).1;omega) ht hu,hT2,hN2⟩⟩,hf⟩
    ·refine dj_gt rfl rfl rfl rfl (sub_of [0,1] rfl) (fun a w ha hS=>r_fl (q:=1) (ft:=49) ru133 rfl so49 rfl ha) (dj_gt rfl rfl rfl rfl (sub_of [0,1] rfl) (fun a w ha hS=>r_ldS 0 rfl rfl ag49 rfl rfl ha hS) (dj_gt rfl rfl rfl rfl (sub_of [0,1] rfl) (fun a w ha hS=>r_len ru49 rfl ha) (dj_gt rfl rfl rfl rfl (sub_of [0,1] rfl) (fun a w ha hS=>r_eql rfl rfl ha) (dj_val rfl rfl (sub_of [0,1] rfl) (fun _ _ h=>r_pick_f rfl rfl h) (dM [0,1] (k:=?_))))))
     refine dj_split (t:=75) rfl (fun hg75=>?_) (fun hg75=>?_)
     ·refine dj_gf rfl rfl rfl rfl rfl (sub_of [0,1] rfl) (dj_gf rfl rfl rfl rfl rfl (sub_of [0,1] rfl) (dj_gf rfl rfl rfl rfl rfl (sub_of [0,1] rfl) (dj_gf rfl rfl rfl rfl rfl (sub_of [0,1] rfl) (dj_val rfl rfl (sub_of [0,1] rfl) (fun _ _ h=>r_pick_t rfl rfl h) (K22 (CJ.t [(1,_),(48,_),(49,_),(50,_),(80,_)] (k:=?_)))))))
      refine cj_if_t rfl (sQ fun K24=>cj_reg (jA (k:=K24 (cj_ret ?_))))
      first|exact ej_ret1 results26 rfl fun w' hH hf=>⟨⟨_,rfl,fun h=>absurd h (by decide)⟩,hf⟩|exact ej_ret1 results26 rfl fun w' hH hf=>⟨⟨_,rfl,fun h=>by
       rw[List.take_of_length_le (by omega)]at hT2 hN2
       simp at h hg86
       exact ⟨by omega,by omega,fun i t u ht hu=>hT1 i t u (by have:=(List.getElem?_eq_some_iff.1 hu).1;omega) ht hu,fun i t u ht hu=>hN1 i t u (by have:=(List.getElem?_eq_some_iff.1 hu).1;omega) ht hu,hT2,hN2⟩⟩,hf⟩
     ·refine dj_gt rfl rfl rfl rfl (sub_of [0,1] rfl) (fun a w ha hS=>r_fl (q:=1) (ft:=49) ru133 rfl so49 rfl ha) (dj_gt rfl rfl rfl rfl (sub_of [0,1] rfl) (fun a w ha hS=>r_ldS 0 rfl rfl ag49 rfl rfl ha hS) (dj_gt rfl rfl rfl rfl (sub_of [0,1] rfl) (fun a w ha hS=>r_len ru49 rfl ha) (dj_gt rfl rfl rfl rfl (sub_of [0,1] rfl) (fun a w ha hS=>r_gtr rfl rfl ha) (dj_val rfl rfl (sub_of [0,1] rfl) (fun _ _ h=>r_pick_f rfl rfl h) (K22 ?_)))))
      refine cj_if rfl (fun h80=>?_) (fun h80=>?_)
      ·refine sQ fun K25=>cj_reg (jA (k:=K25 (cj_ret ?_)))
       first|exact ej_ret1 results26 rfl fun w' hH hf=>⟨⟨_,rfl,fun h=>absurd h (by decide)⟩,hf⟩|exact ej_ret1 results26 rfl fun w' hH hf=>⟨⟨_,rfl,fun h=>by
        rw[List.take_of_length_le (by omega)]at hT2 hN2
        simp at h hg86
        exact ⟨by omega,by omega,fun i t u ht hu=>hT1 i t u (by have:=(List.getElem?_eq_some_iff.1 hu).1;omega) ht hu,fun i t u ht hu=>hN1 i t u (by have:=(List.getElem?_eq_some_iff.1 hu).1;omega) ht hu,hT2,hN2⟩⟩,hf⟩
      ·refine cj_skip (K20 (cj_reg (jI (k:=jM (k:=j_nil (ej_then ?_))))))
       refine fun w hH hf=>hKL (m+1) _ w ⟨hm',asc_step (lt:=fun t u=>ltB t.key u.key) hm' hN1 (fun h0=>?_),all_step hm' hN2 ⟨ne_nil_of hg75,le60_of h80⟩⟩ hf hH.2.2.2 (by omega) sR
       first|(simp at hg57;omega)|simpa using hg69
   ·refine dj_gf rfl rfl rfl rfl rfl (sub_of [0,1] rfl) (dj_gf rfl rfl rfl rfl rfl (sub_of [0,1] rfl) (dj_gf rfl rfl rfl rfl rfl (sub_of [0,1] rfl) (dj_gf rfl rfl rfl rfl rfl (sub_of [0,1] rfl) (dj_gf rfl rfl rfl rfl rfl (sub_of [0,1] rfl) (dj_gf rfl rfl rfl rfl rfl (sub_of [0,1] rfl) (dj_gf rfl rfl rfl rfl rfl (sub_of [0,1] rfl) (dj_gf rfl rfl rfl rfl rfl (sub_of [0,1] rfl) (dj_gf rfl rfl rfl rfl rfl (sub_of [0,1] rfl) (dj_gf rfl rfl rfl rfl rfl (sub_of [0,1] rfl) (dj_val rfl rfl (sub_of [0,1] rfl) (fun _ _ h=>r_pick_f rfl rfl h) (dM [0,1] (k:=?_))))))))))))
    refine dj_gt rfl rfl rfl rfl (sub_of [0,1] rfl) (fun a w ha hS=>r_fl (q:=1) (ft:=49) ru133 rfl so49 rfl ha) (dj_gt rfl rfl rfl rfl (sub_of [0,1] rfl) (fun a w ha hS=>r_ldS 0 rfl rfl ag49 rfl rfl ha hS) (dj_gt rfl rfl rfl rfl (sub_of [0,1] rfl) (fun a w ha hS=>r_len ru49 rfl ha) (dj_gt rfl rfl rfl rfl (sub_of [0,1] rfl) (fun a w ha hS=>r_eql rfl rfl ha) (dj_val rfl rfl (sub_of [0,1] rfl) (fun _ _ h=>r_pick_f rfl rfl h) (dM [0,1] (k:=?_))))))
    refine dj_split (t:=75) rfl (fun hg75=>?_) (fun hg75=>?_)
    ·refine dj_gf rfl rfl rfl rfl rfl (sub_of [0,1] rfl) (dj_gf rfl rfl rfl rfl rfl (sub_of [0,1] rfl) (dj_gf rfl rfl rfl rfl rfl (sub_of [0,1] rfl) (dj_gf rfl rfl rfl rfl rfl (sub_of [0,1] rfl) (dj_val rfl rfl (sub_of [0,1] rfl) (fun _ _ h=>r_pick_t rfl rfl h) (K22 (CJ.t [(1,_),(48,_),(49,_),(50,_),(80,_)] (k:=?_)))))))
     refine cj_if_t rfl (sQ fun K26=>cj_reg (jA (k:=K26 (cj_ret ?_))))
     first|exact ej_ret1 results26 rfl fun w' hH hf=>⟨⟨_,rfl,fun h=>absurd h (by decide)⟩,hf⟩|exact ej_ret1 results26 rfl fun w' hH hf=>⟨⟨_,rfl,fun h=>by
      rw[List.take_of_length_le (by omega)]at hT2 hN2
      simp at h hg86
      exact ⟨by omega,by omega,fun i t u ht hu=>hT1 i t u (by have:=(List.getElem?_eq_some_iff.1 hu).1;omega) ht hu,fun i t u ht hu=>hN1 i t u (by have:=(List.getElem?_eq_some_iff.1 hu).1;omega) ht hu,hT2,hN2⟩⟩,hf⟩
    ·refine dj_gt rfl rfl rfl rfl (sub_of [0,1] rfl) (fun a w ha hS=>r_fl (q:=1) (ft:=49) ru133 rfl so49 rfl ha) (dj_gt rfl rfl rfl rfl (sub_of [0,1] rfl) (fun a w ha hS=>r_ldS 0 rfl rfl ag49 rfl rfl ha hS) (dj_gt rfl rfl rfl rfl (sub_of [0,1] rfl) (fun a w ha hS=>r_len ru49 rfl ha) (dj_gt rfl rfl rfl rfl (sub_of [0,1] rfl) (fun a w ha hS=>r_gtr rfl rfl ha) (dj_val rfl rfl (sub_of [0,1] rfl) (fun _ _ h=>r_pick_f rfl rfl h) (K22 ?_)))))
     refine cj_if rfl (fun h80=>?_) (fun h80=>?_)
     ·refine sQ fun K27=>cj_reg (jA (k:=K27 (cj_ret ?_)))
      first|exact ej_ret1 results26 rfl fun w' hH hf=>⟨⟨_,rfl,fun h=>absurd h (by decide)⟩,hf⟩|exact ej_ret1 results26 rfl fun w' hH hf=>⟨⟨_,rfl,fun h=>by
       rw[List.take_of_length_le (by omega)]at hT2 hN2
       simp at h hg86
       exact ⟨by omega,by omega,fun i t u ht hu=>hT1 i t u (by have:=(List.getElem?_eq_some_iff.1 hu).1;omega) ht hu,fun i t u ht hu=>hN1 i t u (by have:=(List.getElem?_eq_some_iff.1 hu).1;omega) ht hu,hT2,hN2⟩⟩,hf⟩
     ·refine cj_skip (K20 (cj_reg (jI (k:=jM (k:=j_nil (ej_then ?_))))))
      refine fun w hH hf=>hKL (m+1) _ w ⟨hm',asc_step (lt:=fun t u=>ltB t.key u.key) hm' hN1 (fun h0=>?_),all_step hm' hN2 ⟨ne_nil_of hg75,le60_of h80⟩⟩ hf hH.2.2.2 (by omega) sR
      first|(simp at hg57;omega)|simpa using hg69
  ·refine cj_exit (K16 (sQ fun K28=>cj_reg (jF 2 ru55 so52 (k:=jH 0 ag52 (k:=jE ru52 (k:=?_))))))
   refine j_val rfl (fun _ _ h=>r_leq rfl rfl h) (jM (k:=?_))
   refine j_split (t:=86) rfl (fun hg86=>?_) (fun hg86=>?_)
   ·refine j_gt rfl rfl (jF 3 ru55 so53 (k:=?_))
    refine j_gt rfl rfl (jH 0 ag53 (k:=?_))
    refine j_gt rfl rfl (jE ru53 (k:=?_))
    refine j_gt rfl rfl (j_val rfl (fun _ _ h=>r_leq rfl rfl h) (jT (k:=jA (k:=K28 (CJ.t [(2,_)] (k:=cj_ret ?_))))))
    first|exact ej_ret1 results26 rfl fun w' hH hf=>⟨⟨_,rfl,fun h=>absurd h (by decide)⟩,hf⟩|exact ej_ret1 results26 rfl fun w' hH hf=>⟨⟨_,rfl,fun h=>by
     rw[List.take_of_length_le (by omega)]at hT2 hN2
     simp at h hg86
     exact ⟨by omega,by omega,fun i t u ht hu=>hT1 i t u (by have:=(List.getElem?_eq_some_iff.1 hu).1;omega) ht hu,fun i t u ht hu=>hN1 i t u (by have:=(List.getElem?_eq_some_iff.1 hu).1;omega) ht hu,hT2,hN2⟩⟩,hf⟩
   ·refine j_gf rfl rfl rfl rfl (j_gf rfl rfl rfl rfl (j_gf rfl rfl rfl rfl (j_gf rfl rfl rfl rfl (jK (k:=jA (k:=K28 (cj_ret ?_)))))))
    first|exact ej_ret1 results26 rfl fun w' hH hf=>⟨⟨_,rfl,fun h=>absurd h (by decide)⟩,hf⟩|exact ej_ret1 results26 rfl fun w' hH hf=>⟨⟨_,rfl,fun h=>by
     rw[List.take_of_length_le (by omega)]at hT2 hN2
     simp at h hg86
     exact ⟨by omega,by omega,fun i t u ht hu=>hT1 i t u (by have:=(List.getElem?_eq_some_iff.1 hu).1;omega) ht hu,fun i t u ht hu=>hN1 i t u (by have:=(List.getElem?_eq_some_iff.1 hu).1;omega) ht hu,hT2,hN2⟩⟩,hf⟩
structure TabP (x:PProf):Prop where
 m:0∉x.mappings.map (·.id)∧(x.mappings.map (·.id)).Nodup∧(x.mappings.map (·.id)).length≤60
 f:0∉x.funcs.map (·.id)∧(x.funcs.map (·.id)).Nodup∧(x.funcs.map (·.id)).length≤60
 l:0∉x.locs.map (·.id)∧(x.locs.map (·.id)).Nodup∧(x.locs.map (·.id)).length≤60
 locs:∀l∈x.locs,(-1≤l.mapping∧l.mapping<x.mappings.length)∧l.lines.length≤60∧∀n∈l.lines, -1≤n.fn∧n.fn<x.funcs.length
theorem ids_step {α:Type} {xs:List α} {g:α→Value} (hk:k<xs.length):(xs.take k).map g++[g xs[k]]=(xs.take (k+1)).map g:=by
 rw[← List.take_append_getElem hk,List.map_append];rfl
theorem map_comp {α β γ:Type} (f:β→γ) (g:α→β) (xs:List α):xs.map (fun x=>f (g x))=(xs.map g).map f:=by simp
set_option maxHeartbeats 1000000 in
theorem tables_c (w:World) (cs:List Value) (x:PProf) (h:RProf w cs x) (hbm:x.mappings.length≤2147483647) (hbl:x.locs.length≤2147483647) (hbf:x.funcs.length≤2147483647):
  Calls Tryz.prog 27 #[.agg cs.toArray] w (Ret fun v w'=>(∃b,v=.bool b∧(b=true→TabP x))∧Fr 0 [] w w'):=by
 obtain ⟨la,ls,lm,ll,lf,lcm,rfl, -, -,hlm,hll,hlf, -, -⟩:=h
 have hKm:=hlm;have hKl:=hll;have hKf:=hlf
 obtain ⟨pm,cm,rfl, -,hxm⟩:=hlm.open
 obtain ⟨pf,cf,rfl, -,hxf⟩:=hlf.open
 obtain ⟨pl,cl,rfl, -,hxl⟩:=hll.open
 refine startJ (args:=[_]) [(0,_)] 0 [] [] func27 rfl ntmps27 rfl rfl .nil ?_
 refine sQ fun K1=>cj_reg (j_boxA (vs:=[_,_,_,_,_,_,_,_,_,_,_,_,_,_]) rfl rfl fun b1=>jA (k:=K1 (sQ fun K2=>cj_reg (jA (k:=jA (k:=jA (k:=K2 (sQ fun K3=>sQ fun K4=>cj_reg ?_))))))))
 refine jF 3 ru33 so26 (k:=jH 0 ag26 (k:=jE ru26 (k:=jM (k:=K4 (cj_block ?_)))))
 refine cj_loop (σ:=Nat×Ent×Option Addr×Nat) (fun s=>[(1,.pointer (some ⟨b1,0,none⟩)),(3,.slice s.2.2.1 s.1 s.2.2.2),(4,.slice none 0 0),(5,.slice none 0 0),(15,.slice pm x.mappings.length cm),(16,.int .i64 (x.mappings.length:Nat)),(17,.int .i64 (s.1:Nat))])
  (fun s=>[s.2.1,⟨b1,33,[la,.string x.deflt,ls,.slice pm x.mappings.length cm,.slice pl x.locs.length cl,.slice pf x.funcs.length cf,lcm,.string x.drop,.string x.keep,.int .i64 x.time,.int .i64 x.dur,.int .i64 x.period,.string x.per.ty,.string x.per.unit],true,true,none⟩])
  (fun s _=>s.1≤x.mappings.length∧Own 76 1 s.2.1 s.2.2.1 s.1 s.2.2.2 ((x.mappings.take s.1).map fun m=>.int .u64 m.id))
  (fun s=>x.mappings.length - s.1) (0,nilE 76,none,0) sR (fun w hH hf=>⟨hH.off,Nat.zero_le _,Own.nil⟩) ?_
 rintro ⟨k,yA,pA,cA⟩ w1 ⟨hk,hA⟩ hf1 hH1 KL hKL
 refine C.begin _ _ hf1 hH1 ?_
 try dsimp only
 refine sQ fun K5=>cj_reg (jS (k:=K5 (sQ fun K6=>?_)))
 refine cj_dec rfl (fun h18=>?_) (fun h18=>?_)
 ·have hk':k<x.mappings.length:=by omega
  obtain ⟨b,o,cs,rfl,hcs,hR,hcell⟩:=hxm k x.mappings[k] (List.getElem?_eq_getElem hk')
  obtain ⟨rfl,hwk, -⟩:=hR
  refine cj_skip (K6 (sQ fun K7=>cj_block (sQ fun K8=>cj_reg (jJ ru26 so78 (k:=?_)))))
  refine j_valw rfl (fun a w ha hH hf=>r_loadA ag78 so78 rfl rfl (hcell w (hf.keepAll (.inr rfl))) ha) (j_allocA (zs:=[(.int .u64 0),(.int .u64 0),(.int .u64 0),(.int .u64 0),(.string ⟨#[]⟩),(.string ⟨#[]⟩),(.bool false),(.bool false),(.bool false),(.bool false)]) zv78 rfl fun b7=>jB [_,_,_,_,_,_,_,_,_,_] [_,_,_] 0 so78 (k:=K8 (cj_reg (jM (k:=jF 0 ru78 so76 (k:=jH 0 ag76 (k:=?_)))))))
  refine j_bslice1 ru100 so76 zv76 rfl rfl rfl rfl rfl fun b24=>?_
  refine j_appO 1 rfl hA ru100 el76 rfl rfl rfl rfl rfl (by omega) rfl fun y25 p25 c25 hO25=>?_
  refine jA (k:=K7 (CJ.t [(1,_),(3,_),(4,_),(5,_),(15,_),(16,_),(17,_)] (k:=cj_reg (jI (k:=jM (k:=j_nil (ej_then ?_)))))))
  exact fun w hH hf=>hKL (k+1,y25,p25,c25) _ w ⟨hk',by rw[← ids_step (g:=fun m=>.int .u64 m.id) hk'];exact hO25⟩ hf hH.2.2.2 (by simp only;omega) sR
 ·have hA':Own 76 1 yA pA k cA (x.mappings.map fun m=>.int .u64 m.id):=by rw[List.take_of_length_le (by omega)]at hA;exact hA
  refine cj_exit (K3 (sQ fun K9=>sQ fun K10=>cj_reg (jF 5 ru33 so28 (k:=jH 1 ag28 (k:=jE ru28 (k:=jM (k:=K10 (cj_block ?_))))))))
  refine cj_loop (σ:=Nat×Ent×Option Addr×Nat) (fun s=>[(1,.pointer (some ⟨b1,0,none⟩)),(3,.slice pA k cA),(4,.slice s.2.2.1 s.1 s.2.2.2),(5,.slice none 0 0),(28,.slice pf x.funcs.length cf),(29,.int .i64 (x.funcs.length:Nat)),(30,.int .i64 (s.1:Nat))])
   (fun s=>[s.2.1,yA,⟨b1,33,[la,.string x.deflt,ls,.slice pm x.mappings.length cm,.slice pl x.locs.length cl,.slice pf x.funcs.length cf,lcm,.string x.drop,.string x.keep,.int .i64 x.time,.int .i64 x.dur,.int .i64 x.period,.string x.per.ty,.string x.per.unit],true,true,none⟩])
   (fun s _=>s.1≤x.funcs.length∧Own 76 1 s.2.1 s.2.2.1 s.1 s.2.2.2 ((x.funcs.take s.1).map fun m=>.int .u64 m.id))
   (fun s=>x.funcs.length - s.1) (0,nilE 76,none,0) sR (fun w hH hf=>⟨hH.off,Nat.zero_le _,Own.nil⟩) ?_
  rintro ⟨m,yB,pB,cB⟩ w2 ⟨hm,hB⟩ hf2 hH2 KL hKL
  refine C.begin _ _ hf2 hH2 ?_
  try dsimp only
  refine sQ fun K11=>cj_reg (jS (k:=K11 (sQ fun K12=>?_)))
  refine cj_dec rfl (fun h31=>?_) (fun h31=>?_)
  ·have hm':m<x.funcs.length:=by omega
   obtain ⟨b,o,cs,rfl,hcs,hR,hcell⟩:=hxf m x.funcs[m] (List.getElem?_eq_getElem hm')
   obtain ⟨rfl,hwk, -⟩:=hR
   refine cj_skip (K12 (sQ fun K13=>cj_block (sQ fun K14=>cj_reg (jJ ru28 so83 (k:=?_)))))
   refine j_valw rfl (fun a w ha hH hf=>r_loadA ag83 so83 rfl rfl (hcell w (hf.keepAll (.inr rfl))) ha) (j_allocA (zs:=[(.int .u64 0),(.string ⟨#[]⟩),(.string ⟨#[]⟩),(.string ⟨#[]⟩),(.int .i64 0)]) zv83 rfl fun b9=>jB [_,_,_,_,_] [_,_,_,_] 0 so83 (k:=K14 (cj_reg (jM (k:=jF 0 ru83 so76 (k:=jH 0 ag76 (k:=?_)))))))
   refine j_bslice1 ru100 so76 zv76 rfl rfl rfl rfl rfl fun b37=>?_
   refine j_appO 1 rfl hB ru100 el76 rfl rfl rfl rfl rfl (by omega) rfl fun y38 p38 c38 hO38=>?_
   refine jA (k:=K13 (CJ.t [(1,_),(3,_),(4,_),(5,_),(28,_),(29,_),(30,_)] (k:=cj_reg (jI (k:=jM (k:=j_nil (ej_then ?_)))))))
   exact fun w hH hf=>hKL (m+1,y38,p38,c38) _ w ⟨hm',by rw[← ids_step (g:=fun m=>.int .u64 m.id) hm'];exact hO38⟩ hf hH.2.2.2 (by simp only;omega) sR
  ·have hB':Own 76 1 yB pB m cB (x.funcs.map fun m=>.int .u64 m.id):=by rw[List.take_of_length_le (by omega)]at hB;exact hB
   refine cj_exit (K9 (sQ fun K15=>sQ fun K16=>cj_reg (jF 4 ru33 so27 (k:=jH 2 ag27 (k:=jE ru27 (k:=jM (k:=K16 (cj_block ?_))))))))
   refine cj_loop (σ:=Nat×Ent×Option Addr×Nat) (fun s=>[(1,.pointer (some ⟨b1,0,none⟩)),(3,.slice pA k cA),(4,.slice pB m cB),(5,.slice s.2.2.1 s.1 s.2.2.2),(41,.slice pl x.locs.length cl),(42,.int .i64 (x.locs.length:Nat)),(43,.int .i64 (s.1:Nat))])
    (fun s=>[s.2.1,yB,yA,⟨b1,33,[la,.string x.deflt,ls,.slice pm x.mappings.length cm,.slice pl x.locs.length cl,.slice pf x.funcs.length cf,lcm,.string x.drop,.string x.keep,.int .i64 x.time,.int .i64 x.dur,.int .i64 x.period,.string x.per.ty,.string x.per.unit],true,true,none⟩])
    (fun s _=>s.1≤x.locs.length∧Own 76 1 s.2.1 s.2.2.1 s.1 s.2.2.2 ((x.locs.take s.1).map fun m=>.int .u64 m.id)∧∀l∈x.locs.take s.1,(-1≤l.mapping∧l.mapping<x.mappings.length)∧l.lines.length≤60∧∀n∈l.lines, -1≤n.fn∧n.fn<x.funcs.length)
    (fun s=>x.locs.length - s.1) (0,nilE 76,none,0) sR (fun w hH hf=>⟨hH.off,Nat.zero_le _,Own.nil,by simp⟩) ?_
   rintro ⟨i,yC,pC,cC⟩ w3 ⟨hi,hC,hL⟩ hf3 hH3 KL hKL
   refine C.begin _ _ hf3 hH3 ?_
   try dsimp only
   refine sQ fun K17=>cj_reg (jS (k:=K17 (sQ fun K18=>?_)))
   refine cj_dec rfl (fun h44=>?_) (fun h44=>?_)
   ·have hi':i<x.locs.length:=by omega
    obtain ⟨b,o,cs,rfl,hcs,hR,hcell⟩:=hxl i x.locs[i] (List.getElem?_eq_getElem hi')
    obtain ⟨l1,rfl,hwk, -, -,hl1⟩:=hR
    obtain ⟨p1,c1,rfl,hs1,hx1⟩:=hl1.open
    refine cj_skip (K18 (sQ fun K19=>cj_block (sQ fun K20=>cj_reg (jJ ru27 so89 (k:=?_)))))
    refine j_valw rfl (fun a w ha hH hf=>r_loadA ag89 so89 rfl rfl (hcell w (hf.keepAll (.inr rfl))) ha) (j_allocA (zs:=[(.int .u64 0),(.int .i64 0),(.int .u64 0),(.slice none 0 0)]) zv89 rfl fun b11=>jB [_,_,_,_] [_,_,_,_,_] 0 so89 (k:=K20 (sQ fun K21=>cj_reg (jM (k:=jF 0 ru89 so76 (k:=jH 0 ag76 (k:=?_)))))))
    refine j_bslice1 ru100 so76 zv76 rfl rfl rfl rfl rfl fun b50=>?_
    refine j_appO 1 rfl hC ru100 el76 rfl rfl rfl rfl rfl (by omega) rfl fun y51 p51 c51 hO51=>?_
    refine jA (k:=K21 (CJ.t [(1,_),(3,_),(4,_),(5,_),(11,_),(41,_),(42,_),(43,_)] (k:=sQ fun K22=>sQ fun K23=>cj_reg (jF 1 ru89 so3 (k:=jH 0 ag3 (k:=jS (k:=jM (k:=?_))))))))
    refine j_split (t:=55) rfl (fun hg55=>?_) (fun hg55=>?_)
    ·refine j_gf rfl rfl rfl rfl (j_gf rfl rfl rfl rfl (j_gf rfl rfl rfl rfl (j_gf rfl rfl rfl rfl (j_gf rfl rfl rfl rfl (j_gf rfl rfl rfl rfl (jT (k:=jM (k:=?_))))))))
     refine j_gf rfl rfl rfl rfl (j_gf rfl rfl rfl rfl (j_gf rfl rfl rfl rfl (j_gf rfl rfl rfl rfl (jT (k:=K23 (CJ.t [(1,_),(3,_),(4,_),(5,_),(11,_),(41,_),(42,_),(43,_),(68,_)] (k:=?_)))))))
     refine cj_if_t rfl (sQ fun K24=>cj_reg (jA (k:=K24 (cj_ret ?_))))
     first|exact ej_ret1 results27 rfl fun w' hH hf=>⟨⟨_,rfl,fun h=>absurd h (by decide)⟩,hf⟩|exact ej_ret1 results27 rfl fun w' hH hf=>⟨⟨_,rfl,fun h=>by subst h;exact ⟨hb90 hg91,hb93 hg95,hb97 rfl,by rw[List.take_of_length_le (by omega)]at hL;exact hL⟩⟩,hf⟩
    ·refine j_gt rfl rfl (jF 1 ru89 so3 (k:=?_))
     refine j_gt rfl rfl (jH 0 ag3 (k:=?_))
     refine j_gt rfl rfl (jF 3 ru33 so26 (k:=?_))
     refine j_gt rfl rfl (jH 4 ag26 (k:=?_))
     refine j_gt rfl rfl (jE ru26 (k:=?_))
     refine j_gt rfl rfl (j_val rfl (fun _ _ h=>r_geq rfl rfl h) (jK (k:=jM (k:=?_))))
     refine j_split (t:=63) rfl (fun hg63=>?_) (fun hg63=>?_)
     ·refine j_gf rfl rfl rfl rfl (j_gf rfl rfl rfl rfl (j_gf rfl rfl rfl rfl (j_gf rfl rfl rfl rfl (jT (k:=K23 (CJ.t [(1,_),(3,_),(4,_),(5,_),(11,_),(41,_),(42,_),(43,_),(68,_)] (k:=?_)))))))
      refine cj_if_t rfl (sQ fun K25=>cj_reg (jA (k:=K25 (cj_ret ?_))))
      first|exact ej_ret1 results27 rfl fun w' hH hf=>⟨⟨_,rfl,fun h=>absurd h (by decide)⟩,hf⟩|exact ej_ret1 results27 rfl fun w' hH hf=>⟨⟨_,rfl,fun h=>by subst h;exact ⟨hb90 hg91,hb93 hg95,hb97 rfl,by rw[List.take_of_length_le (by omega)]at hL;exact hL⟩⟩,hf⟩
     ·refine j_gt rfl rfl (jF 3 ru89 so87 (k:=?_))
      refine j_gt rfl rfl (jH 0 ag87 (k:=?_))
      refine j_gt rfl rfl (jE ru87 (k:=?_))
      refine j_gt rfl rfl (jG (k:=jK (k:=K23 ?_)))
      refine cj_if rfl (fun h68=>?_) (fun h68=>?_)
      ·refine sQ fun K26=>cj_reg (jA (k:=K26 (CJ.t [(2,_)] (k:=cj_ret ?_))))
       first|exact ej_ret1 results27 rfl fun w' hH hf=>⟨⟨_,rfl,fun h=>absurd h (by decide)⟩,hf⟩|exact ej_ret1 results27 rfl fun w' hH hf=>⟨⟨_,rfl,fun h=>by subst h;exact ⟨hb90 hg91,hb93 hg95,hb97 rfl,by rw[List.take_of_length_le (by omega)]at hL;exact hL⟩⟩,hf⟩
      ·refine cj_skip (K22 (sQ fun K27=>cj_reg (jF 3 ru89 so87 (k:=jH 0 ag87 (k:=jE ru87 (k:=jM (k:=K27 (cj_block ?_))))))))
       refine cj_loop (σ:=Nat) (fun j=>[(1,.pointer (some ⟨b1,0,none⟩)),(3,.slice pA k cA),(4,.slice pB m cB),(5,.slice p51 (i+1) c51),(41,.slice (some ⟨b,o,none⟩) x.locs.length cl),(42,.int .i64 (x.locs.length:Nat)),(43,.int .i64 (i:Nat)),(70,.slice p1 x.locs[i].lines.length c1),(71,.int .i64 (x.locs[i].lines.length:Nat)),(72,.int .i64 (j:Nat))])
        (fun _=>[y51,yB,yA,⟨b1,33,[la,.string x.deflt,ls,.slice pm x.mappings.length cm,.slice (some ⟨b,o,none⟩) x.locs.length cl,.slice pf x.funcs.length cf,lcm,.string x.drop,.string x.keep,.int .i64 x.time,.int .i64 x.dur,.int .i64 x.period,.string x.per.ty,.string x.per.unit],true,true,none⟩])
        (fun j _=>j≤x.locs[i].lines.length∧∀n∈x.locs[i].lines.take j, -1≤n.fn∧n.fn<x.funcs.length)
        (fun j=>x.locs[i].lines.length - j) 0 sR (fun w hH hf=>⟨hH.2.2.2,Nat.zero_le _,by simp⟩) ?_
       rintro j w4 ⟨hj,hN⟩ hf4 hH4 KL2 hKL2
       refine C.begin _ _ hf4 hH4 ?_
       refine sQ fun K28=>cj_reg (jS (k:=K28 (sQ fun K29=>?_)))
       refine cj_dec rfl (fun h73=>?_) (fun h73=>?_)
       ·have hj':j<x.locs[i].lines.length:=by omega
        obtain ⟨b',o',cs',rfl, -,hR2,hcell2⟩:=hx1 j x.locs[i].lines[j] (List.getElem?_eq_getElem hj')
        obtain ⟨rfl,hwn, -⟩:=hR2
        refine cj_skip (K29 (sQ fun K30=>cj_block (sQ fun K31=>cj_reg (jJ ru87 so95 (k:=?_)))))
        refine j_valw rfl (fun a w ha hH hf=>r_loadA ag95 so95 rfl rfl (hcell2 w (hf.keepAll (.inr rfl))) ha) (j_allocA (zs:=[(.int .i64 0),(.int .i64 0)]) zv95 rfl fun b13=>jB [_,_] [_,_,_,_,_] 0 so95 (k:=K31 (sQ fun K32=>cj_reg (jF 0 ru95 so3 (k:=jH 0 ag3 (k:=jS (k:=jM (k:=?_))))))))
        refine j_split (t:=79) rfl (fun hg79=>?_) (fun hg79=>?_)
        ·refine j_gf rfl rfl rfl rfl (j_gf rfl rfl rfl rfl (j_gf rfl rfl rfl rfl (j_gf rfl rfl rfl rfl (j_gf rfl rfl rfl rfl (j_gf rfl rfl rfl rfl (jT (k:=K32 (CJ.t [(1,_),(3,_),(4,_),(5,_),(41,_),(42,_),(43,_),(70,_),(71,_),(72,_),(86,_)] (k:=?_)))))))))
         refine cj_if_t rfl (sQ fun K33=>cj_reg (jA (k:=K33 (cj_ret ?_))))
         first|exact ej_ret1 results27 rfl fun w' hH hf=>⟨⟨_,rfl,fun h=>absurd h (by decide)⟩,hf⟩|exact ej_ret1 results27 rfl fun w' hH hf=>⟨⟨_,rfl,fun h=>by subst h;exact ⟨hb90 hg91,hb93 hg95,hb97 rfl,by rw[List.take_of_length_le (by omega)]at hL;exact hL⟩⟩,hf⟩
        ·refine j_gt rfl rfl (jF 0 ru95 so3 (k:=?_))
         refine j_gt rfl rfl (jH 0 ag3 (k:=?_))
         refine j_gt rfl rfl (jF 5 ru33 so28 (k:=?_))
         refine j_gt rfl rfl (jH 4 ag28 (k:=?_))
         refine j_gt rfl rfl (jE ru28 (k:=?_))
         refine j_gt rfl rfl (j_val rfl (fun _ _ h=>r_geq rfl rfl h) (jK (k:=K32 (CJ.t [(1,_),(3,_),(4,_),(5,_),(41,_),(42,_),(43,_),(70,_),(71,_),(72,_),(86,_)] (k:=?_)))))
         refine cj_if rfl (fun h86=>?_) (fun h86=>?_)
         ·refine sQ fun K34=>cj_reg (jA (k:=K34 (cj_ret ?_)))
          first|exact ej_ret1 results27 rfl fun w' hH hf=>⟨⟨_,rfl,fun h=>absurd h (by decide)⟩,hf⟩|exact ej_ret1 results27 rfl fun w' hH hf=>⟨⟨_,rfl,fun h=>by subst h;exact ⟨hb90 hg91,hb93 hg95,hb97 rfl,by rw[List.take_of_length_le (by omega)]at hL;exact hL⟩⟩,hf⟩
         ·refine cj_skip (K30 (cj_reg (jI (k:=jM (k:=j_nil (ej_then ?_))))))
          exact fun w hH hf=>hKL2 (j+1) _ w ⟨hj',all_step hj' hN (by simp at hg79 h86;omega)⟩ hf hH.2.2.2 (by omega) sR
       ·refine cj_exit (K19 (cj_reg (jI (k:=jM (k:=j_nil (ej_then ?_))))))
        exact fun w hH hf=>hKL (i+1,y51,p51,c51) _ w ⟨hi',by rw[← ids_step (g:=fun m=>.int .u64 m.id) hi'];exact hO51,all_step hi' hL (by rw[List.take_of_length_le (by omega)]at hN;refine ⟨?_,le60_of h68,hN⟩;simp at hg55 hg63;omega)⟩ hf hH (by simp only;omega) sR
   ·have hC':Own 76 1 yC pC i cC (x.locs.map fun m=>.int .u64 m.id):=by rw[List.take_of_length_le (by omega)]at hC;exact hC
    refine cj_exit (K15 (sQ fun K35=>cj_reg (jM (k:=?_))))
    refine j_callQ (φ:=fun v=>∃b,v=.bool b∧(b=true→_)) call50 rfl rfl (fun w hH hf=>ids_c w _ (x.mappings.map (·.id)) (Own.lay (g:=.int .u64) (by rw[← map_comp];exact hA') hH (i:=2) rfl (by omega) (by
     intro n hn
     obtain ⟨q,hq,rfl⟩:=List.mem_map.1 hn
     exact ⟨rfl,hKm.each (fun c y hy=>hy.2.1) q hq⟩))) ?_
    rintro _ ⟨b90,rfl,hb90⟩
    refine jM (k:=?_)
    refine j_split (t:=91) rfl (fun hg91=>?_) (fun hg91=>?_)
    ·refine j_gt rfl rfl (jM (k:=?_))
     refine j_gt rfl rfl ?_
     refine j_callQ (φ:=fun v=>∃b,v=.bool b∧(b=true→_)) call50 rfl rfl (fun w hH hf=>ids_c w _ (x.funcs.map (·.id)) (Own.lay (g:=.int .u64) (by rw[← map_comp];exact hB') hH (i:=1) rfl (by omega) (by
      intro n hn
      obtain ⟨q,hq,rfl⟩:=List.mem_map.1 hn
      exact ⟨rfl,hKf.each (fun c y hy=>hy.2.1) q hq⟩))) ?_
     rintro _ ⟨b93,rfl,hb93⟩
     refine jT (k:=jM (k:=?_))
     refine j_split (t:=95) rfl (fun hg95=>?_) (fun hg95=>?_)
     ·refine j_gt rfl rfl (jM (k:=?_))
      refine j_gt rfl rfl ?_
      refine j_callQ (φ:=fun v=>∃b,v=.bool b∧(b=true→_)) call50 rfl rfl (fun w hH hf=>ids_c w _ (x.locs.map (·.id)) (Own.lay (g:=.int .u64) (by rw[← map_comp];exact hC') hH (i:=0) rfl (by omega) (by
       intro n hn
       obtain ⟨q,hq,rfl⟩:=List.mem_map.1 hn
       exact ⟨rfl,hKl.each (fun c y hy=>by obtain ⟨_,_,h,_⟩:=hy;exact h) q hq⟩))) ?_
      rintro _ ⟨b97,rfl,hb97⟩
      refine jT (k:=jA (k:=K35 (CJ.t [(2,_)] (k:=cj_ret ?_))))
      first|exact ej_ret1 results27 rfl fun w' hH hf=>⟨⟨_,rfl,fun h=>absurd h (by decide)⟩,hf⟩|exact ej_ret1 results27 rfl fun w' hH hf=>⟨⟨_,rfl,fun h=>by subst h;exact ⟨hb90 hg91,hb93 hg95,hb97 rfl,by rw[List.take_of_length_le (by omega)]at hL;exact hL⟩⟩,hf⟩
     ·refine j_gf rfl rfl rfl rfl (j_gf rfl rfl rfl rfl (jK (k:=jA (k:=K35 (cj_ret ?_)))))
      first|exact ej_ret1 results27 rfl fun w' hH hf=>⟨⟨_,rfl,fun h=>absurd h (by decide)⟩,hf⟩|exact ej_ret1 results27 rfl fun w' hH hf=>⟨⟨_,rfl,fun h=>by subst h;exact ⟨hb90 hg91,hb93 hg95,hb97 rfl,by rw[List.take_of_length_le (by omega)]at hL;exact hL⟩⟩,hf⟩
    ·refine j_gf rfl rfl rfl rfl (j_gf rfl rfl rfl rfl (jK (k:=jM (k:=?_))))
     refine j_gf rfl rfl rfl rfl (j_gf rfl rfl rfl rfl (jK (k:=jA (k:=K35 (CJ.t [(2,_)] (k:=cj_ret ?_))))))
     first|exact ej_ret1 results27 rfl fun w' hH hf=>⟨⟨_,rfl,fun h=>absurd h (by decide)⟩,hf⟩|exact ej_ret1 results27 rfl fun w' hH hf=>⟨⟨_,rfl,fun h=>by subst h;exact ⟨hb90 hg91,hb93 hg95,hb97 rfl,by rw[List.take_of_length_le (by omega)]at hL;exact hL⟩⟩,hf⟩
structure WellP (x:PProf):Prop where
 samples:∀s∈x.samples,s.values.length=x.types.length∧x.types.length≠0∧s.stack.length≤60∧LabP s∧∀k∈s.stack,0≤k∧k<x.locs.length
 nsam:x.samples.length≤60
 ntyp:x.types.length≤60
 ncom:x.comments.length≤60
 tab:TabP x
theorem eqz_of {a b:Nat} (h:decide ((a:Int)≠(b:Int))=false):a=b:=by simp at h;omega
theorem nez_of {a:Nat} (h:decide ((a:Int)=0)=false):a≠0:=by simp at h;omega
set_option maxHeartbeats 1000000 in
theorem well_c (w:World) (cs:List Value) (x:PProf) (h:RProf w cs x) (hbm:x.mappings.length≤2147483647) (hbl:x.locs.length≤2147483647) (hbf:x.funcs.length≤2147483647):
  Calls Tryz.prog 10 #[.agg cs.toArray] w (Ret fun v w'=>(∃b,v=.bool b∧(b=true→WellP x))∧Fr 0 [] w w'):=by
 have hP:=h
 obtain ⟨la,ls,lm,ll,lf,lcm,rfl,hla,hls,hlm,hll,hlf,hlc, -⟩:=h
 obtain ⟨pt,ct,rfl,hbt, -⟩:=hla.open
 obtain ⟨ps,cs',rfl,hbs,hxs⟩:=hls.open
 obtain ⟨pl,cl,rfl, -, -⟩:=hll.open
 obtain ⟨pc,cc,rfl,hbc, -⟩:=hlc.open
 refine startJ (args:=[_]) [(0,_)] 0 [] [] func10 rfl ntmps10 rfl rfl .nil ?_
 refine sQ fun K1=>cj_reg (j_boxA (vs:=[_,_,_,_,_,_,_,_,_,_,_,_,_,_]) rfl rfl fun b1=>jA (k:=K1 (sQ fun K2=>sQ fun K3=>cj_reg (jF 2 ru33 so25 (k:=jH 0 ag25 (k:=jE ru25 (k:=jM (k:=K3 (cj_block ?_)))))))))
 refine cj_loop (σ:=Nat) (fun k=>[(1,.pointer (some ⟨b1,0,none⟩)),(8,.slice ps x.samples.length cs'),(9,.int .i64 (x.samples.length:Nat)),(10,.int .i64 (k:Nat))])
  (fun _=>[⟨b1,33,[.slice pt x.types.length ct,.string x.deflt,.slice ps x.samples.length cs',lm,.slice pl x.locs.length cl,lf,.slice pc x.comments.length cc,.string x.drop,.string x.keep,.int .i64 x.time,.int .i64 x.dur,.int .i64 x.period,.string x.per.ty,.string x.per.unit],true,true,none⟩])
  (fun k _=>k≤x.samples.length∧∀s∈x.samples.take k,s.values.length=x.types.length∧x.types.length≠0∧s.stack.length≤60∧LabP s∧∀k∈s.stack,0≤k∧k<x.locs.length)
  (fun k=>x.samples.length - k) 0 sR (fun w hH hf=>⟨hH,Nat.zero_le _,by simp⟩) ?_
 rintro k w1 ⟨hk,hS⟩ hf1 hH1 KL hKL
 refine C.begin _ _ hf1 hH1 ?_
 refine sQ fun K4=>cj_reg (jS (k:=K4 (sQ fun K5=>?_)))
 refine cj_dec rfl (fun h11=>?_) (fun h11=>?_)
 ·have hk':k<x.samples.length:=by omega
  obtain ⟨b,o,cs,rfl,hcs,hR,hcell⟩:=hxs k x.samples[k] (List.getElem?_eq_getElem hk')
  have hR':=hR
  obtain ⟨l1,l2,l3,l4,rfl,hl1,hl2,hl3,hl4⟩:=hR
  obtain ⟨p1,c1,rfl,hs1,hx1⟩:=hl1.open
  obtain ⟨p2,c2,rfl,hs2, -⟩:=hl2.open
  obtain ⟨p3,c3,rfl, -, -⟩:=hl3.open
  obtain ⟨p4,c4,rfl, -, -⟩:=hl4.open
  refine cj_skip (K5 (sQ fun K6=>cj_block (sQ fun K7=>cj_reg (jJ ru25 so55 (k:=?_)))))
  refine j_valw rfl (fun a w ha hH hf=>r_loadA ag55 so55 rfl rfl (hcell w (hf.keepAll (.inr rfl))) ha) (j_allocA (zs:=[(.slice none 0 0),(.slice none 0 0),(.slice none 0 0),(.slice none 0 0)]) zv55 rfl fun b4=>jB [_,_,_,_] [_,_] 0 so55 (k:=K7 (sQ fun K8=>sQ fun K9=>cj_reg (jF 1 ru55 so49 (k:=jH 0 ag49 (k:=jE ru49 (k:=jF 0 ru33 so24 (k:=jH 1 ag24 (k:=jE ru24 (k:=?_))))))))))
  refine j_val rfl (fun _ _ h=>r_neq rfl rfl h) (jM (k:=?_))
  refine j_split (t:=21) rfl (fun hg21=>?_) (fun hg21=>?_)
  ·refine j_gf rfl rfl rfl rfl (j_gf rfl rfl rfl rfl (j_gf rfl rfl rfl rfl (j_gf rfl rfl rfl rfl (jT (k:=jM (k:=?_))))))
   refine j_gf rfl rfl rfl rfl (j_gf rfl rfl rfl rfl (j_gf rfl rfl rfl rfl (j_gf rfl rfl rfl rfl (jT (k:=jM (k:=?_))))))
   refine j_gf rfl rfl rfl rfl (j_gf rfl rfl rfl rfl (j_gf rfl rfl rfl rfl (jT (k:=K9 (CJ.t [(1,_),(4,_),(8,_),(9,_),(10,_),(37,_)] (k:=?_))))))
   refine cj_if_t rfl (sQ fun K10=>cj_reg (jA (k:=K10 (cj_ret ?_))))
   first|exact ej_ret1 results10 rfl fun w' hH hf=>⟨⟨_,rfl,fun h=>absurd h (by decide)⟩,hf⟩|exact ej_ret1 results10 rfl fun w' hH hf=>⟨⟨_,rfl,fun h=>by subst h;simp at hg60 hg66 hg72;exact ⟨by rw[List.take_of_length_le (by omega)]at hS;exact hS,by omega,by omega,by omega,hb74 rfl⟩⟩,hf⟩
  ·refine j_gt rfl rfl (jF 0 ru33 so24 (k:=?_))
   refine j_gt rfl rfl (jH 1 ag24 (k:=?_))
   refine j_gt rfl rfl (jE ru24 (k:=?_))
   refine j_gt rfl rfl (jQ (k:=jK (k:=jM (k:=?_))))
   refine j_split (t:=27) rfl (fun hg27=>?_) (fun hg27=>?_)
   ·refine j_gf rfl rfl rfl rfl (j_gf rfl rfl rfl rfl (j_gf rfl rfl rfl rfl (j_gf rfl rfl rfl rfl (jT (k:=jM (k:=?_))))))
    refine j_gf rfl rfl rfl rfl (j_gf rfl rfl rfl rfl (j_gf rfl rfl rfl rfl (jT (k:=K9 (CJ.t [(1,_),(4,_),(8,_),(9,_),(10,_),(37,_)] (k:=?_))))))
    refine cj_if_t rfl (sQ fun K11=>cj_reg (jA (k:=K11 (cj_ret ?_))))
    first|exact ej_ret1 results10 rfl fun w' hH hf=>⟨⟨_,rfl,fun h=>absurd h (by decide)⟩,hf⟩|exact ej_ret1 results10 rfl fun w' hH hf=>⟨⟨_,rfl,fun h=>by subst h;simp at hg60 hg66 hg72;exact ⟨by rw[List.take_of_length_le (by omega)]at hS;exact hS,by omega,by omega,by omega,hb74 rfl⟩⟩,hf⟩
   ·refine j_gt rfl rfl (jF 0 ru55 so51 (k:=?_))
    refine j_gt rfl rfl (jH 0 ag51 (k:=?_))
    refine j_gt rfl rfl (jE ru51 (k:=?_))
    refine j_gt rfl rfl (jG (k:=jK (k:=jM (k:=?_))))
    refine j_split (t:=33) rfl (fun hg33=>?_) (fun hg33=>?_)
    ·refine j_gf rfl rfl rfl rfl (j_gf rfl rfl rfl rfl (j_gf rfl rfl rfl rfl (jT (k:=K9 (CJ.t [(1,_),(4,_),(8,_),(9,_),(10,_),(37,_)] (k:=?_))))))
     refine cj_if_t rfl (sQ fun K12=>cj_reg (jA (k:=K12 (cj_ret ?_))))
     first|exact ej_ret1 results10 rfl fun w' hH hf=>⟨⟨_,rfl,fun h=>absurd h (by decide)⟩,hf⟩|exact ej_ret1 results10 rfl fun w' hH hf=>⟨⟨_,rfl,fun h=>by subst h;simp at hg60 hg66 hg72;exact ⟨by rw[List.take_of_length_le (by omega)]at hS;exact hS,by omega,by omega,by omega,hb74 rfl⟩⟩,hf⟩
    ·refine j_gt rfl rfl (j_valw rfl (fun a w ha hH hf=>r_ldA (vs:=[_,_,_,_]) 0 rfl rfl ag55 so55 rfl rfl rfl ha hH) (j_gt rfl rfl ?_))
     refine j_callQ (φ:=fun v=>∃b,v=.bool b∧(b=true→LabP x.samples[k])) call26 rfl rfl (fun w hH hf=>labeled_c w _ _ (RSample.keep (hf.keepAll (.inr rfl)) _ _ hR')) ?_
     rintro _ ⟨b35,rfl,hb35⟩
     refine j_gt rfl rfl (jU (k:=jK (k:=K9 ?_)))
     refine cj_if rfl (fun h37=>?_) (fun h37=>?_)
     ·refine sQ fun K13=>cj_reg (jA (k:=K13 (cj_ret ?_)))
      first|exact ej_ret1 results10 rfl fun w' hH hf=>⟨⟨_,rfl,fun h=>absurd h (by decide)⟩,hf⟩|exact ej_ret1 results10 rfl fun w' hH hf=>⟨⟨_,rfl,fun h=>by subst h;simp at hg60 hg66 hg72;exact ⟨by rw[List.take_of_length_le (by omega)]at hS;exact hS,by omega,by omega,by omega,hb74 rfl⟩⟩,hf⟩
     ·refine cj_skip (K8 (sQ fun K14=>cj_reg (jF 0 ru55 so51 (k:=jH 0 ag51 (k:=jE ru51 (k:=jM (k:=K14 (CJ.t [(1,_),(8,_),(9,_),(10,_),(39,_),(40,_),(41,_)] (k:=cj_block ?_)))))))))
      refine cj_loop (σ:=Nat) (fun j=>[(1,.pointer (some ⟨b1,0,none⟩)),(8,.slice (some ⟨b,o,none⟩) x.samples.length cs'),(9,.int .i64 (x.samples.length:Nat)),(10,.int .i64 (k:Nat)),(39,.slice p1 x.samples[k].stack.length c1),(40,.int .i64 (x.samples[k].stack.length:Nat)),(41,.int .i64 (j:Nat))])
       (fun _=>[⟨b1,33,[.slice pt x.types.length ct,.string x.deflt,.slice (some ⟨b,o,none⟩) x.samples.length cs',lm,.slice pl x.locs.length cl,lf,.slice pc x.comments.length cc,.string x.drop,.string x.keep,.int .i64 x.time,.int .i64 x.dur,.int .i64 x.period,.string x.per.ty,.string x.per.unit],true,true,none⟩])
       (fun j _=>j≤x.samples[k].stack.length∧∀n∈x.samples[k].stack.take j,0≤n∧n<x.locs.length)
       (fun j=>x.samples[k].stack.length - j) 0 sR (fun w hH hf=>⟨hH.2.2.2,Nat.zero_le _,by simp⟩) ?_
      rintro j w2 ⟨hj,hN⟩ hf2 hH2 KL2 hKL2
      refine C.begin _ _ hf2 hH2 ?_
      refine sQ fun K15=>cj_reg (jS (k:=K15 (sQ fun K16=>?_)))
      refine cj_dec rfl (fun h42=>?_) (fun h42=>?_)
      ·have hj':j<x.samples[k].stack.length:=by omega
       obtain ⟨b',o',cs2,rfl, -,hR2,hcell2⟩:=hx1 j x.samples[k].stack[j] (List.getElem?_eq_getElem hj')
       obtain ⟨rfl,hwn⟩:=hR2
       refine cj_skip (K16 (sQ fun K17=>cj_block (sQ fun K18=>cj_reg (jJ ru51 so3 (k:=?_)))))
       refine j_valw rfl (fun a w ha hH hf=>r_load ag3 rfl (hcell2 w (hf.keepAll (.inr rfl)) 0 _ rfl) ha) (jA (k:=K18 (sQ fun K19=>cj_reg (jM (k:=jS (k:=jM (k:=?_)))))))
       refine j_split (t:=47) rfl (fun hg47=>?_) (fun hg47=>?_)
       ·refine j_gf rfl rfl rfl rfl (j_gf rfl rfl rfl rfl (j_gf rfl rfl rfl rfl (j_gf rfl rfl rfl rfl (j_gf rfl rfl rfl rfl (jT (k:=K19 (CJ.t [(1,_),(8,_),(9,_),(10,_),(39,_),(40,_),(41,_),(53,_)] (k:=?_))))))))
        refine cj_if_t rfl (sQ fun K20=>cj_reg (jA (k:=K20 (cj_ret ?_))))
        first|exact ej_ret1 results10 rfl fun w' hH hf=>⟨⟨_,rfl,fun h=>absurd h (by decide)⟩,hf⟩|exact ej_ret1 results10 rfl fun w' hH hf=>⟨⟨_,rfl,fun h=>by subst h;simp at hg60 hg66 hg72;exact ⟨by rw[List.take_of_length_le (by omega)]at hS;exact hS,by omega,by omega,by omega,hb74 rfl⟩⟩,hf⟩
       ·refine j_gt rfl rfl (jM (k:=?_))
        refine j_gt rfl rfl (jF 4 ru33 so27 (k:=?_))
        refine j_gt rfl rfl (jH 0 ag27 (k:=?_))
        refine j_gt rfl rfl (jE ru27 (k:=?_))
        refine j_gt rfl rfl (j_val rfl (fun _ _ h=>r_geq rfl rfl h) (jK (k:=K19 (CJ.t [(1,_),(8,_),(9,_),(10,_),(39,_),(40,_),(41,_),(53,_)] (k:=?_)))))
        refine cj_if rfl (fun h53=>?_) (fun h53=>?_)
        ·refine sQ fun K21=>cj_reg (jA (k:=K21 (cj_ret ?_)))
         first|exact ej_ret1 results10 rfl fun w' hH hf=>⟨⟨_,rfl,fun h=>absurd h (by decide)⟩,hf⟩|exact ej_ret1 results10 rfl fun w' hH hf=>⟨⟨_,rfl,fun h=>by subst h;simp at hg60 hg66 hg72;exact ⟨by rw[List.take_of_length_le (by omega)]at hS;exact hS,by omega,by omega,by omega,hb74 rfl⟩⟩,hf⟩
        ·refine cj_skip (K17 (cj_reg (jI (k:=jM (k:=j_nil (ej_then ?_))))))
         exact fun w hH hf=>hKL2 (j+1) _ w ⟨hj',all_step hj' hN (by simp at hg47 h53;omega)⟩ hf hH (by omega) sR
      ·refine cj_exit (K6 (cj_reg (jI (k:=jM (k:=j_nil (ej_then ?_))))))
       exact fun w hH hf=>hKL (k+1) _ w ⟨hk',all_step hk' hS (by rw[List.take_of_length_le (by omega)]at hN;exact ⟨eqz_of hg21,nez_of hg27,le60_of hg33,hb35 (by simpa using h37),hN⟩)⟩ hf hH (by omega) sR
 ·refine cj_exit (K2 (sQ fun K22=>cj_reg (jF 2 ru33 so25 (k:=jH 0 ag25 (k:=jE ru25 (k:=?_))))))
  refine j_val rfl (fun _ _ h=>r_leq rfl rfl h) (jM (k:=?_))
  refine j_split (t:=60) rfl (fun hg60=>?_) (fun hg60=>?_)
  ·refine j_gt rfl rfl (jF 0 ru33 so24 (k:=?_))
   refine j_gt rfl rfl (jH 0 ag24 (k:=?_))
   refine j_gt rfl rfl (jE ru24 (k:=?_))
   refine j_gt rfl rfl (j_val rfl (fun _ _ h=>r_leq rfl rfl h) (jT (k:=jM (k:=?_))))
   refine j_split (t:=66) rfl (fun hg66=>?_) (fun hg66=>?_)
   ·refine j_gt rfl rfl (jF 6 ru33 so29 (k:=?_))
    refine j_gt rfl rfl (jH 0 ag29 (k:=?_))
    refine j_gt rfl rfl (jE ru29 (k:=?_))
    refine j_gt rfl rfl (j_val rfl (fun _ _ h=>r_leq rfl rfl h) (jT (k:=jM (k:=?_))))
    refine j_split (t:=72) rfl (fun hg72=>?_) (fun hg72=>?_)
    ·refine j_gt rfl rfl (j_valw rfl (fun a w ha hH hf=>r_ldA (vs:=[_,_,_,_,_,_,_,_,_,_,_,_,_,_]) 0 rfl rfl ag33 so33 rfl rfl rfl ha hH) (j_gt rfl rfl ?_))
     refine j_callQ (φ:=fun v=>∃b,v=.bool b∧(b=true→TabP x)) call27 rfl rfl (fun w hH hf=>tables_c w _ _ (RProf.keep (hf.keepAll (.inr rfl)) _ _ hP) hbm hbl hbf) ?_
     rintro _ ⟨b74,rfl,hb74⟩
     refine jT (k:=jA (k:=K22 (CJ.t [(2,_)] (k:=cj_ret ?_))))
     first|exact ej_ret1 results10 rfl fun w' hH hf=>⟨⟨_,rfl,fun h=>absurd h (by decide)⟩,hf⟩|exact ej_ret1 results10 rfl fun w' hH hf=>⟨⟨_,rfl,fun h=>by subst h;simp at hg60 hg66 hg72;exact ⟨by rw[List.take_of_length_le (by omega)]at hS;exact hS,by omega,by omega,by omega,hb74 rfl⟩⟩,hf⟩
    ·refine j_gf rfl rfl rfl rfl (j_gf rfl rfl rfl rfl (jK (k:=jA (k:=K22 (cj_ret ?_)))))
     first|exact ej_ret1 results10 rfl fun w' hH hf=>⟨⟨_,rfl,fun h=>absurd h (by decide)⟩,hf⟩|exact ej_ret1 results10 rfl fun w' hH hf=>⟨⟨_,rfl,fun h=>by subst h;simp at hg60 hg66 hg72;exact ⟨by rw[List.take_of_length_le (by omega)]at hS;exact hS,by omega,by omega,by omega,hb74 rfl⟩⟩,hf⟩
   ·refine j_gf rfl rfl rfl rfl (j_gf rfl rfl rfl rfl (j_gf rfl rfl rfl rfl (j_gf rfl rfl rfl rfl (jK (k:=jM (k:=?_))))))
    refine j_gf rfl rfl rfl rfl (j_gf rfl rfl rfl rfl (jK (k:=jA (k:=K22 (CJ.t [(2,_)] (k:=cj_ret ?_))))))
    first|exact ej_ret1 results10 rfl fun w' hH hf=>⟨⟨_,rfl,fun h=>absurd h (by decide)⟩,hf⟩|exact ej_ret1 results10 rfl fun w' hH hf=>⟨⟨_,rfl,fun h=>by subst h;simp at hg60 hg66 hg72;exact ⟨by rw[List.take_of_length_le (by omega)]at hS;exact hS,by omega,by omega,by omega,hb74 rfl⟩⟩,hf⟩
  ·refine j_gf rfl rfl rfl rfl (j_gf rfl rfl rfl rfl (j_gf rfl rfl rfl rfl (j_gf rfl rfl rfl rfl (jK (k:=jM (k:=?_))))))
   refine j_gf rfl rfl rfl rfl (j_gf rfl rfl rfl rfl (j_gf rfl rfl rfl rfl (j_gf rfl rfl rfl rfl (jK (k:=jM (k:=?_))))))
   refine j_gf rfl rfl rfl rfl (j_gf rfl rfl rfl rfl (jK (k:=jA (k:=K22 (CJ.t [(2,_)] (k:=cj_ret ?_))))))
   first|exact ej_ret1 results10 rfl fun w' hH hf=>⟨⟨_,rfl,fun h=>absurd h (by decide)⟩,hf⟩|exact ej_ret1 results10 rfl fun w' hH hf=>⟨⟨_,rfl,fun h=>by subst h;simp at hg60 hg66 hg72;exact ⟨by rw[List.take_of_length_le (by omega)]at hS;exact hS,by omega,by omega,by omega,hb74 rfl⟩⟩,hf⟩
theorem typeOf_c (w:World) (cs:List Value) (t:PType) (h:RType w cs t):Calls Tryz.prog 29 #[.agg cs.toArray] w (Ret fun v w'=>∃p,v=.pointer (some ⟨p,0,none⟩)∧Blk w' p tVT (cVT t)∧w.heap.size≤p∧Fr 0 [] w w'):=by
 unfold RType at h
 subst h
 refine startJ (args:=[_]) [(0,_)] 0 [] [] func29 rfl ntmps29 rfl rfl .nil ?_
 refine sQ fun K1=>cj_reg (j_boxA (vs:=[_,_]) rfl rfl fun b1=>jA (k:=K1 (sQ fun K2=>cj_reg (jF 0 ru31 so9 (k:=jH 0 ag9 (k:=jF 1 ru31 so9 (k:=jH 0 ag9 (k:=?_))))))))
 refine j_val rfl (fun _ _ h=>r_build (cs:=[_,_,(.int .i64 0),(.int .i64 0)]) bt122 rfl rfl h) (j_boxA (vs:=[_,_,_,_]) rfl rfl fun b8=>jA (k:=K2 (cj_ret ?_)))
 exact ej_ret1 results29 rfl fun w' hH hf=>⟨b8,rfl,hH.get (i:=0) rfl rfl,hH.fresh (i:=0) rfl rfl rfl,hf⟩
theorem bless_irrefl:∀a:List UInt8,Op.bytesLess a a=false
 |[]=>rfl
 |x::r=>by simp[Op.bytesLess,bless_irrefl r]
theorem bless_trans:∀a b c:List UInt8,Op.bytesLess a b=true→Op.bytesLess b c=true→Op.bytesLess a c=true
 |_,[],_,h,_=>by cases ‹List UInt8› <;>simp[Op.bytesLess]at h
 |_,_::_,[],_,h=>by simp[Op.bytesLess]at h
 |[],_::_,_::_,_,_=>by simp[Op.bytesLess]
 |x::a,y::b,z::c,h1,h2=>by
    simp only[Op.bytesLess,Bool.or_eq_true,decide_eq_true_eq,Bool.and_eq_true,beq_iff_eq]at h1 h2⊢
    rcases h1 with h1|⟨rfl,h1⟩
    ·rcases h2 with h2|⟨rfl,h2⟩
     ·exact .inl (UInt8.lt_trans h1 h2)
     ·exact .inl h1
    ·rcases h2 with h2|⟨rfl,h2⟩
     ·exact .inl h2
     ·exact .inr ⟨rfl,bless_trans a b c h1 h2⟩
theorem ltB_irrefl (a:ByteArray):ltB a a=false:=bless_irrefl _
theorem ltB_trans {a b c:ByteArray} (h1:ltB a b=true) (h2:ltB b c=true):ltB a c=true:=bless_trans _ _ _ h1 h2
theorem asc_lt {ks:List ByteArray} (h:∀(i:Nat) t u,ks[i]? =some t→ks[i+1]? =some u→ltB t u=true):∀(d i:Nat) t u,ks[i]? =some t→ks[i+d+1]? =some u→ltB t u=true
 |0,i,t,u,h1,h2=>h i t u h1 h2
 |d+1,i,t,u,h1,h2=>by
    have hl:=(List.getElem?_eq_some_iff.1 h2).1
    have h3:ks[i+d+1]? =some (ks[i+d+1]'(by omega)):=List.getElem?_eq_getElem (by omega)
    exact ltB_trans (asc_lt h d i t _ h1 h3) (h (i+d+1) _ u h3 (by rw[← h2];congr 1))
theorem asc_new {ks:List ByteArray} (h:∀(i:Nat) t u,ks[i]? =some t→ks[i+1]? =some u→ltB t u=true) {u:ByteArray} (hu:ks[k]? =some u):u∉ks.take k:=by
 intro hm
 obtain ⟨i,hi⟩:=List.mem_iff_getElem?.1 hm
 rw[List.getElem?_take]at hi
 split at hi
 ·rename_i hlt
  have:=asc_lt h (k - i - 1) i u u hi (by rw[show i+(k - i - 1)+1=k by omega];exact hu)
  rw[ltB_irrefl]at this
  cases this
 ·cases hi
theorem mset_new {κ:Type} [DecidableEq κ]:∀{ms:List (κ×Value)} {k:κ} {v:Value},k∉ms.map (·.1)→mset ms k v=ms++[(k,v)]
 |[],_,_,_=>rfl
 |(k',u)::r,k,v,h=>by
     simp only[List.map_cons,List.mem_cons,not_or]at h
     simp only[mset,if_neg h.1,mset_new h.2,List.cons_append]
def LabI (T:Nat) (w:World) (mo:Option Nat) (ent:Ent) (ks:List (ByteArray×List Value)) (k:Nat):Prop:=
 (k=0∧mo=none∧ent=nilE 0)∨∃mb es ck ms,mo=some mb∧ent=mpE mb es ck∧MEnc Value.string ms es ck∧ms.map (·.1)=(ks.take k).map (·.1)∧∀(i:Nat) m q,ms[i]? =some m→ks[i]? =some q→OS T 1 w m.2 q.2
theorem LabI.push {ks:List (ByteArray×List Value)} {mb ck:Nat} {ms:List (ByteArray×Value)} {es:List MapEntry} {key:ByteArray} {v:Value} (hk:k<ks.length) (hM:MEnc Value.string (mset ms key v) es ck)
  (hkeys:ms.map (·.1)=(ks.take k).map (·.1)) (hos:∀(i:Nat) m q,ms[i]? =some m→ks[i]? =some q→OS T 1 w m.2 q.2) (hkey:ks[k].1=key) (hnew:key∉(ks.take k).map (·.1)) (hv:OS T 1 w v ks[k].2):LabI T w (some mb) (mpE mb es ck) ks (k+1):=by
 rw[mset_new (by rw[hkeys];exact hnew)]at hM
 have hlen:ms.length=k:=by have:=congrArg List.length hkeys;simp at this;omega
 refine .inr ⟨mb,es,ck,_,rfl,rfl,hM,by rw[← List.take_append_getElem hk,List.map_append,List.map_append,hkeys,List.map_cons,List.map_nil,List.map_cons,List.map_nil,hkey],fun i m q hm hq=>?_⟩
 by_cases hi:i<k
 ·rw[List.getElem?_append_left (by omega)]at hm
  exact hos i m q hm hq
 ·have hlt:=(List.getElem?_eq_some_iff.1 hm).1
  simp at hlt
  have:i=k:=by omega
  subst this
  rw[List.getElem?_append_right (by omega)]at hm
  simp[hlen]at hm
  rw[List.getElem?_eq_getElem hk]at hq
  simp at hq
  subst hm;subst hq
  exact hv
theorem LabI.mono {mo:Option Nat} {ent:Ent} {ks:List (ByteArray×List Value)} (h:LabI T w mo ent ks k) (hk:∀b cs,Blk w b T cs→Blk w' b T cs):LabI T w' mo ent ks k:=by
 rcases h with h|⟨mb,es,ck,ms,h1,h2,h3,h4,h5⟩
 ·exact .inl h
 ·exact .inr ⟨mb,es,ck,ms,h1,h2,h3,h4,fun i m q hm hq=>(h5 i m q hm hq).mono hk⟩
theorem LabI.done {mo:Option Nat} {ent:Ent} {ks:List (ByteArray×List Value)} {f:Fm} (i:Nat) (h:LabI T w mo ent ks k) (hk:k=ks.length) (hH:Hp f w H) (hi:H[i]? =some ent):LabM T w (.map mo) ks:=by
 subst hk
 rcases h with ⟨h1,rfl, -⟩|⟨mb,es,ck,ms,rfl,rfl,h3,h4,h5⟩
 ·exact .inl ⟨List.eq_nil_of_length_eq_zero h1,rfl⟩
 ·rw[List.take_of_length_le (Nat.le_refl _)]at h4
  exact .inr ⟨mb,es,ck,ms,rfl,hH.obj hi rfl,h3,h4,h5⟩
theorem LabI.tag {mo:Option Nat} {ent:Ent} {ks:List (ByteArray×List Value)} (h:LabI T w mo ent ks k) (he:ent.ex=true):ent.tag=1000000:=by
 rcases h with ⟨-, -,rfl⟩|⟨mb,es,ck,ms, -,rfl, -⟩
 ·simp[Ent.ex,nilE]at he
 ·rfl
theorem LabI.some {mo:Option Nat} {ent:Ent} {ks:List (ByteArray×List Value)} (h:LabI T w mo ent ks k) (hn:mo.isNone=false):∃mb es ck ms,mo=some mb∧ent=mpE mb es ck∧MEnc Value.string ms es ck∧ms.map (·.1)=(ks.take k).map (·.1)∧∀(i:Nat) m q,ms[i]? =some m→ks[i]? =some q→OS T 1 w m.2 q.2:=by
 rcases h with ⟨-,rfl, -⟩|h
 ·cases hn
 ·exact h
theorem LabI.none {mo:Option Nat} {ent:Ent} {ks:List (ByteArray×List Value)} (h:LabI T w mo ent ks k) (hn:mo.isNone=true):k=0∧mo=none∧ent=nilE 0:=by
 rcases h with h|⟨_,_,_,_,rfl, -⟩
 ·exact h
 ·cases hn
theorem labT_new {x:PSample} (h:LabP x) (hk:k<x.texts.length):x.texts[k].key∉((labT x).take k).map (·.1):=by
 have h1:((labT x).take k).map (·.1)=(x.texts.map (·.key)).take k:=by simp[labT,List.map_take,Function.comp_def]
 rw[h1]
 refine asc_new (fun i t u ht hu=>?_) (k:=k) (by simp[hk])
 rw[List.getElem?_map]at ht hu
 obtain ⟨a,ha,rfl⟩:=Option.map_eq_some_iff.1 ht
 obtain ⟨c,hc,rfl⟩:=Option.map_eq_some_iff.1 hu
 exact h.tasc i a c ha hc
theorem labN_new {x:PSample} (h:LabP x) (hk:k<x.nums.length):x.nums[k].key∉((labN x).take k).map (·.1):=by
 have h1:((labN x).take k).map (·.1)=(x.nums.map (·.key)).take k:=by simp[labN,List.map_take,Function.comp_def]
 rw[h1]
 refine asc_new (fun i t u ht hu=>?_) (k:=k) (by simp[hk])
 rw[List.getElem?_map]at ht hu
 obtain ⟨a,ha,rfl⟩:=Option.map_eq_some_iff.1 ht
 obtain ⟨c,hc,rfl⟩:=Option.map_eq_some_iff.1 hu
 exact h.nasc i a c ha hc
set_option maxHeartbeats 1000000 in
theorem implLabeled_c (wd w:World) (b:Nat) (ls vs:Value) (cs:List Value) (x:PSample) (h:RSample wd cs x) (hkd:Keep wd w) (hbd:wd.heap.size≤b) (hx:LabP x) (hb:Blk w b tSam (cSam ls vs (.map none) (.map none))):
  Calls Tryz.prog 30 #[ptr b,.agg cs.toArray] w (Ret fun _ w'=>(∃lm nm,Blk w' b tSam (cSam ls vs lm nm)∧LabM tStr w' lm (labT x)∧LabM tI64 w' nm (labN x))∧Fr b [tSam,1000000] w w'):=by
 obtain ⟨la,lb,lt,lu,rfl,hla,hlb',hlt,hlu⟩:=h
 obtain ⟨p1,c1,rfl, -, -⟩:=hla.open
 obtain ⟨p2,c2,rfl, -, -⟩:=hlb'.open
 obtain ⟨p3,c3,rfl,hl3,hx3⟩:=hlt.open
 obtain ⟨p4,c4,rfl,hl4,hx4⟩:=hlu.open
 have hlb:=hb.lt
 have hKd:=keepOf (W:=[tSam,1000000]) hkd hbd
 refine startJ (args:=[_,_]) [(0,_),(1,_)] b [tSam,1000000] [⟨b,tSam,cSam ls vs (.map none) (.map none),true,true,none⟩] func30 rfl ntmps30 rfl rfl (Hp.nil.add hb (fun _=>.inr ⟨Nat.le_refl _,by simp⟩) (by simp)) ?_
 refine sQ fun K1=>cj_reg (j_boxA (vs:=[_,_,_,_]) rfl rfl fun b3=>K1 (cj_seqF fun K2 hK2=>sQ fun K3=>cj_reg (jF 2 ru55 so52 (k:=jH 0 ag52 (k:=jE ru52 (k:=jM (k:=K3 (cj_block ?_))))))))
 refine cj_loop (σ:=Nat×Option Nat×Ent) (fun s=>[(0,ptr b),(3,ptr b3),(9,.slice p3 x.texts.length c3),(10,.int .i64 (x.texts.length:Nat)),(11,.int .i64 (s.1:Nat))])
  (fun s=>[s.2.2,⟨b3,55,[.slice p1 x.stack.length c1,.slice p2 x.values.length c2,.slice p3 x.texts.length c3,.slice p4 x.nums.length c4],false,true,none⟩,⟨b,tSam,cSam ls vs (.map s.2.1) (.map none),true,true,none⟩])
  (fun s w=>s.1≤x.texts.length∧LabI tStr w s.2.1 s.2.2 (labT x) s.1)
  (fun s=>x.texts.length - s.1) (0,none,nilE 0) sR (fun w hH hf=>⟨hH.roHead.off,Nat.zero_le _,.inl ⟨rfl,rfl,rfl⟩⟩) ?_
 rintro ⟨k,mo,ent⟩ w1 ⟨hk,hI⟩ hf1 hH1 KL hKL
 have hKd:=keepOf (W:=[tSam,1000000]) (hKd _ hf1) hbd
 have hH1':=hH1.again (W:=[tSam,1000000]) (Nat.le_of_lt hlb) (by
  intro z hz he hw
  simp only[List.mem_cons,List.not_mem_nil,or_false]at hz
  rcases hz with rfl|rfl|rfl
  ·rw[hI.tag he];simp
  ·cases hw
  ·simp[Ent.tag])
 refine C.begin ⟨w1,b,[tSam,1000000]⟩ [ent,_,⟨b,tSam,cSam ls vs (.map mo) (.map none),true,true,none⟩] ok_refl hH1' ?_
 try dsimp only
 refine sQ fun K4=>cj_reg (jS (k:=K4 (sQ fun K5=>?_)))
 refine cj_dec rfl (fun h12=>?_) (fun h12=>?_)
 ·have hk':k<x.texts.length:=by omega
  obtain ⟨q,o,cs,rfl,hcs,⟨l1,rfl,hl1⟩,hcell⟩:=hx3 k x.texts[k] (List.getElem?_eq_getElem hk')
  obtain ⟨p5,c5,rfl,hl5, -⟩:=hl1.open
  have hlen5:=(hx.tl x.texts[k] (List.getElem_mem hk')).2.1
  refine cj_skip (K5 (sQ fun K6=>cj_block (sQ fun K7=>cj_reg (jJ ru52 so130 (k:=?_)))))
  refine j_valw rfl (fun a w ha hH hf=>r_loadA ag130 so130 rfl rfl (hcell w (hKd _ hf)) ha) (j_allocA (zs:=[(.string ⟨#[]⟩),(.slice none 0 0)]) zv130 rfl fun b5=>jB [_,_] [_,_,_,_] 0 so130 (k:=K7 (sQ fun K8=>sQ fun K9=>cj_reg (jM (k:=jN (k:=jF 2 ru103 so99 (k:=jH 3 ag99 (k:=?_))))))))
  refine j_val rfl (fun _ _ h=>r_mneql ud99 rfl h) (K9 ?_)
  refine cj_if rfl (fun h19=>?_) (fun h19=>?_)
  ·obtain ⟨hk0,rfl,rfl⟩:=hI.none h19
   refine cj_reg (jM (k:=?_))
   refine j_mkmap (fun _ h=>by cases h) rfl fun b21=>?_
   refine jN (k:=jF 2 ru103 so99 (k:=jB [_,_,_,_,_,_,_] [_,_,_,_,_] 4 so99 (k:=K8 (CJ.t [(0,_),(3,_),(5,_),(9,_),(10,_),(11,_)] (k:=?_)))))
   refine cj_drawI 11 (lts [0,1,2,3,4,5,7,8]++(6,false)::(9,false)::(10,false)::[]) [1,3,4] rfl (by kernel_rfl) (by kernel_rfl) (dM [1,3,4] (k:=dN [1,3,4] (k:=dF [1,3,4] 2 ru103 so99 (k:=dH [1,3,4] 2 ag99 (k:=dF [1,3,4] 0 ru130 so9 (k:=dH [1,3,4] 0 ag9 (k:=dF [1,3,4] 1 ru130 so29 (k:=dH [1,3,4] 0 ag29 (k:=dE (h:=fun Kd=>?_))))))))))
   refine j_bslice0 ru29 so9 rfl fun b30=>Kd (sb [2,4,5]) (dE (h:=fun Kd=>?_))
   refine j_appL 0 rfl Own.empty ru29 ru29 el9 rfl rfl rfl rfl (fun w hH hf w1 k1=>hl1.first1 (g:=.string) (fun _ _ h=>h) w1 ((hKd _ hf).trans k1)) (fun _=>rfl) (by omega) rfl fun y33 p33 c33 hO33=>?_
   refine Kd (sb [2,4,5]) (dE (h:=fun Kd=>?_))
   first|refine j_mapupd (ms:=[]) (es:=[]) (k:=x.texts[k].key) 1 rfl ru99 (keyT_string ru9) MEnc.nil rfl rfl rfl (fun _ _ _=>⟨fun _ _=>trivial,trivial⟩) fun es' ck' hM'=>?_|refine j_mapupd (k:=x.texts[k].key) 2 rfl ru99 (keyT_string ru9) hM rfl rfl rfl (fun _ _ _=>⟨fun _ _=>trivial,trivial⟩) fun es' ck' hM'=>?_
   refine Kd (sb [2,4,5]) (K6 (CJ.t [(0,_),(3,_),(9,_),(10,_),(11,_)] (k:=cj_reg (jI (k:=jM (k:=j_nil (ej_then ?_)))))))
   have hkl:k<(labT x).length:=by simpa[labT]using hk'
   first
   |exact fun w hH hf=>hKL (k+1,some b21,mpE b21 es' ck') _ w ⟨hk',LabI.push (ms:=[]) hkl hM' (by have hk0:k=0:=hk0;simp[hk0]) (by simp) (by simp[labT]) (labT_new hx hk') (by have:=hO33.os (i:=0) hH rfl;simpa[labT]using this)⟩ (ok_back hf1 (.inr fun _ h=>h) hf) (((hH.2.2.2.drop 1).drop 1).back hf1.size (.inr fun _ h=>h)) (by simp only;omega) ⟨rfl,rfl,rfl,rfl,rfl,trivial⟩
   |exact fun w hH hf=>hKL (k+1,some mb,mpE mb es' ck') _ w ⟨hk',LabI.push hkl hM' hkeys (fun i m q hm hq=>(hos i m q hm hq).mono fun _ _ hbk=>ok_blk hf hbk rfl) (by simp[labT]) (labT_new hx hk') (by have:=hO33.os (i:=0) hH rfl;simpa[labT]using this)⟩ (ok_back hf1 (.inr fun _ h=>h) hf) (hH.2.2.2.2.2.2.back hf1.size (.inr fun _ h=>h)) (by simp only;omega) ⟨rfl,rfl,rfl,rfl,rfl,trivial⟩
  ·obtain ⟨mb,es,ck,ms,rfl,rfl,hM,hkeys,hos⟩:=hI.some h19
   refine cj_skip (K8 (cj_drawI 11 (lts [0,1,2,3,4,5,7,8]++(6,false)::(9,false)::(10,false)::[]) [0,2,3] rfl (by kernel_rfl) (by kernel_rfl) (dM [0,2,3] (k:=dN [0,2,3] (k:=dF [0,2,3] 2 ru103 so99 (k:=dH [0,2,3] 2 ag99 (k:=dF [0,2,3] 0 ru130 so9 (k:=dH [0,2,3] 0 ag9 (k:=dF [0,2,3] 1 ru130 so29 (k:=dH [0,2,3] 0 ag29 (k:=dE (h:=fun Kd=>?_))))))))))))
   refine j_bslice0 ru29 so9 rfl fun b30=>Kd (sb [1,3,4]) (dE (h:=fun Kd=>?_))
   refine j_appL 0 rfl Own.empty ru29 ru29 el9 rfl rfl rfl rfl (fun w hH hf w1 k1=>hl1.first1 (g:=.string) (fun _ _ h=>h) w1 ((hKd _ hf).trans k1)) (fun _=>rfl) (by omega) rfl fun y33 p33 c33 hO33=>?_
   refine Kd (sb [1,3,4]) (dE (h:=fun Kd=>?_))
   first|refine j_mapupd (ms:=[]) (es:=[]) (k:=x.texts[k].key) 1 rfl ru99 (keyT_string ru9) MEnc.nil rfl rfl rfl (fun _ _ _=>⟨fun _ _=>trivial,trivial⟩) fun es' ck' hM'=>?_|refine j_mapupd (k:=x.texts[k].key) 2 rfl ru99 (keyT_string ru9) hM rfl rfl rfl (fun _ _ _=>⟨fun _ _=>trivial,trivial⟩) fun es' ck' hM'=>?_
   refine Kd (sb [1,3,4]) (K6 (CJ.t [(0,_),(3,_),(9,_),(10,_),(11,_)] (k:=cj_reg (jI (k:=jM (k:=j_nil (ej_then ?_)))))))
   have hkl:k<(labT x).length:=by simpa[labT]using hk'
   first
   |exact fun w hH hf=>hKL (k+1,some b21,mpE b21 es' ck') _ w ⟨hk',LabI.push (ms:=[]) hkl hM' (by have hk0:k=0:=hk0;simp[hk0]) (by simp) (by simp[labT]) (labT_new hx hk') (by have:=hO33.os (i:=0) hH rfl;simpa[labT]using this)⟩ (ok_back hf1 (.inr fun _ h=>h) hf) (((hH.2.2.2.drop 1).drop 1).back hf1.size (.inr fun _ h=>h)) (by simp only;omega) ⟨rfl,rfl,rfl,rfl,rfl,trivial⟩
   |exact fun w hH hf=>hKL (k+1,some mb,mpE mb es' ck') _ w ⟨hk',LabI.push hkl hM' hkeys (fun i m q hm hq=>(hos i m q hm hq).mono fun _ _ hbk=>ok_blk hf hbk rfl) (by simp[labT]) (labT_new hx hk') (by have:=hO33.os (i:=0) hH rfl;simpa[labT]using this)⟩ (ok_back hf1 (.inr fun _ h=>h) hf) (hH.2.2.2.2.2.2.back hf1.size (.inr fun _ h=>h)) (by simp only;omega) ⟨rfl,rfl,rfl,rfl,rfl,trivial⟩
 ·refine cj_exit (ej_then_exit (ej_then_exit (ej_blk_hit (ej_then (hK2 _ _ _ (sQ fun K10=>cj_reg (jF 3 ru55 so53 (k:=jH 1 ag53 (k:=jE ru53 (k:=jM (k:=K10 (cj_block ?_))))))))))))
  refine cj_loop (σ:=Nat×Option Nat×Ent) (fun s=>[(0,ptr b),(36,.slice p4 x.nums.length c4),(37,.int .i64 (x.nums.length:Nat)),(38,.int .i64 (s.1:Nat))])
   (fun s=>[s.2.2,ent,⟨b,tSam,cSam ls vs (.map mo) (.map s.2.1),true,true,none⟩])
   (fun s w=>s.1≤x.nums.length∧LabI tI64 w s.2.1 s.2.2 (labN x) s.1∧LabI tStr w mo ent (labT x) k)
   (fun s=>x.nums.length - s.1) (0,none,nilE 0) sR (fun w hH hf=>⟨(hH.drop 1).off,Nat.zero_le _,.inl ⟨rfl,rfl,rfl⟩,hI.mono fun _ _ hbk=>ok_blk hf hbk rfl⟩) ?_
  rintro ⟨m,mo2,ent2⟩ w2 ⟨hm,hI2,hI3⟩ hf2 hH2 KL hKL
  have hKd:=keepOf (W:=[tSam,1000000]) (hKd _ hf2) hbd
  have hH2':=hH2.again (W:=[tSam,1000000]) (Nat.le_trans (Nat.le_of_lt hlb) hf1.size) (by
   intro z hz he hw
   simp only[List.mem_cons,List.not_mem_nil,or_false]at hz
   rcases hz with rfl|rfl|rfl
   ·rw[hI2.tag he];simp
   ·rw[hI3.tag he];simp
   ·simp[Ent.tag])
  refine C.begin ⟨w2,b,[tSam,1000000]⟩ [ent2,ent,⟨b,tSam,cSam ls vs (.map mo) (.map mo2),true,true,none⟩] ok_refl hH2' ?_
  try dsimp only
  refine sQ fun K11=>cj_reg (jS (k:=K11 (sQ fun K12=>?_)))
  refine cj_dec rfl (fun h39=>?_) (fun h39=>?_)
  ·have hm':m<x.nums.length:=by omega
   obtain ⟨q,o,cs,rfl,hcs,⟨l1,rfl,hl1⟩,hcell⟩:=hx4 m x.nums[m] (List.getElem?_eq_getElem hm')
   obtain ⟨p5,c5,rfl,hl5, -⟩:=hl1.open
   have hlen5:=(hx.nl x.nums[m] (List.getElem_mem hm')).2
   refine cj_skip (K12 (sQ fun K13=>cj_block (sQ fun K14=>cj_reg (jJ ru53 so133 (k:=?_)))))
   refine j_valw rfl (fun a w ha hH hf=>r_loadA ag133 so133 rfl rfl (hcell w (hKd _ hf)) ha) (j_allocA (zs:=[(.string ⟨#[]⟩),(.slice none 0 0)]) zv133 rfl fun b7=>jB [_,_] [_,_,_,_] 0 so133 (k:=K14 (sQ fun K15=>sQ fun K16=>cj_reg (jM (k:=jN (k:=jF 3 ru103 so37 (k:=jH 3 ag37 (k:=?_))))))))
   refine j_val rfl (fun _ _ h=>r_mneql ud37 rfl h) (K16 ?_)
   refine cj_if rfl (fun h46=>?_) (fun h46=>?_)
   ·obtain ⟨hm0,rfl,rfl⟩:=hI2.none h46
    refine cj_reg (jM (k:=?_))
    refine j_mkmap (fun _ h=>by cases h) rfl fun b48=>?_
    refine jN (k:=jF 3 ru103 so37 (k:=jB [_,_,_,_,_,_,_] [_,_,_,_,_] 4 so37 (k:=K15 (CJ.t [(0,_),(7,_),(36,_),(37,_),(38,_)] (k:=?_)))))
    refine cj_drawI 11 (lts [0,1,2,3,4,5,7,8]++(6,false)::(9,false)::(10,false)::[]) [1,4] rfl (by kernel_rfl) (by kernel_rfl) (dM [1,4] (k:=dN [1,4] (k:=dF [1,4] 3 ru103 so37 (k:=dH [1,4] 1 ag37 (k:=dF [1,4] 0 ru133 so9 (k:=dH [1,4] 0 ag9 (k:=dF [1,4] 1 ru133 so49 (k:=dH [1,4] 0 ag49 (k:=dE (h:=fun Kd=>?_))))))))))
    refine j_bslice0 ru49 so2 rfl fun b57=>Kd (sb [2,5]) (dE (h:=fun Kd=>?_))
    refine j_appL 0 rfl Own.empty ru49 ru49 el2 rfl rfl rfl rfl (fun w hH hf w1 k1=>hl1.first1 (g:=.int .i64) (fun _ _ h=>h.1) w1 ((hKd _ hf).trans k1)) (fun _=>rfl) (by omega) rfl fun y60 p60 c60 hO60=>?_
    refine Kd (sb [2,5]) (dE (h:=fun Kd=>?_))
    first|refine j_mapupd (ms:=[]) (es:=[]) (k:=x.nums[m].key) 1 rfl ru37 (keyT_string ru9) MEnc.nil rfl rfl rfl (fun _ _ _=>⟨fun _ _=>trivial,trivial⟩) fun es' ck' hM'=>?_|refine j_mapupd (k:=x.nums[m].key) 2 rfl ru37 (keyT_string ru9) hM rfl rfl rfl (fun _ _ _=>⟨fun _ _=>trivial,trivial⟩) fun es' ck' hM'=>?_
    refine Kd (sb [2,5]) (K13 (CJ.t [(0,_),(36,_),(37,_),(38,_)] (k:=cj_reg (jI (k:=jM (k:=j_nil (ej_then ?_)))))))
    have hkl:m<(labN x).length:=by simpa[labN]using hm'
    first
    |exact fun w hH hf=>hKL (m+1,some b48,mpE b48 es' ck') _ w ⟨hm',LabI.push (ms:=[]) hkl hM' (by have hm0:m=0:=hm0;simp[hm0]) (by simp) (by simp[labN]) (labN_new hx hm') (by have:=hO60.os (i:=0) hH rfl;simpa[labN]using this),hI3.mono fun _ _ hbk=>ok_blk hf hbk rfl⟩ (ok_back hf2 (.inr fun _ h=>h) hf) (((hH.2.2.2.drop 1).drop 1).back hf2.size (.inr fun _ h=>h)) (by simp only;omega) ⟨rfl,rfl,rfl,rfl,trivial⟩
    |exact fun w hH hf=>hKL (m+1,some mb,mpE mb es' ck') _ w ⟨hm',LabI.push hkl hM' hkeys (fun i m q hm hq=>(hos i m q hm hq).mono fun _ _ hbk=>ok_blk hf hbk rfl) (by simp[labN]) (labN_new hx hm') (by have:=hO60.os (i:=0) hH rfl;simpa[labN]using this),hI3.mono fun _ _ hbk=>ok_blk hf hbk rfl⟩ (ok_back hf2 (.inr fun _ h=>h) hf) (hH.2.2.2.2.2.2.back hf2.size (.inr fun _ h=>h)) (by simp only;omega) ⟨rfl,rfl,rfl,rfl,trivial⟩
   ·obtain ⟨mb,es,ck,ms,rfl,rfl,hM,hkeys,hos⟩:=hI2.some h46
    refine cj_skip (K15 (cj_drawI 11 (lts [0,1,2,3,4,5,7,8]++(6,false)::(9,false)::(10,false)::[]) [0,3] rfl (by kernel_rfl) (by kernel_rfl) (dM [0,3] (k:=dN [0,3] (k:=dF [0,3] 3 ru103 so37 (k:=dH [0,3] 1 ag37 (k:=dF [0,3] 0 ru133 so9 (k:=dH [0,3] 0 ag9 (k:=dF [0,3] 1 ru133 so49 (k:=dH [0,3] 0 ag49 (k:=dE (h:=fun Kd=>?_))))))))))))
    refine j_bslice0 ru49 so2 rfl fun b57=>Kd (sb [1,4]) (dE (h:=fun Kd=>?_))
    refine j_appL 0 rfl Own.empty ru49 ru49 el2 rfl rfl rfl rfl (fun w hH hf w1 k1=>hl1.first1 (g:=.int .i64) (fun _ _ h=>h.1) w1 ((hKd _ hf).trans k1)) (fun _=>rfl) (by omega) rfl fun y60 p60 c60 hO60=>?_
    refine Kd (sb [1,4]) (dE (h:=fun Kd=>?_))
    first|refine j_mapupd (ms:=[]) (es:=[]) (k:=x.nums[m].key) 1 rfl ru37 (keyT_string ru9) MEnc.nil rfl rfl rfl (fun _ _ _=>⟨fun _ _=>trivial,trivial⟩) fun es' ck' hM'=>?_|refine j_mapupd (k:=x.nums[m].key) 2 rfl ru37 (keyT_string ru9) hM rfl rfl rfl (fun _ _ _=>⟨fun _ _=>trivial,trivial⟩) fun es' ck' hM'=>?_
    refine Kd (sb [1,4]) (K13 (CJ.t [(0,_),(36,_),(37,_),(38,_)] (k:=cj_reg (jI (k:=jM (k:=j_nil (ej_then ?_)))))))
    have hkl:m<(labN x).length:=by simpa[labN]using hm'
    first
    |exact fun w hH hf=>hKL (m+1,some b48,mpE b48 es' ck') _ w ⟨hm',LabI.push (ms:=[]) hkl hM' (by have hm0:m=0:=hm0;simp[hm0]) (by simp) (by simp[labN]) (labN_new hx hm') (by have:=hO60.os (i:=0) hH rfl;simpa[labN]using this),hI3.mono fun _ _ hbk=>ok_blk hf hbk rfl⟩ (ok_back hf2 (.inr fun _ h=>h) hf) (((hH.2.2.2.drop 1).drop 1).back hf2.size (.inr fun _ h=>h)) (by simp only;omega) ⟨rfl,rfl,rfl,rfl,trivial⟩
    |exact fun w hH hf=>hKL (m+1,some mb,mpE mb es' ck') _ w ⟨hm',LabI.push hkl hM' hkeys (fun i m q hm hq=>(hos i m q hm hq).mono fun _ _ hbk=>ok_blk hf hbk rfl) (by simp[labN]) (labN_new hx hm') (by have:=hO60.os (i:=0) hH rfl;simpa[labN]using this),hI3.mono fun _ _ hbk=>ok_blk hf hbk rfl⟩ (ok_back hf2 (.inr fun _ h=>h) hf) (hH.2.2.2.2.2.2.back hf2.size (.inr fun _ h=>h)) (by simp only;omega) ⟨rfl,rfl,rfl,rfl,trivial⟩
  ·refine cj_exit (ej_then_exit (ej_then_exit (ej_blk_hit (?_))))
   refine ej_end0 results30 fun w' hH hf=>⟨⟨.map mo,.map mo2,hH.get (i:=2) rfl rfl,?_,?_⟩,ok_back hf1 (.inr fun _ h=>h) (ok_back hf2 (.inr fun _ h=>h) hf)⟩
   ·exact (hI3.mono fun _ _ hbk=>ok_blk hf hbk rfl).done 1 (by simp[labT];omega) hH rfl
   ·exact (hI2.mono fun _ _ hbk=>ok_blk hf hbk rfl).done 0 (by simp[labN];omega) hH rfl
theorem flatMap_step {α β:Type} {xs:List α} {g:α→List β} (hk:k<xs.length):(xs.take k).flatMap g++g xs[k]=(xs.take (k+1)).flatMap g:=by
 rw[← List.take_append_getElem hk,List.flatMap_append];simp
theorem rowGe_own {w4:World} {B:Nat} {W:List Nat} {y:Ent} {p:Option Addr} {j c:Nat} {xs:List Value} {maps:List Nat} {l:PLoc} (hO:Own tLine 3 y p j c xs) (hH:Hp ⟨w4,B,W⟩ w' H) {i:Nat} (hy:H[i]? =some y) (hs:B≤w4.heap.size):
  ∀rb n c',(cLoc maps l (.slice p j c))[3]? =some (.slice (some ⟨rb,0,none⟩) n c')→B≤rb:=by
 intro rb n c' e
 simp[cLoc]at e
 obtain ⟨e1, -, -⟩:=e
 obtain ⟨-, -,q⟩:=hO.sl
 rcases q with ⟨hon,q, -⟩|⟨-,q, -⟩
 ·rw[e1]at q
  cases q
  rcases hH.may (List.mem_of_getElem? hy) hon hO.hw with h|⟨h, -⟩
  ·exact Nat.le_trans hs h
  ·exact h
 ·rw[e1]at q;cases q
-- the profile's own block while it is made
def eProf (b41:Nat) (x:PProf) (ty sa ma lo fu co:Value) (per:Nat):Ent:=⟨b41,tProf,cProf x ty sa ma lo fu co per,true,true,none⟩
end Go.Proofs.YtffghbkcomlefaaGreatDoor
namespace Go.Fw
open Go
variable {a:Act} {q:Int} {kd:IntKind} {vs:List Value} {T b m t t':Nat} {x:Operand} {w w':World}
def MapAt (w:World) (mo:Option Nat) (es:List MapEntry) (ck:Nat):Prop:=(mo=none∧es=[]∧ck=0)∨∃b,mo=some b∧w.heap[b]? =some (.map es.toArray ck)
theorem MapAt.keep {mo:Option Nat} {es:List MapEntry} {ck:Nat} (h:MapAt w mo es ck) (k:∀(b:Nat) es ck,w.heap[b]? =some (.map es ck)→w'.heap[b]? =some (.map es ck)):MapAt w' mo es ck:=by
 rcases h with h|⟨b,h1,h2⟩
 ·exact .inl h
 ·exact .inr ⟨b,h1,k _ _ _ h2⟩
abbrev itM (it:Nat) (mo:Option Nat) (since:Nat) (seen:List Nat) (stepped:Nat):Ent:=⟨it,0,[],true,false,some (.mapIter mo since seen.toArray stepped)⟩
theorem okK {f:Fm} (hf:f.ok w) (k:KeepX [b] w w') (hm:f.may b T) (ho:∀o:Obj,w.heap[b]? =some o→tagOf o=T):f.ok w':=
 ⟨k.os.trans hf.os,k.tape.trans hf.tape,k.output.trans hf.output,Nat.le_trans hf.size k.size,fun c o hc hk=>by
  have h1:=hf.keep c o hc hk
  refine k.keep c o h1 fun hm2=>?_
  simp at hm2
  subst hm2
  have h2:=ho o h1
  have h3:=(Array.getElem?_eq_some_iff.1 hc).1
  rcases hm with hm|⟨hm,hm'⟩
  ·omega
  ·rcases hk with hk|hk
   ·omega
   ·exact hk (h2▸hm')⟩
section
variable {P:Program} {Q:Exit→Act→World→Prop} {n:Nat} {f:Fm} {e:Env} {H:Heap} {ops:Array Oper} {rest:List Oper} {d ty:Nat} {pos:String} {af:Array Edge}
variable {mt kt vt ck:Nat} {mo:Option Nat} {es:List MapEntry}
theorem j_rangeM {m:Operand} (hu:∀w,(underlying mt).run P w=.ok (.map kt vt) w) (hM:∀w,Hp f w H→f.ok w→MapAt w mo es ck) (hm:ev e m=some (.map mo)) (hd:Nat.blt d n=true)
  (k:∀it,J P ops Q n f ((d,.pointer (some ⟨it,0,none⟩))::e) (itM it mo ck [] ck::H) rest):J P ops Q n f e H (⟨some d,.range mt m,ty,pos,af,none⟩::rest):=fun w hH hf=>by
 have hn:New w { w with heap:=w.heap.push (.mapIter mo ck #[] ck) } w.heap.size (.mapIter mo ck #[] ck):=⟨rfl,rfl,rfl,rfl,rfl⟩
 refine L.valw hd (fun a ha=>?_) (k w.heap.size _ (hH.newO hf hn) (hf.new hn))
 simp only[execOp,ha.ev hm]
 rcases hM w hH hf with ⟨rfl,rfl,rfl⟩|⟨b,rfl,hb⟩
 ·have h1:(Instr.range mt (.map none)).run P w=.ok (.pointer (some ⟨w.heap.size,0,none⟩)) { w with heap:=w.heap.push (.mapIter none 0 #[] 0) }:=by
   simp only[Instr.range]
   simp only[Sem.run_bind,hu,Result.andThen_ok,Sem.run_pure]
   rfl
  simp[h1]
 ·have h1:=run_range (P:=P) hu hb
  simp[h1]
theorem j_nextM {it since stepped:Nat} {seen:List Nat} (i:Nat) (hi:H[i]? =some (itM it mo since seen stepped)) (hM:∀w,Hp f w H→f.ok w→MapAt w mo es ck) (hlt:∀x∈es,x.born<since) (hst:since≤stepped) (hx:ev e x=some (.pointer (some ⟨it,0,none⟩))) (hd:Nat.blt d n=true)
  (k1:(∀x∈es,x.born∈seen)→J P ops Q n f ((d,.tuple #[.bool false])::e) H rest)
  (k2:∀x∈es,x.born∉seen→J P ops Q n f ((d,.tuple #[.bool true,x.key,x.val])::e) (putH H i (itM it mo since (seen++[x.born]) ck)) rest):J P ops Q n f e H (⟨some d,.next x false,ty,pos,af,none⟩::rest):=fun w hH hf=>by
 rcases hM w hH hf with ⟨rfl,rfl,rfl⟩|⟨b,rfl,hb⟩
 ·refine L.valw hd (fun a ha=>?_) (k1 (by simp) w hH hf)
  simp only[execOp,ha.ev hx]
  have h1:(Instr.next (.pointer (some ⟨it,0,none⟩)) false ty).run P w=.ok (.tuple #[.bool false]) w:=by
   simp only[Instr.next]
   simp only[Sem.run_bind,run_getObj (hH.obj hi rfl) rfl,Result.andThen_ok,Sem.run_pure]
  simp[h1]
 ·rcases run_next (P:=P) (rt:=ty) (hH.obj hi rfl) hb hlt hst with ⟨w',h1,h2,h3,h4,h5,h6⟩|⟨w',x,h1,h2,h3,h4⟩
  ·have hD:Dr w w':=⟨h3,h4,h5,h2⟩
   refine L.valw hd (fun a ha=>?_) (k1 h6 w' (hH.dr hD) (Fr.dr hf hD))
   simp only[execOp,ha.ev hx]
   simp[h1]
  ·obtain ⟨h5,h6⟩:=hH.putO hi rfl h2 rfl hf
   refine L.valw hd (fun a ha=>?_) (k2 x h3 h4 w' h5 h6)
   simp only[execOp,ha.ev hx]
   simp[h1]
theorem r_entryM {it since:Nat} {seen:List Nat} {xe:MapEntry} (i:Nat) (hi:H[i]? =some (itM it mo since (seen++[xe.born]) ck)) (hM:∀w,Hp f w H→f.ok w→MapAt w mo es ck) (hx:ev e x=some (.pointer (some ⟨it,0,none⟩)))
  (hxe:xe∈es) (hnd:(es.map (·.born)).Nodup) (ha:Sat n e a) (hH:Hp f w H) (hf:f.ok w):
  (execOp a.eval ⟨some d,.entry x,ty,pos,af,none⟩).run P w=.ok (.value (.tuple #[xe.key,xe.val])) w:=by
 rcases hM w hH hf with ⟨-,rfl, -⟩|⟨b,rfl,hb⟩
 ·cases hxe
 have h1:=hH.obj hi rfl
 have h3:es.find? (fun z=>z.born==xe.born)=some xe:=by
  cases hf:es.find? (fun z=>z.born==xe.born) with
  |none=>exact absurd (List.find?_eq_none.1 hf xe hxe) (by simp)
  |some z=>
   have hz:=List.find?_some hf
   have hm:=List.mem_of_find?_eq_some hf
   rw[born_eq hnd hm hxe (by simpa using hz)]
 simp only[execOp,ha.ev hx]
 have h2':(getObj b).run P w=.ok (.map es.toArray ck) w:=run_getObj hb rfl
 simp only[Instr.entry,Sem.run_bind,run_getObj h1 rfl,Result.andThen_ok]
 simp[h2',h3]
theorem r_mlookM {κ:Type} [DecidableEq κ] {enc:κ→Value} {ms:List (κ×Value)} {m kx:Operand} {k:κ} {z:Value} (hu:∀w,(underlying mt).run P w=.ok (.map kt vt) w) (hk:KeyT P kt enc (fun _ _=>True)) (hM:MEnc enc ms es ck) (hz:∀w,(zeroValue vt).run P w=.ok z w)
  (hm:ev e m=some (.map mo)) (hkx:ev e kx=some (enc k)) (ha:Sat n e a) (hA:MapAt w mo es ck):
  (execOp a.eval ⟨some d,.lookup mt m kx false,ty,pos,af,none⟩).run P w=.ok (.value ((mget ms k).getD z)) w:=by
 simp only[execOp,ha.ev hm,ha.ev hkx]
 rcases hA with ⟨rfl,rfl, -⟩|⟨b,rfl,hb⟩
 ·have hnil:ms=[]:=by have:=hM.kv;simpa using this.symm
  subst hnil
  have:=run_lookup_nil (P:=P) (w:=w) hu hk (k:=k) trivial hz false
  simp[this,mget_nil]
 ·have:=run_lookup (P:=P) hu hk hM hb (fun _ _=>trivial) (k:=k) trivial hz false
  simp[this]
theorem Hp.putX {f:Fm} {H:Heap} {i:Nat} {y y':Ent} (h:Hp f w H) (hx:H[i]? =some y) (ho:y.ex=true) (hb:y'.b=y.b) (hm:y'.ex=true→y'.wr=true→f.may y'.b y'.tag) (k:KeepX [y.b] w w') (hh:y'.has w'):Hp f w' (putH H i y'):=
 h.putK hx ho hb hm (fun z _ _ hne o hz=>k.keep _ o hz (by simpa using hne)) hh
end
section
variable {P:Program} {n:Nat} {e:Env} {d ty:Nat} {pos:String} {af:Array Edge}
theorem r_mul {y:Operand} {p:Int} (hx:ev e x=some (.int kd p)) (hy:ev e y=some (.int kd q)) (ha:Sat n e a):
  (execOp a.eval ⟨some d,.binOp .mul t x y t',ty,pos,af,none⟩).run P w=.ok (.value (.int kd (kd.wrap (p*q)))) w:=by (simp only[execOp,ha.ev hx,ha.ev hy];simp[eqGuard,binOp,Op.intArith])
theorem r_remI {y:Operand} {p:Int} (hx:ev e x=some (.int kd p)) (hy:ev e y=some (.int kd q)) (hp:0≤p) (hq:0<q) (ha:Sat n e a):
  (execOp a.eval ⟨some d,.binOp .rem t x y t',ty,pos,af,none⟩).run P w=.ok (.value (.int kd (p%q))) w:=by
 have h:¬(q=0):=by omega
 have h2:Int.tmod p q=p%q:=Int.tmod_eq_emod_of_nonneg hp
 simp only[execOp,ha.ev hx,ha.ev hy]
 simp[eqGuard,binOp,Op.intDiv,h,h2]
end
section
variable {P:Program} {Q:Exit→Act→World→Prop} {n:Nat} {f:Fm} {e:Env} {H:Heap}
theorem ej_ret1C {fn:Func} {R:Value→World→Prop} {s:Nat} (hres:fn.results= #[.cell s T]) (hag:∀w,(isAgg T).run P w=.ok true w) (hsz:∀w,(sizeOf T).run P w=.ok m w) (hvm:vs.length=m)
  (hs:look e s=some (.pointer (some ⟨b,0,none⟩))) (hb:∀w,Hp f w H→f.ok w→∃U,Blk w b U vs) (h:∀w,Hp f w H→f.ok w→R (.agg vs.toArray) w):
  EJ (bodyPost P fn (Ret R)) .ret n f e H:=fun w hH hf a ha=>by
 refine ⟨ha.defs,_,?_,h w hH hf⟩
 have h2:=ha.has s _ hs
 obtain ⟨U,hbk⟩:=hb w hH hf
 have h3:=run_loadCells (P:=P) (b:=b) w vs 0 hbk.cells
 simp only[results,hres]
 simp[Array.getD_eq_getD_getElem?,h2,asAddr,loadVar,hag,hsz, ← hvm,h3]
theorem ej_ret2C {fn:Func} {R:Value→World→Prop} {s:Nat} {u:Value} (hres:fn.results= #[.cell s T,.tmp t]) (hag:∀w,(isAgg T).run P w=.ok true w) (hsz:∀w,(sizeOf T).run P w=.ok m w) (hvm:vs.length=m)
  (hs:look e s=some (.pointer (some ⟨b,0,none⟩))) (ht:look e t=some u) (hb:∀w,Hp f w H→f.ok w→∃U,Blk w b U vs) (h:∀w,Hp f w H→f.ok w→R (.tuple #[.agg vs.toArray,u]) w):
  EJ (bodyPost P fn (Ret R)) .ret n f e H:=fun w hH hf a ha=>by
 refine ⟨ha.defs,_,?_,h w hH hf⟩
 have h2:=ha.has s _ hs
 have h4:=ha.has t _ ht
 obtain ⟨U,hbk⟩:=hb w hH hf
 have h3:=run_loadCells (P:=P) (b:=b) w vs 0 hbk.cells
 simp only[results,hres]
 simp[Array.getD_eq_getD_getElem?,h2,h4,asAddr,loadVar,hag,hsz, ← hvm,h3]
end
theorem fr_all {B:Nat} (h:Fr B [] w w'):Fr 0 [] w w':=⟨h.os,h.tape,h.output,h.size,fun b o hb _=>h.keep b o hb (.inr (by simp))⟩
section
variable {κ:Type} [DecidableEq κ] {enc:κ→Value} {ms:List (κ×Value)} {es:List MapEntry} {ck b:Nat} {P:Program} {n:Nat} {e:Env} {d ty mt kt vt:Nat} {pos:String} {af:Array Edge}
theorem r_look2W {m kx:Operand} {k:κ} {z:Value} (hu:∀w,(underlying mt).run P w=.ok (.map kt vt) w) (hk:KeyT P kt enc (fun _ _=>True)) (hM:MEnc enc ms es ck) (hz:∀w,(zeroValue vt).run P w=.ok z w)
  (hm:ev e m=some (.map (some b))) (hkx:ev e kx=some (enc k)) (ha:Sat n e a) (hT:w.heap[b]? =some (.map es.toArray ck)):
  (execOp a.eval ⟨some d,.lookup mt m kx true,ty,pos,af,none⟩).run P w=.ok (.value (.tuple #[(mget ms k).getD z,.bool (mget ms k).isSome])) w:=by
 have:=run_lookup (P:=P) hu hk hM hT (fun _ _=>trivial) (k:=k) trivial hz true
 simp only[execOp,ha.ev hm,ha.ev hkx]
 simp[this]
end
end Go.Fw
namespace Go.Proofs.YtffghbkcomlefaaGreatDoor
open Go Go.Fw Go.Proofs Go.Proofs.Tryz
variable {W:List Nat} {B T b k:Nat} {s:PSample} {w:World}
theorem frK {w0 u w':World} {l:List Nat} (h:Fr B W w0 u) (k:KeepX l u w') (hl:∀b∈l,w0.heap.size≤b∨(B≤b∧∀o:Obj,u.heap[b]? =some o→tagOf o∈W)):Fr B W w0 w':=
 ⟨k.os.trans h.os,k.tape.trans h.tape,k.output.trans h.output,Nat.le_trans h.size k.size,fun b o hb hc=>by
  have h1:=h.keep b o hb hc
  refine k.keep b o h1 fun hm=>?_
  rcases hl b hm with h2|⟨h3,h2⟩
  ·have:=(Array.getElem?_eq_some_iff.1 hb).1;omega
  ·rcases hc with hc|hc
   ·omega
   ·exact hc (h2 o h1)⟩
theorem prefix_get {α:Type} {T T':List α} (p:T<+:T') {s:α} (h:T[k]? =some s):T'[k]? =some s:=by
 obtain ⟨e,rfl⟩:=p
 rw[List.getElem?_append_left (List.getElem?_eq_some_iff.1 h).1];exact h
theorem nodup_ix {α:Type} {l:List α} (h:l.Nodup) {i j:Nat} (hi:i<l.length) (hj:j<l.length) (e:l[i]=l[j]):i=j:=by
 have hp:=List.pairwise_iff_getElem.1 h
 rcases Nat.lt_trichotomy i j with h1|h1|h1
 ·exact absurd e (hp i j hi hj h1)
 ·exact h1
 ·exact absurd e.symm (hp j i hj hi h1)
theorem asc_pw {ks:List ByteArray} (h:∀(i:Nat) t u,ks[i]? =some t→ks[i+1]? =some u→ltB t u=true):ks.Pairwise fun x y=>ltB x y=true:=by
 rw[List.pairwise_iff_getElem]
 intro i j hi hj hij
 exact asc_lt h (j - i - 1) i _ _ (List.getElem?_eq_getElem hi) (by rw[show i+(j - i - 1)+1=j by omega];exact List.getElem?_eq_getElem hj)
theorem LabP.tpw (h:LabP s):(s.texts.map (·.key)).Pairwise fun x y=>ltB x y=true:=asc_pw fun i t u ht hu=>by
 rw[List.getElem?_map]at ht hu
 obtain ⟨a,ha,rfl⟩:=Option.map_eq_some_iff.1 ht
 obtain ⟨c,hc,rfl⟩:=Option.map_eq_some_iff.1 hu
 exact h.tasc i a c ha hc
theorem LabP.npw (h:LabP s):(s.nums.map (·.key)).Pairwise fun x y=>ltB x y=true:=asc_pw fun i t u ht hu=>by
 rw[List.getElem?_map]at ht hu
 obtain ⟨a,ha,rfl⟩:=Option.map_eq_some_iff.1 ht
 obtain ⟨c,hc,rfl⟩:=Option.map_eq_some_iff.1 hu
 exact h.nasc i a c ha hc
theorem frE {a b c:World} (h:Fr B W a b) (k:Fr B W b c):Fr B W a c:=h.trans k (.inr ⟨Nat.le_refl _,fun _ h=>h⟩)
theorem frQ {a b c:World} (h:Fr B W a b) (k:Fr 0 [] b c):Fr B W a c:=frE h (k.quiet _ _)
theorem osCell {w1:World} {xs:List Value} {v:Value} (hF:Fr B W w w1) (hW:W.all (fun t=> !Nat.beq t T)=true) (hc:∀f:Fm,f.ws=w→f.W.all (fun t=> !Nat.beq t T)=true→∀w',f.ok w'→∀(j:Nat) (u:Value),xs[j]? =some u→w'.cell? ⟨b,j,none⟩=some u) (hv:xs[k]? =some v):
  ∀w',Fm.ok ⟨w1,0,[]⟩ w'→∀(j:Nat) (u:Value),[v][j]? =some u→w'.cell? ⟨b,0+k*1+j,none⟩=some u:=fun w' kp j u hu=>by
 cases j with
 |zero=>simp at hu;subst hu;simpa using hc ⟨w,B,W⟩ rfl hW w' (frQ hF kp) k v hv
 |succ j=>simp at hu
theorem map_neB {m ck:Nat} {es:Array MapEntry} {cs:List Value} (h:w.heap[m]? =some (.map es ck)) (hb:Blk w b T cs):m≠b:=fun e=>by
 have h3:w.heap[b]? =some (.cells cs.toArray T (0,0)):=hb
 rw[← e,h]at h3;cases h3
end Go.Proofs.YtffghbkcomlefaaGreatDoor
namespace Go.Fw
open Go
variable {a:Act} {kd:IntKind} {b elem i k m n o sz t:Nat} {x:Operand} {z:PProf} {s:PSample} {v:Value} {w:World}
def addV (a b:List Int):List Int:=List.zipWith (fun x y=>IntKind.i64.wrap (x+y)) a b
def zeV (n:Nat):List Int:=List.replicate n 0
def Fit (a:List Int):Prop:=∀x∈a,IntKind.i64.wrap x=x
theorem wr_add (x y:Int):IntKind.i64.wrap (IntKind.i64.wrap x+y)=IntKind.i64.wrap (x+y):=by
 simp only[IntKind.wrap,IntKind.bits,IntKind.signed]
 repeat' split
 all_goals (simp at*;omega)
theorem wr_add' (x y:Int):IntKind.i64.wrap (x+IntKind.i64.wrap y)=IntKind.i64.wrap (x+y):=by rw[Int.add_comm,wr_add,Int.add_comm]
theorem addV_len {a b:List Int} (ha:a.length=n) (hb:b.length=n):(addV a b).length=n:=by simp[addV,ha,hb]
theorem zeV_len (n:Nat):(zeV n).length=n:=List.length_replicate
theorem addV_fit (a b:List Int):Fit (addV a b):=by
 intro x hx
 obtain ⟨i,hi⟩:=List.mem_iff_getElem?.1 hx
 unfold addV at hi
 rw[List.getElem?_zipWith]at hi
 split at hi
 ·cases hi
  have h:=wr_add 0
  rename_i u v _ _
  have:=wr_add (u+v) 0
  simpa using this
 ·cases hi
theorem addV_zero:∀{a:List Int} {n:Nat},a.length=n→Fit a→addV a (zeV n)=a
 |[],n,h,_=>by cases h;rfl
 |x::r,n,h,hf=>by
    cases n with
    |zero=>cases h
    |succ n=>
     have h1:=addV_zero (a:=r) (n:=n) (by simpa using h) fun y hy=>hf y (List.mem_cons_of_mem _ hy)
     unfold addV zeV at h1⊢
     rw[List.replicate_succ,List.zipWith_cons_cons,h1,Int.add_zero,hf x (List.mem_cons_self ..)]
theorem addV_comm:∀(a b:List Int),addV a b=addV b a
 |[],b=>by simp[addV]
 |_::_,[]=>by simp[addV]
 |x::r,y::s=>by
    have h:=addV_comm r s
    unfold addV at h⊢
    rw[List.zipWith_cons_cons,List.zipWith_cons_cons,h,Int.add_comm]
theorem addV_assoc:∀(a b c:List Int),addV (addV a b) c=addV a (addV b c)
 |[],b,c=>by simp[addV]
 |_::_,[],c=>by simp[addV]
 |_::_,_::_,[]=>by simp[addV]
 |x::r,y::s,z::t=>by
    have h:=addV_assoc r s t
    unfold addV at h⊢
    simp only[List.zipWith_cons_cons]
    rw[h,wr_add,wr_add',Int.add_assoc]
section
variable {κ:Type} [DecidableEq κ]
def sumV (n:Nat) (k:κ):List (κ×List Int)→List Int
 |[]=>zeV n
 |p::r=>if p.1=k then addV p.2 (sumV n k r) else sumV n k r
theorem sumV_len {k:κ}:∀{L:List (κ×List Int)},(∀p∈L,p.2.length=n)→(sumV n k L).length=n
 |[],_=>zeV_len n
 |p::r,h=>by
    have h1:=sumV_len (k:=k) (L:=r) fun q hq=>h q (List.mem_cons_of_mem _ hq)
    unfold sumV
    split
    ·exact addV_len (h p (List.mem_cons_self ..)) h1
    ·exact h1
theorem zeV_fit (n:Nat):Fit (zeV n):=fun x hx=>by
 rw[(List.mem_replicate.1 hx).2];rfl
theorem sumV_fit (n:Nat) (k:κ):∀(L:List (κ×List Int)),Fit (sumV n k L)
 |[]=>zeV_fit n
 |p::r=>by
    unfold sumV
    split
    ·exact addV_fit _ _
    ·exact sumV_fit n k r
theorem sumV_app {k:κ}:∀{L M:List (κ×List Int)},(∀p∈L,p.2.length=n)→(∀p∈M,p.2.length=n)→sumV n k (L++M)=addV (sumV n k L) (sumV n k M)
 |[],M,_,hM=>by
    show sumV n k M=addV (zeV n) (sumV n k M)
    rw[addV_comm,addV_zero (sumV_len hM) (sumV_fit n k M)]
 |p::r,M,hL,hM=>by
    have h:=sumV_app (k:=k) (L:=r) (M:=M) (fun q hq=>hL q (List.mem_cons_of_mem _ hq)) hM
    show (if p.1=k then addV p.2 (sumV n k (r++M)) else sumV n k (r++M))=addV (if p.1=k then addV p.2 (sumV n k r) else sumV n k r) (sumV n k M)
    rw[h]
    split
    ·rw[addV_assoc]
    ·rfl
theorem sumV_snoc {k:κ} {L:List (κ×List Int)} {p:κ×List Int} (hL:∀q∈L,q.2.length=n) (hp:p.2.length=n) (hf:Fit p.2):sumV n k (L++[p])=if p.1=k then addV (sumV n k L) p.2 else sumV n k L:=by
 rw[sumV_app hL fun q hq=>by obtain rfl:=List.mem_singleton.1 hq;exact hp]
 show addV _ (if p.1=k then addV p.2 (zeV n) else zeV n)=_
 split
 ·rw[addV_zero hp hf]
 ·rw[addV_zero (sumV_len hL) (sumV_fit n k L)]
theorem sumV_set {k k0:κ} {v:List Int}:∀{L:List (κ×List Int)} {i:Nat} {u:List Int},L[i]? =some (k0,u)→(∀q∈L,q.2.length=n)→v.length=n→sumV n k (L.set i (k0,addV u v))=if k0=k then addV (sumV n k L) v else sumV n k L
 |[],i,u,h,_,_=>by simp at h
 |p::r,0,u,h,hL,hv=>by
    cases h
    show (if k0=k then addV (addV u v) (sumV n k r) else sumV n k r)=if k0=k then addV (if k0=k then addV u (sumV n k r) else sumV n k r) v else (if k0=k then addV u (sumV n k r) else sumV n k r)
    by_cases e:k0=k
    ·simp only[if_pos e]
     rw[addV_assoc,addV_assoc,addV_comm v]
    ·simp only[if_neg e]
 |p::r,i+1,u,h,hL,hv=>by
    have h1:=sumV_set (k:=k) (k0:=k0) (v:=v) (L:=r) (i:=i) (u:=u) (by simpa using h) (fun q hq=>hL q (List.mem_cons_of_mem _ hq)) hv
    show (if p.1=k then addV p.2 (sumV n k (r.set i (k0,addV u v))) else sumV n k (r.set i (k0,addV u v)))=if k0=k then addV (if p.1=k then addV p.2 (sumV n k r) else sumV n k r) v else (if p.1=k then addV p.2 (sumV n k r) else sumV n k r)
    rw[h1]
    by_cases e:k0=k<;>by_cases e2:p.1=k
    ·simp only[if_pos e,if_pos e2];rw[addV_assoc]
    ·simp only[if_pos e,if_neg e2]
    ·simp only[if_neg e,if_pos e2]
    ·simp only[if_neg e,if_neg e2]
end
def pgs (m:PMapping):Int:=IntKind.u64.wrap (IntKind.u64.wrap (m.limit - m.start)+4095)
def partK (m:PMapping):Int×Int×ByteArray:=(IntKind.u64.wrap (pgs m - pgs m%4096),m.offset,if m.build=⟨#[]⟩ then m.file else m.build)
def fnK (f:PFunc):Int×ByteArray×ByteArray×ByteArray:=(f.start,f.name,f.system,f.file)
abbrev LnK:=Option (Int×ByteArray×ByteArray×ByteArray)×Int
abbrev PlK:=Option (Int×Int×ByteArray)×Int×List LnK
abbrev SmK:=List PlK×List (ByteArray×List ByteArray)×List (ByteArray×List Int)
def atZ {α:Type} (xs:List α) (z:Int):Option α:=if 0≤z then xs[z.toNat]? else none
def lnK (x:PProf) (n:PLine):LnK:=((atZ x.funcs n.fn).map fnK,n.line)
def plK (x:PProf) (l:PLoc):PlK:=((atZ x.mappings l.mapping).map partK,IntKind.u64.wrap (l.addr - ((atZ x.mappings l.mapping).map (·.start)).getD 0),l.lines.map (lnK x))
def smK (x:PProf) (s:PSample):SmK:=(s.stack.filterMap fun k=>(atZ x.locs k).map (plK x),s.texts.map fun t=>(t.key,t.list),s.nums.map fun t=>(t.key,t.list))
structure Grows (x y:PProf):Prop where
 m:x.mappings<+:y.mappings
 f:x.funcs<+:y.funcs
 l:x.locs<+:y.locs
theorem Grows.refl (x:PProf):Grows x x:=⟨List.prefix_rfl,List.prefix_rfl,List.prefix_rfl⟩
theorem Grows.trans {x y:PProf} (h:Grows x y) (k:Grows y z):Grows x z:=⟨h.m.trans k.m,h.f.trans k.f,h.l.trans k.l⟩
theorem atZ_pre {α:Type} {xs ys:List α} {z:Int} (h:xs<+:ys) (hz:z<xs.length):atZ ys z=atZ xs z:=by
 unfold atZ
 split
 ·obtain ⟨t,rfl⟩:=h
  rw[List.getElem?_append_left (by omega)]
 ·rfl
theorem plK_grows {x y:PProf} {l:PLoc} (h:Grows x y) (hm:l.mapping<x.mappings.length) (hf:∀n∈l.lines,n.fn<x.funcs.length):plK y l=plK x l:=by
 unfold plK
 rw[atZ_pre h.m hm,List.map_congr_left fun n hn=>show lnK y n=lnK x n by unfold lnK;rw[atZ_pre h.f (hf n hn)]]
structure TabK (x:PProf):Prop where
 loc:∀l∈x.locs,(-1≤l.mapping∧l.mapping<x.mappings.length)∧∀n∈l.lines, -1≤n.fn∧n.fn<x.funcs.length
theorem smK_grows {x y:PProf} (h:Grows x y) (hx:TabK x) (hs:∀k∈s.stack,k<x.locs.length):smK y s=smK x s:=by
 unfold smK
 congr 1
 have:∀k∈s.stack,(atZ y.locs k).map (plK y)=(atZ x.locs k).map (plK x):=fun k hk=>by
  rw[atZ_pre h.l (hs k hk)]
  cases e:atZ x.locs k with
  |none=>rfl
  |some l=>
   have hm:l∈x.locs:=by
     unfold atZ at e
     split at e
     ·exact List.mem_of_getElem? e
     ·cases e
   obtain ⟨⟨-,h1⟩,h2⟩:=hx.loc l hm
   show some (plK y l)=some (plK x l)
   rw[plK_grows h h1 fun n hn=>(h2 n hn).2]
 have key:∀(l:List Int),(∀k∈l,(atZ y.locs k).map (plK y)=(atZ x.locs k).map (plK x))→l.filterMap (fun k=>(atZ y.locs k).map (plK y))=l.filterMap fun k=>(atZ x.locs k).map (plK x):=by
  intro l
  induction l with
  |nil=>intro _;rfl
  |cons a r ih=>
   intro hl
   rw[List.filterMap_cons,List.filterMap_cons,hl a (List.mem_cons_self ..),ih fun k hk=>hl k (List.mem_cons_of_mem _ hk)]
 exact key _ this
open Go Go.Lib
def hv (x:Int):Int:=if x<97 then x - 48 else x - 87
theorem hv_digit (h:n<16):hv (Lib.hexDigit n)=n:=by
 unfold hv Lib.hexDigit
 by_cases h1:n<10
 ·rw[if_pos h1,if_pos (by omega)];omega
 ·rw[if_neg h1,if_neg (by omega)];omega
def hvs:List Int→Int:=List.foldl (fun a x=>16*a+hv x) 0
theorem hvs_4 {r:Nat} (h:r<65536):hvs (hexDigits r 4)=r:=by
 simp only[hexDigits,hvs,List.foldl_cons,List.foldl_nil]
 rw[hv_digit (by omega),hv_digit (by omega),hv_digit (by omega),hv_digit (by omega)]
 omega
theorem hvs_8 {r:Nat} (h:r<4294967296):hvs (hexDigits r 8)=r:=by
 simp only[hexDigits,hvs,List.foldl_cons,List.foldl_nil]
 rw[hv_digit (by omega),hv_digit (by omega),hv_digit (by omega),hv_digit (by omega),hv_digit (by omega),hv_digit (by omega),hv_digit (by omega),hv_digit (by omega)]
 omega
def unE (c:Int) (r:List Int):List Int×List Int:=
 if c=97 then ([7],r) else if c=98 then ([8],r) else if c=102 then ([12],r) else if c=110 then ([10],r)
 else if c=114 then ([13],r) else if c=116 then ([9],r) else if c=118 then ([11],r)
 else if c=120 then ([hvs (r.take 2)],r.drop 2)
 else if c=117 then (encodeRuneZ (hvs (r.take 4)),r.drop 4)
 else if c=85 then (encodeRuneZ (hvs (r.take 8)),r.drop 8)
 else ([c],r)
def unQ:List Int→List Int×List Int
 |[]=>([],[])
 |x::r=>
  if x=92 then (match r with|[]=>([],[])|c::r=>unE c r)
  else if x<128 then ([x],r) else if x<224 then (x::r.take 1,r.drop 1) else if x<240 then (x::r.take 2,r.drop 2) else (x::r.take 3,r.drop 3)
theorem hvs_2 (h1:n<16) (h2:m<16):hvs [Lib.hexDigit n,Lib.hexDigit m]=16*n+m:=by
 simp only[hvs,List.foldl_cons,List.foldl_nil,hv_digit h1,hv_digit h2];omega
theorem unQ_x (h1:n<16) (h2:m<16) (a:List Int):unQ ([92,120,Lib.hexDigit n,Lib.hexDigit m]++a)=([((16*n+m:Nat):Int)],a):=by
 show ([hvs [Lib.hexDigit n,Lib.hexDigit m]],a)=_
 rw[hvs_2 h1 h2]
 simp
theorem unQ_enc {r:Int} (h0:0≤r) (h1:r≠92) (hv:Lib.validRune r=true) (a:List Int):unQ (encodeRuneZ r++a)=(encodeRuneZ r,a):=by
 have hv':(0≤r∧r<55296)∨(57343<r∧r≤1114111):=by simpa[Lib.validRune]using hv
 by_cases c1:r≤127
 ·rw[encodeRuneZ_one h0 c1]
  simp only[unQ,List.cons_append,List.nil_append]
  rw[if_neg h1,if_pos (by omega)]
 by_cases c2:r≤2047
 ·rw[encodeRuneZ_two (by omega) c2]
  simp only[unQ,List.cons_append,List.nil_append]
  rw[if_neg (by omega),if_neg (by omega),if_pos (by omega)]
  simp
 by_cases c3:r≤65535
 ·rw[encodeRuneZ_three (by omega)]
  simp only[unQ,List.cons_append,List.nil_append]
  rw[if_neg (by omega),if_neg (by omega),if_neg (by omega),if_pos (by omega)]
  simp
 ·rw[encodeRuneZ_four (by omega) (by omega)]
  simp only[unQ,List.cons_append,List.nil_append]
  rw[if_neg (by omega),if_neg (by omega),if_neg (by omega),if_neg (by omega)]
  simp
theorem unQ_esc (T:PrintTabs) {r:Int} (h0:0≤r) (hv:Lib.validRune r=true) (a:List Int):unQ (escRune T r++a)=(encodeRuneZ r,a):=by
 have hv':(0≤r∧r<55296)∨(57343<r∧r≤1114111):=by simpa[Lib.validRune]using hv
 unfold escRune
 by_cases c0:r=34∨r=92
 ·rw[if_pos c0]
  rcases c0 with rfl|rfl<;>rfl
 rw[if_neg c0]
 by_cases c1:isPrintR T r=true
 ·rw[if_pos c1];exact unQ_enc h0 (by omega) hv a
 rw[if_neg c1]
 by_cases c2:r=7
 ·rw[if_pos c2,c2];rfl
 rw[if_neg c2]
 by_cases c3:r=8
 ·rw[if_pos c3,c3];rfl
 rw[if_neg c3]
 by_cases c4:r=12
 ·rw[if_pos c4,c4];rfl
 rw[if_neg c4]
 by_cases c5:r=10
 ·rw[if_pos c5,c5];rfl
 rw[if_neg c5]
 by_cases c6:r=13
 ·rw[if_pos c6,c6];rfl
 rw[if_neg c6]
 by_cases c7:r=9
 ·rw[if_pos c7,c7];rfl
 rw[if_neg c7]
 by_cases c8:r=11
 ·rw[if_pos c8,c8];rfl
 rw[if_neg c8]
 by_cases c9:r<32∨r=127
 ·rw[if_pos c9,unQ_x (by omega) (by omega),encodeRuneZ_one h0 (by omega)]
  have e:((16*(r.toNat/16)+r.toNat%16:Nat):Int)=r:=by omega
  rw[e]
 rw[if_neg c9,if_neg (by rw[hv];decide)]
 by_cases c11:r<65536
 ·rw[if_pos c11]
  have e:hvs (hexDigits r.toNat 4)=r:=by rw[hvs_4 (by omega)];omega
  have el:(hexDigits r.toNat 4).length=4:=rfl
  show (encodeRuneZ (hvs ((hexDigits r.toNat 4++a).take 4)),(hexDigits r.toNat 4++a).drop 4)=_
  rw[List.take_left' el,List.drop_left' el,e]
 ·rw[if_neg c11]
  have e:hvs (hexDigits r.toNat 8)=r:=by rw[hvs_8 (by omega)];omega
  have el:(hexDigits r.toNat 8).length=8:=rfl
  show (encodeRuneZ (hvs ((hexDigits r.toNat 8++a).take 8)),(hexDigits r.toNat 8++a).drop 8)=_
  rw[List.take_left' el,List.drop_left' el,e]
def ints (l:List UInt8):List Int:=l.map fun b=>(b.toNat:Int)
theorem ints_inj {l m:List UInt8} (h:ints l=ints m):l=m:=by
 unfold ints at h
 exact List.map_inj_right (fun a b e=>UInt8.toNat_inj.1 (by omega))|>.1 h
theorem ints_app (l m:List UInt8):ints (l++m)=ints l++ints m:=List.map_append
theorem ints_enc (r:Int):ints (encodeRune r)=encodeRuneZ r:=by
 unfold ints encodeRune
 rw[List.map_map]
 refine (List.map_congr_left fun x hx=>?_).trans (List.map_id _)
 obtain ⟨h1,h2⟩:=encodeRuneZ_byte r x hx
 show ((x.toNat.toUInt8.toNat:Nat):Int)=x
 rw[show x.toNat.toUInt8.toNat=x.toNat from Nat.mod_eq_of_lt (by omega)]
 omega
theorem unQ_step (T:PrintTabs) (l:List UInt8) (hl:l≠[]) (a:List Int):unQ (quoteStep T ⟨l.toArray⟩++a)=(ints (l.take (decodeL l).2),a):=by
 by_cases h:(decodeL l).2=1∧(decodeL l).1=65533
 ·cases l with
  |nil=>exact absurd rfl hl
  |cons b r=>
   have h0:0<(ByteArray.mk (b::r).toArray).size:=by show 0<(b::r).toArray.size;simp
   rw[quoteStep_bad T _ h0 h.1.symm h.2.symm]
   have e:(ByteArray.mk (b::r).toArray)[0]'h0=b:=rfl
   rw[e,h.1]
   have hb:=UInt8.toNat_lt b
   rw[unQ_x (by omega) (by omega)]
   show ([_],a)=([(b.toNat:Int)],a)
   have e2:16*(b.toNat/16)+b.toNat%16=b.toNat:=by omega
   rw[e2]
 ·rw[quoteStep_good T _ h]
  have h1:=encode_decode l hl fun h2=>h ⟨h2.2,h2.1⟩
  have hv:=rune_valid ⟨l.toArray⟩
  rw[unQ_esc T (by omega) hv, ← h1,ints_enc]
  rfl
theorem hd_ite {p:Prop} [Decidable p] {A B:List Int} (h1:p→∃x r,A=x::r∧x≠34) (h2:¬p→∃x r,B=x::r∧x≠34):∃x r,(if p then A else B)=x::r∧x≠34:=by
 by_cases h:p
 ·rw[if_pos h];exact h1 h
 ·rw[if_neg h];exact h2 h
theorem enc_head {r:Int} (h:r≠34):∃x t,encodeRuneZ r=x::t∧x≠34:=by
 unfold encodeRuneZ
 refine hd_ite (fun _=>⟨_,_,rfl,h⟩) fun _=>hd_ite (fun _=>⟨_,_,rfl,by omega⟩) fun _=>hd_ite (fun _=>⟨_,_,rfl,by omega⟩) fun _=>hd_ite (fun _=>⟨_,_,rfl,by omega⟩) fun _=>⟨_,_,rfl,by decide⟩
theorem step_head (T:PrintTabs) (l:List UInt8):∃x r,quoteStep T ⟨l.toArray⟩=x::r∧x≠34:=by
 have k:∀t:List Int,∃x r,(92::t:List Int)=x::r∧x≠34:=fun t=>⟨_,_,rfl,by decide⟩
 unfold quoteStep escRune
 exact hd_ite (fun _=>k _) fun _=>hd_ite (fun _=>k _) fun h=>hd_ite (fun _=>enc_head fun e=>h (.inl e)) fun _=>hd_ite (fun _=>k _) fun _=>hd_ite (fun _=>k _) fun _=>hd_ite (fun _=>k _) fun _=>hd_ite (fun _=>k _) fun _=>hd_ite (fun _=>k _) fun _=>hd_ite (fun _=>k _) fun _=>hd_ite (fun _=>k _) fun _=>hd_ite (fun _=>k _) fun _=>hd_ite (fun _=>k _) fun _=>hd_ite (fun _=>k _) fun _=>k _
theorem from_list (T:PrintTabs) (f:Nat) (l:List UInt8) (hl:l≠[]) (hf:l.length≤f):quoteFrom T f ⟨l.toArray⟩=quoteStep T ⟨l.toArray⟩++quoteFrom T (f - 1) ⟨(l.drop (decodeL l).2).toArray⟩:=by
 have h0:0<(ByteArray.mk l.toArray).size:=by
  show 0<l.toArray.size
  cases l with
  |nil=>exact absurd rfl hl
  |cons b r=>simp
 rw[quoteFrom_step T f _ h0 (by show l.toArray.size≤f;simpa using hf)]
 congr 2
 apply ByteArray.ext
 apply Array.ext'
 have:=decodeL_le l hl
 show ((ByteArray.mk l.toArray).extract (decodeL l).2 (ByteArray.mk l.toArray).size).data.toList=_
 rw[ByteArray.data_extract]
 show (l.toArray.extract _ l.toArray.size).toList=_
 simp only[Array.toList_extract,List.extract_eq_take_drop,List.size_toArray]
 exact List.take_of_length_le (by rw[List.length_drop];exact Nat.le_refl _)
theorem from_inj (T:PrintTabs):∀(n:Nat) (l m:List UInt8) (f g:Nat) (a b:List Int),l.length≤n→l.length≤f→m.length≤g→quoteFrom T f ⟨l.toArray⟩++34::a=quoteFrom T g ⟨m.toArray⟩++34::b→l=m∧a=b:=by
 intro n
 induction n with
 |zero=>
  intro l m f g a b hn hf hg h
  have hl:l=[]:=List.eq_nil_of_length_eq_zero (by omega)
  subst hl
  rw[quoteFrom_end T f _ (by simp[ByteArray.size])]at h
  by_cases hm:m=[]
  ·subst hm
   rw[quoteFrom_end T g _ (by simp[ByteArray.size])]at h
   exact ⟨rfl,by simpa using h⟩
  ·rw[from_list T g m hm hg]at h
   obtain ⟨x,r,e,hx⟩:=step_head T m
   rw[e]at h
   simp only[List.nil_append,List.cons_append,List.cons.injEq]at h
   exact absurd h.1.symm hx
 |succ n ih=>
  intro l m f g a b hn hf hg h
  by_cases hl:l=[]
  ·subst hl
   rw[quoteFrom_end T f _ (by simp[ByteArray.size])]at h
   by_cases hm:m=[]
   ·subst hm
    rw[quoteFrom_end T g _ (by simp[ByteArray.size])]at h
    exact ⟨rfl,by simpa using h⟩
   ·rw[from_list T g m hm hg]at h
    obtain ⟨x,r,e,hx⟩:=step_head T m
    rw[e]at h
    simp only[List.nil_append,List.cons_append,List.cons.injEq]at h
    exact absurd h.1.symm hx
  ·rw[from_list T f l hl hf]at h
   by_cases hm:m=[]
   ·subst hm
    rw[quoteFrom_end T g _ (by simp[ByteArray.size])]at h
    obtain ⟨x,r,e,hx⟩:=step_head T l
    rw[e]at h
    simp only[List.nil_append,List.cons_append,List.cons.injEq]at h
    exact absurd h.1 hx
   ·rw[from_list T g m hm hg,List.append_assoc,List.append_assoc]at h
    have h1:=congrArg unQ h
    rw[unQ_step T l hl,unQ_step T m hm]at h1
    obtain ⟨h2,h3⟩:=Prod.mk.inj h1
    have w1:=decodeL_width l
    have w2:=decodeL_width m
    have p1:=List.length_pos_iff.2 hl
    have p2:=List.length_pos_iff.2 hm
    obtain ⟨h4,h5⟩:=ih (l.drop (decodeL l).2) (m.drop (decodeL m).2) _ _ a b (by rw[List.length_drop];omega) (by rw[List.length_drop];omega) (by rw[List.length_drop];omega) h3
    refine ⟨?_,h5⟩
    rw[← List.take_append_drop (decodeL l).2 l, ← List.take_append_drop (decodeL m).2 m,ints_inj h2,h4]
theorem quote_inj (T:PrintTabs) {s t:ByteArray} {a b:List Int} (h:quoteZ T s++a=quoteZ T t++b):s=t∧a=b:=by
 unfold quoteZ at h
 simp only[List.cons_append,List.append_assoc,List.nil_append,List.cons.injEq,true_and]at h
 obtain ⟨h1,h2⟩:=from_inj T s.size s.data.toList t.data.toList s.size t.size a b (Nat.le_of_eq Array.length_toList) (Nat.le_of_eq Array.length_toList) (Nat.le_of_eq Array.length_toList) h
 exact ⟨ByteArray.ext (Array.ext' h1),h2⟩
def PreInj {α:Type} (t:α→List UInt8):Prop:=∀x y a b,t x++a=t y++b→x=y∧a=b
theorem flat_inj {α:Type} {t:α→List UInt8} (h:PreInj t) (hne:∀x,t x≠[]):∀{xs ys:List α},xs.flatMap t=ys.flatMap t→xs=ys
 |[],[],_=>rfl
 |[],y::s,e=>by
    rw[List.flatMap_nil,List.flatMap_cons]at e
    exact absurd (List.append_eq_nil_iff.1 e.symm).1 (hne y)
 |x::r,[],e=>by
    rw[List.flatMap_nil,List.flatMap_cons]at e
    exact absurd (List.append_eq_nil_iff.1 e).1 (hne x)
 |x::r,y::s,e=>by
    rw[List.flatMap_cons,List.flatMap_cons]at e
    obtain ⟨h1,h2⟩:=h x y _ _ e
    rw[h1,flat_inj h hne h2]
def b8 (l:List Int):List UInt8:=l.map fun n=>UInt8.ofNat n.toNat
theorem ints_b8 {l:List Int} (h:∀x∈l,0≤x∧x<256):ints (b8 l)=l:=by
 unfold ints b8
 rw[List.map_map]
 refine (List.map_congr_left fun x hx=>?_).trans (List.map_id _)
 obtain ⟨h1,h2⟩:=h x hx
 show ((UInt8.ofNat x.toNat).toNat:Int)=x
 rw[UInt8.toNat_ofNat',Nat.mod_eq_of_lt (by omega)];omega
theorem digit_rng (h:n<16):0≤Lib.hexDigit n∧Lib.hexDigit n<256:=by unfold Lib.hexDigit;split<;>omega
theorem digits_rng (r:Nat):∀n,∀x∈hexDigits r n,0≤x∧x<256
 |0,x,h=>by cases h
 |n+1,x,h=>by
    rcases List.mem_cons.1 h with rfl|h
    ·exact digit_rng (Nat.mod_lt _ (by decide))
    ·exact digits_rng r n x h
theorem esc_rng (T:PrintTabs) {r:Int} (h0:0≤r):∀x∈escRune T r,0≤x∧x<256:=by
 unfold escRune
 have k:∀(p:Prop) [Decidable p] (A B:List Int),(p→∀x∈A,0≤x∧x<256)→(¬p→∀x∈B,0≤x∧x<256)→∀x∈(if p then A else B),0≤x∧x<256:=fun p _ A B h1 h2=>by
  by_cases h:p
  ·rw[if_pos h];exact h1 h
  ·rw[if_neg h];exact h2 h
 have c2:∀a b:Int,0≤a→a<256→0≤b→b<256→∀x∈[a,b],0≤x∧x<256:=fun a b h1 h2 h3 h4 x hx=>by
  simp only[List.mem_cons,List.not_mem_nil,or_false]at hx
  rcases hx with rfl|rfl<;>omega
 refine k _ _ _ (fun h=>c2 _ _ (by omega) (by omega) (by omega) (by omega)) fun _=>k _ _ _ (fun _=>encodeRuneZ_byte r) fun _=>?_
 refine k _ _ _ (fun _=>c2 _ _ (by omega) (by omega) (by omega) (by omega)) fun _=>k _ _ _ (fun _=>c2 _ _ (by omega) (by omega) (by omega) (by omega)) fun _=>k _ _ _ (fun _=>c2 _ _ (by omega) (by omega) (by omega) (by omega)) fun _=>k _ _ _ (fun _=>c2 _ _ (by omega) (by omega) (by omega) (by omega)) fun _=>k _ _ _ (fun _=>c2 _ _ (by omega) (by omega) (by omega) (by omega)) fun _=>k _ _ _ (fun _=>c2 _ _ (by omega) (by omega) (by omega) (by omega)) fun _=>k _ _ _ (fun _=>c2 _ _ (by omega) (by omega) (by omega) (by omega)) fun _=>?_
 refine k _ _ _ (fun h x hx=>?_) fun _=>k _ _ _ (fun _ x hx=>?_) fun _=>k _ _ _ (fun _ x hx=>?_) fun _ x hx=>?_
 ·simp only[List.mem_cons,List.not_mem_nil,or_false]at hx
  rcases hx with rfl|rfl|rfl|rfl
  ·omega
  ·omega
  ·exact digit_rng (by omega)
  ·exact digit_rng (by omega)
 all_goals
  rcases List.mem_cons.1 hx with rfl|hx
  ·omega
  rcases List.mem_cons.1 hx with rfl|hx
  ·omega
  exact digits_rng _ _ x hx
theorem step_rng (T:PrintTabs) (s:ByteArray):∀x∈quoteStep T s,0≤x∧x<256:=by
 unfold quoteStep
 split
 ·intro x hx
  simp only[List.mem_cons,List.not_mem_nil,or_false]at hx
  have hb:=UInt8.toNat_lt (s.get! 0)
  rcases hx with rfl|rfl|rfl|rfl
  ·omega
  ·omega
  ·exact digit_rng (by omega)
  ·exact digit_rng (by omega)
 ·exact esc_rng T (by omega)
theorem from_rng (T:PrintTabs):∀(f:Nat) (s:ByteArray),∀x∈quoteFrom T f s,0≤x∧x<256
 |0,s,x,h=>by simp[quoteFrom]at h
 |f+1,s,x,h=>by
    unfold quoteFrom at h
    split at h
    ·rcases List.mem_append.1 h with h|h
     ·exact step_rng T s x h
     ·exact from_rng T f _ x h
    ·cases h
def qB (T:PrintTabs) (s:ByteArray):List UInt8:=b8 (quoteZ T s)
theorem quote_rng (T:PrintTabs) (s:ByteArray):∀x∈quoteZ T s,0≤x∧x<256:=by
 intro x hx
 unfold quoteZ at hx
 rcases List.mem_cons.1 hx with rfl|hx
 ·omega
 ·rcases List.mem_append.1 hx with hx|hx
  ·exact from_rng T _ _ x hx
  ·obtain rfl:=List.mem_singleton.1 hx;omega
theorem qB_inj (T:PrintTabs):PreInj (qB T):=fun s t a b h=>by
 have h1:=congrArg ints h
 rw[ints_app,ints_app,qB,qB,ints_b8 (quote_rng T s),ints_b8 (quote_rng T t)]at h1
 obtain ⟨h2,h3⟩:=quote_inj T h1
 exact ⟨h2,ints_inj h3⟩
def qTl (T:PrintTabs) (l:List ByteArray):List UInt8:=l.flatMap fun s=>32::qB T s
def qLs (T:PrintTabs):List ByteArray→List UInt8
 |[]=>[]
 |s::r=>qB T s++qTl T r
theorem qTl_inj (T:PrintTabs):∀{l m:List ByteArray} {a b:List UInt8},qTl T l++93::a=qTl T m++93::b→l=m∧a=b
 |[],[],a,b,h=>⟨rfl,by simpa[qTl]using h⟩
 |[],y::s,a,b,h=>by simp[qTl]at h
 |x::r,[],a,b,h=>by simp[qTl]at h
 |x::r,y::s,a,b,h=>by
    simp only[qTl,List.flatMap_cons,List.cons_append,List.append_assoc,List.cons.injEq,true_and]at h
    obtain ⟨h1,h2⟩:=qB_inj T x y _ _ h
    obtain ⟨h3,h4⟩:=qTl_inj T (l:=r) (m:=s) h2
    exact ⟨by rw[h1,h3],h4⟩
theorem qB_head (T:PrintTabs) (s:ByteArray):∃r,qB T s=34::r:=⟨_,rfl⟩
theorem qLs_inj (T:PrintTabs) {l m:List ByteArray} {a b:List UInt8} (h:qLs T l++93::a=qLs T m++93::b):l=m∧a=b:=by
 cases l with
 |nil=>
  cases m with
  |nil=>exact ⟨rfl,by simpa[qLs]using h⟩
  |cons y s=>obtain ⟨r,e⟩:=qB_head T y;simp[qLs,e]at h
 |cons x r=>
  cases m with
  |nil=>obtain ⟨t,e⟩:=qB_head T x;simp[qLs,e]at h
  |cons y s=>
   simp only[qLs,List.append_assoc]at h
   obtain ⟨h1,h2⟩:=qB_inj T x y _ _ h
   obtain ⟨h3,h4⟩:=qTl_inj T h2
   exact ⟨by rw[h1,h3],h4⟩
def tokT (T:PrintTabs) (q:ByteArray×List ByteArray):List UInt8:=qB T q.1++91::(qLs T q.2++[93])
theorem tokT_inj (T:PrintTabs):PreInj (tokT T):=fun x y a b h=>by
 simp only[tokT,List.append_assoc,List.cons_append,List.nil_append]at h
 obtain ⟨h1,h2⟩:=qB_inj T _ _ _ _ h
 simp only[List.cons.injEq,true_and]at h2
 obtain ⟨h3,h4⟩:=qLs_inj T h2
 exact ⟨Prod.ext h1 h3,h4⟩
theorem tokT_ne (T:PrintTabs) (q:ByteArray×List ByteArray):tokT T q≠[]:=by
 obtain ⟨r,e⟩:=qB_head T q.1
 simp[tokT,e]
theorem cut_at {c:UInt8→Bool}:∀{x y a b:List UInt8},(∀z∈x,c z=false)→(∀z∈y,c z=false)→(∀z r,a=z::r→c z=true)→(∀z r,b=z::r→c z=true)→x++a=y++b→x=y∧a=b
 |[],[],_,_,_,_,_,_,h=>⟨rfl,h⟩
 |[],z::y,a,b,_,hy,ha,_,h=>by
    have:=ha z (y++b) h
    rw[hy z (List.mem_cons_self ..)]at this;cases this
 |z::x,[],a,b,hx,_,_,hb,h=>by
    have:=hb z (x++a) h.symm
    rw[hx z (List.mem_cons_self ..)]at this;cases this
 |z::x,u::y,a,b,hx,hy,ha,hb,h=>by
    simp only[List.cons_append,List.cons.injEq]at h
    obtain ⟨h1,h2⟩:=cut_at (c:=c) (fun v hv=>hx v (List.mem_cons_of_mem _ hv)) (fun v hv=>hy v (List.mem_cons_of_mem _ hv)) ha hb h.2
    exact ⟨by rw[h.1,h1],h2⟩
theorem joinTail_inj {m:UInt8}:∀{xs ys:List (List UInt8)},(∀x∈xs,m∉x)→(∀y∈ys,m∉y)→joinTail [m] xs=joinTail [m] ys→xs=ys
 |[],[],_,_,_=>rfl
 |[],_::_,_,_,h=>by simp[joinTail]at h
 |_::_,[],_,_,h=>by simp[joinTail]at h
 |x::r,y::s,hx,hy,h=>by
    simp only[joinTail,List.map_cons,List.flatten_cons,List.cons_append,List.nil_append,List.cons.injEq,true_and]at h
    have k:∀(l:List (List UInt8)) (z:UInt8) (t:List UInt8),(l.map ([m]++·)).flatten=z::t→decide (z=m)=true:=fun l z t e=>by
     cases l with
     |nil=>cases e
     |cons a l=>simp only[List.map_cons,List.flatten_cons,List.cons_append,List.nil_append,List.cons.injEq]at e;simp[e.1]
    obtain ⟨h1,h2⟩:=cut_at (c:=fun z=>decide (z=m)) (fun z hz=>decide_eq_false fun e=>hx x (List.mem_cons_self ..) (by rw[← e];exact hz)) (fun z hz=>decide_eq_false fun e=>hy y (List.mem_cons_self ..) (by rw[← e];exact hz)) (k r) (k s) h
    rw[h1,joinTail_inj (fun z hz=>hx z (List.mem_cons_of_mem _ hz)) (fun z hz=>hy z (List.mem_cons_of_mem _ hz)) h2]
theorem join_inj {m:UInt8} {xs ys:List (List UInt8)} (hx:∀x∈xs,m∉x) (hy:∀y∈ys,m∉y) (h0:xs.length=0↔ys.length=0) (h:join xs [m]=join ys [m]):xs=ys:=by
 cases xs with
 |nil=>exact (List.eq_nil_of_length_eq_zero (h0.1 rfl)).symm
 |cons x r=>
  cases ys with
  |nil=>exact absurd (h0.2 rfl) (by simp)
  |cons y s=>
   rw[join_cons,join_cons]at h
   have k:∀(l:List (List UInt8)) (z:UInt8) (t:List UInt8),joinTail [m] l=z::t→decide (z=m)=true:=fun l z t e=>by
      cases l with
      |nil=>cases e
      |cons a l=>simp only[joinTail,List.map_cons,List.flatten_cons,List.cons_append,List.nil_append,List.cons.injEq]at e;simp[e.1]
   obtain ⟨h1,h2⟩:=cut_at (c:=fun z=>decide (z=m)) (fun z hz=>decide_eq_false fun e=>hx x (List.mem_cons_self ..) (by rw[← e];exact hz)) (fun z hz=>decide_eq_false fun e=>hy y (List.mem_cons_self ..) (by rw[← e];exact hz)) (k r) (k s) h
   rw[h1,joinTail_inj (fun z hz=>hx z (List.mem_cons_of_mem _ hz)) (fun z hz=>hy z (List.mem_cons_of_mem _ hz)) h2]
def hexD (n:Nat):UInt8:=UInt8.ofNat (Lib.hexDigit n).toNat
def hexU (n:Nat):List UInt8:=if n<16 then [hexD n] else hexU (n/16)++[hexD (n%16)]
theorem hexD_nat (h:n<16):((hexD n).toNat:Int)=Lib.hexDigit n:=by
 obtain ⟨h1,h2⟩:=digit_rng h
 unfold hexD
 rw[UInt8.toNat_ofNat',Nat.mod_eq_of_lt (by omega)];omega
theorem hvs_snoc (l:List Int) (x:Int):hvs (l++[x])=16*hvs l+hv x:=by simp[hvs]
theorem hexU_val (n:Nat):hvs (ints (hexU n))=n:=by
 induction n using Nat.strongRecOn with
 |_ n ih=>
  rw[hexU]
  by_cases h:n<16
  ·rw[if_pos h]
   show hvs [((hexD n).toNat:Int)]=n
   rw[hexD_nat h]
   simp only[hvs,List.foldl_cons,List.foldl_nil,hv_digit h];omega
  ·rw[if_neg h,ints_app,show ints [hexD (n%16)]=[((hexD (n%16)).toNat:Int)] from rfl,hvs_snoc,ih (n/16) (by omega),hexD_nat (by omega),hv_digit (by omega)]
   omega
theorem hexU_inj (h:hexU n=hexU m):n=m:=by
 have h1:=congrArg (fun l=>hvs (ints l)) h
 simp only[hexU_val]at h1
 omega
theorem hexD_chr (h:n<16):hexD n≠124∧hexD n≠32∧hexD n≠93∧hexD n≠45:=by
 have e:=hexD_nat h
 unfold Lib.hexDigit at e
 refine ⟨fun h=>?_,fun h=>?_,fun h=>?_,fun h=>?_⟩<;>(rw[h]at e;split at e<;>simp at e<;>omega)
theorem hexU_chr (n:Nat):∀z∈hexU n,z≠124∧z≠32∧z≠93∧z≠45:=by
 induction n using Nat.strongRecOn with
 |_ n ih=>
  intro z hz
  rw[hexU]at hz
  by_cases h:n<16
  ·rw[if_pos h]at hz
   obtain rfl:=List.mem_singleton.1 hz
   exact hexD_chr h
  ·rw[if_neg h]at hz
   rcases List.mem_append.1 hz with hz|hz
   ·exact ih (n/16) (by omega) z hz
   ·obtain rfl:=List.mem_singleton.1 hz
    exact hexD_chr (by omega)
theorem hexU_ne (n:Nat):hexU n≠[]:=by
 rw[hexU];split<;>simp
def hexI (i:Int):List UInt8:=if i<0 then 45::hexU (-i).toNat else hexU i.toNat
theorem hexI_chr (i:Int):∀z∈hexI i,z≠124∧z≠32∧z≠93:=by
 intro z hz
 unfold hexI at hz
 split at hz
 ·rcases List.mem_cons.1 hz with rfl|hz
  ·decide
  ·obtain ⟨h1,h2,h3, -⟩:=hexU_chr _ z hz
   exact ⟨h1,h2,h3⟩
 ·obtain ⟨h1,h2,h3, -⟩:=hexU_chr _ z hz
  exact ⟨h1,h2,h3⟩
theorem hexI_inj {i j:Int} (h:hexI i=hexI j):i=j:=by
 unfold hexI at h
 have k:∀n m:Nat,(45::hexU n)≠hexU m:=fun n m e=>(hexU_chr m 45 (by rw[← e];exact List.mem_cons_self ..)).2.2.2 rfl
 by_cases h1:i<0<;>by_cases h2:j<0
 ·rw[if_pos h1,if_pos h2]at h
  have:=hexU_inj (List.cons.inj h).2
  omega
 ·rw[if_pos h1,if_neg h2]at h;exact absurd h (k _ _)
 ·rw[if_neg h1,if_pos h2]at h;exact absurd h.symm (k _ _)
 ·rw[if_neg h1,if_neg h2]at h
  have:=hexU_inj h
  omega
theorem hexI_ne (i:Int):hexI i≠[]:=by unfold hexI;split<;>simp[hexU_ne]
def hTl (l:List Int):List UInt8:=l.flatMap fun i=>32::hexI i
def hLs:List Int→List UInt8
 |[]=>[]
 |i::r=>hexI i++hTl r
theorem hTl_head (l:List Int) (a:List UInt8):∀z r,hTl l++93::a=z::r→(decide (z=32)||decide (z=93))=true:=fun z r h=>by
 cases l with
 |nil=>simp[hTl]at h;simp[h.1.symm]
 |cons x l=>simp[hTl]at h;simp[h.1.symm]
theorem hexI_mark (i:Int):∀z∈hexI i,(decide (z=32)||decide (z=93))=false:=fun z hz=>by
 obtain ⟨-,h2,h3⟩:=hexI_chr i z hz
 simp[h2,h3]
theorem hTl_inj:∀{l m:List Int} {a b:List UInt8},hTl l++93::a=hTl m++93::b→l=m∧a=b
 |[],[],a,b,h=>⟨rfl,by simpa[hTl]using h⟩
 |[],y::s,a,b,h=>by simp[hTl]at h
 |x::r,[],a,b,h=>by simp[hTl]at h
 |x::r,y::s,a,b,h=>by
    simp only[hTl,List.flatMap_cons,List.cons_append,List.append_assoc,List.cons.injEq,true_and]at h
    obtain ⟨h1,h2⟩:=cut_at (hexI_mark x) (hexI_mark y) (hTl_head r a) (hTl_head s b) h
    obtain ⟨h3,h4⟩:=hTl_inj (l:=r) (m:=s) h2
    exact ⟨by rw[hexI_inj h1,h3],h4⟩
theorem hLs_inj {l m:List Int} {a b:List UInt8} (h:hLs l++93::a=hLs m++93::b):l=m∧a=b:=by
 have k:∀(i:Int) (t u:List UInt8),(93::t:List UInt8)≠hexI i++u:=fun i t u e=>by
  cases hh:hexI i with
  |nil=>exact hexI_ne i hh
  |cons z r=>
   rw[hh]at e
   simp only[List.cons_append,List.cons.injEq]at e
   exact (hexI_chr i z (by rw[hh];exact List.mem_cons_self ..)).2.2 e.1.symm
 cases l with
 |nil=>
  cases m with
  |nil=>exact ⟨rfl,by simpa[hLs]using h⟩
  |cons y s=>simp only[hLs,List.nil_append,List.append_assoc]at h;exact absurd h (k _ _ _)
 |cons x r=>
  cases m with
  |nil=>simp only[hLs,List.nil_append,List.append_assoc]at h;exact absurd h.symm (k _ _ _)
  |cons y s=>
   simp only[hLs,List.append_assoc]at h
   obtain ⟨h1,h2⟩:=cut_at (hexI_mark x) (hexI_mark y) (hTl_head r a) (hTl_head s b) h
   obtain ⟨h3,h4⟩:=hTl_inj h2
   exact ⟨by rw[hexI_inj h1,h3],h4⟩
def tokN (T:PrintTabs) (q:ByteArray×List Int):List UInt8:=qB T q.1++91::(hLs q.2++[93,91,93])
theorem tokN_inj (T:PrintTabs):PreInj (tokN T):=fun x y a b h=>by
 simp only[tokN,List.append_assoc,List.cons_append,List.nil_append]at h
 obtain ⟨h1,h2⟩:=qB_inj T _ _ _ _ h
 simp only[List.cons.injEq,true_and]at h2
 obtain ⟨h3,h4⟩:=hLs_inj h2
 simp only[List.cons.injEq,true_and]at h4
 exact ⟨Prod.ext h1 h3,h4⟩
theorem tokN_ne (T:PrintTabs) (q:ByteArray×List Int):tokN T q≠[]:=by
 obtain ⟨r,e⟩:=qB_head T q.1
 simp[tokN,e]
def Tg:PrintTabs:=goPrintTabs
def txt (l:List UInt8):ByteArray:=⟨l.toArray⟩
theorem txt_inj {l m:List UInt8} (h:txt l=txt m):l=m:=by
 have:=congrArg ByteArray.data h
 simpa[txt]using this
def mid (l:PLoc):Int:=if 0≤l.mapping then l.mapping+1 else 0
def fid (n:PLine):List UInt8:=if 0≤n.fn then hexU (n.fn.toNat+1) else []
def lnTx:List PLine→List (List UInt8)
 |[]=>[]
 |n::r=>fid n::hexI n.line::lnTx r
theorem lnTx_len (a:List PLine):(lnTx a).length=a.length*2:=by
 induction a with
 |nil=>rfl
 |cons n r ih=>simp[lnTx,ih];omega
theorem lnTx_bar {a:List PLine}:∀x∈lnTx a,(124:UInt8)∉x:=by
 induction a with
 |nil=>intro x h;cases h
 |cons n r ih=>
  intro x hx hm
  rcases List.mem_cons.1 hx with rfl|hx
  ·unfold fid at hm
   split at hm
   ·exact (hexU_chr _ _ hm).1 rfl
   ·cases hm
  ·rcases List.mem_cons.1 hx with rfl|hx
   ·exact (hexI_chr _ _ hm).1 rfl
   ·exact ih x hx hm
theorem fid_inj {n m:PLine} (hn: -1≤n.fn) (hm: -1≤m.fn) (h:fid n=fid m):n.fn=m.fn:=by
 unfold fid at h
 split at h<;>split at h
 ·have:=hexU_inj h
  omega
 ·exact absurd h (hexU_ne _)
 ·exact absurd h.symm (hexU_ne _)
 ·omega
theorem lnTx_inj:∀{a b:List PLine},(∀n∈a, -1≤n.fn)→(∀n∈b, -1≤n.fn)→lnTx a=lnTx b→a=b
 |[],[],_,_,_=>rfl
 |[],_::_,_,_,h=>by cases h
 |_::_,[],_,_,h=>by cases h
 |n::r,m::s,hn,hm,h=>by
    simp only[lnTx,List.cons.injEq]at h
    have h1:=fid_inj (hn n (List.mem_cons_self ..)) (hm m (List.mem_cons_self ..)) h.1
    have h2:=hexI_inj h.2.1
    have h3:=lnTx_inj (fun x hx=>hn x (List.mem_cons_of_mem _ hx)) (fun x hx=>hm x (List.mem_cons_of_mem _ hx)) h.2.2
    cases n;cases m
    simp at h1 h2
    rw[h1,h2,h3]
abbrev LcK:=Int×Int×ByteArray×Bool
def keyL (z:PProf) (l:PLoc):LcK:=(IntKind.u64.wrap (l.addr - ((atZ z.mappings l.mapping).map (·.start)).getD 0),mid l,txt (join (lnTx l.lines) [124]),false)
theorem join_nil_iff {xs:List (List UInt8)} (h:2≤xs.length):join xs [124]≠[]:=by
 match xs,h with
 |x::y::r,_=>rw[join_cons];simp[joinTail]
theorem keyL_inj {l m:PLoc} (h1: -1≤l.mapping) (h2: -1≤m.mapping) (n1:∀n∈l.lines, -1≤n.fn) (n2:∀n∈m.lines, -1≤n.fn) (h:keyL z l=keyL z m):plK z l=plK z m:=by
 simp only[keyL,Prod.mk.injEq,and_true]at h
 obtain ⟨e1,e2,e3⟩:=h
 have e4:l.mapping=m.mapping:=by
  unfold mid at e2
  split at e2<;>split at e2<;>omega
 have e5:=txt_inj e3
 have e6:l.lines=m.lines:=by
  refine lnTx_inj n1 n2 (join_inj lnTx_bar lnTx_bar ?_ e5)
  rw[lnTx_len,lnTx_len]
  constructor
  ·intro h0
   have h0:l.lines=[]:=List.eq_nil_of_length_eq_zero (by omega)
   rw[h0]at e5
   by_cases hm:m.lines.length=0
   ·omega
   ·exact absurd e5.symm (join_nil_iff (by rw[lnTx_len];omega))
  ·intro h0
   have h0:m.lines=[]:=List.eq_nil_of_length_eq_zero (by omega)
   rw[h0]at e5
   by_cases hm:l.lines.length=0
   ·omega
   ·exact absurd e5 (join_nil_iff (by rw[lnTx_len];omega))
 unfold plK
 rw[e6]
 rw[e4]at e1⊢
 rw[e1]
abbrev SmpK:=ByteArray×ByteArray×ByteArray
def pT (t:PTexts):ByteArray×List ByteArray:=(t.key,t.list)
def pN (t:PNums):ByteArray×List Int:=(t.key,t.list)
structure SKey (s:PSample) (k:SmpK):Prop where
 l:k.1=txt (join (s.stack.map fun j=>hexU (j.toNat+1)) [124])
 t:∃ts:List (ByteArray×List ByteArray),ts.Perm (s.texts.map pT)∧k.2.1=txt (ts.flatMap (tokT Tg))
 n:∃ns:List (ByteArray×List Int),ns.Perm (s.nums.map pN)∧k.2.2=txt (ns.flatMap (tokN Tg))
theorem ltB_anti {a b:ByteArray} (h1:ltB a b=true) (h2:ltB b a=true):False:=by
 unfold ltB at h1 h2
 rw[Go.Proofs.bytesLess_eq]at h1 h2
 simp only[decide_eq_true_eq]at h1 h2
 exact absurd (List.lt_trans h1 h2) (List.lt_irrefl _)
theorem asc_perm {α:Type} {a b:List (ByteArray×α)} (ha:a.Pairwise fun x y=>ltB x.1 y.1=true) (hb:b.Pairwise fun x y=>ltB x.1 y.1=true) (h:a.Perm b):a=b:=
 List.Perm.eq_of_pairwise (le:=fun x y=>ltB x.1 y.1=true) (fun _ _ _ _ h1 h2=>(ltB_anti h1 h2).elim) ha hb h
theorem SKey.inj {u:PSample} {k:SmpK} (hs:∀j∈s.stack,0≤j) (hu:∀j∈u.stack,0≤j) (t1:s.texts.Pairwise fun x y=>ltB x.key y.key=true) (t2:u.texts.Pairwise fun x y=>ltB x.key y.key=true) (n1:s.nums.Pairwise fun x y=>ltB x.key y.key=true) (n2:u.nums.Pairwise fun x y=>ltB x.key y.key=true)
  (h:SKey s k) (h':SKey u k):s.stack=u.stack∧s.texts=u.texts∧s.nums=u.nums:=by
 refine ⟨?_,?_,?_⟩
 ·have e:=txt_inj (h.l.symm.trans h'.l)
  have bar:∀(l:List Int),∀x∈l.map fun j=>hexU (j.toNat+1),(124:UInt8)∉x:=fun l x hx hm=>by
   obtain ⟨j, -,rfl⟩:=List.mem_map.1 hx
   exact (hexU_chr _ _ hm).1 rfl
  have ne:∀(l:List Int),l.length≠0→join (l.map fun j=>hexU (j.toNat+1)) [124]≠[]:=fun l hl=>by
   cases l with
   |nil=>exact absurd rfl hl
   |cons j r=>rw[List.map_cons,join_cons];simp[hexU_ne]
  have e2:s.stack.map (fun j=>hexU (j.toNat+1))=u.stack.map fun j=>hexU (j.toNat+1):=by
   refine join_inj (bar _) (bar _) ?_ e
   rw[List.length_map,List.length_map]
   constructor
   ·intro h0
    by_cases hm:u.stack.length=0
    ·exact hm
    ·rw[List.eq_nil_of_length_eq_zero h0]at e
     exact absurd e.symm (ne _ hm)
   ·intro h0
    by_cases hm:s.stack.length=0
    ·exact hm
    ·rw[List.eq_nil_of_length_eq_zero h0]at e
     exact absurd e (ne _ hm)
  have key:∀(a b:List Int),(∀j∈a,0≤j)→(∀j∈b,0≤j)→a.map (fun j=>hexU (j.toNat+1))=b.map (fun j=>hexU (j.toNat+1))→a=b:=by
   intro a
   induction a with
   |nil=>intro b _ _ h;cases b with|nil=>rfl|cons _ _=>cases h
   |cons x r ih=>
    intro b ha hb h
    cases b with
    |nil=>cases h
    |cons y t=>
     simp only[List.map_cons,List.cons.injEq]at h
     have h1:=hexU_inj h.1
     have h2:=ha x (List.mem_cons_self ..)
     have h3:=hb y (List.mem_cons_self ..)
     rw[ih t (fun j hj=>ha j (List.mem_cons_of_mem _ hj)) (fun j hj=>hb j (List.mem_cons_of_mem _ hj)) h.2,show x=y by omega]
  exact key _ _ hs hu e2
 ·obtain ⟨ts,p1,e1⟩:=h.t
  obtain ⟨us,p2,e2⟩:=h'.t
  have e:=flat_inj (tokT_inj Tg) (tokT_ne Tg) (txt_inj (e1.symm.trans e2))
  subst e
  have e3:=asc_perm (List.pairwise_map.2 t1) (List.pairwise_map.2 t2) (p1.symm.trans p2)
  exact List.map_inj_right (f:=pT) (fun a b h=>by cases a;cases b;simpa[pT]using h)|>.1 e3
 ·obtain ⟨ts,p1,e1⟩:=h.n
  obtain ⟨us,p2,e2⟩:=h'.n
  have e:=flat_inj (tokN_inj Tg) (tokN_ne Tg) (txt_inj (e1.symm.trans e2))
  subst e
  have e3:=asc_perm (List.pairwise_map.2 n1) (List.pairwise_map.2 n2) (p1.symm.trans p2)
  exact List.map_inj_right (f:=pN) (fun a b h=>by cases a;cases b;simpa[pN]using h)|>.1 e3
theorem SKey.smK {u:PSample} (h1:s.stack=u.stack) (h2:s.texts=u.texts) (h3:s.nums=u.nums):Go.Fw.smK z s=Go.Fw.smK z u:=by unfold Go.Fw.smK;rw[h1,h2,h3]
def b8v (c:UInt8):Value:=.int .u8 ((c.toNat:Nat):Int)
def arr65 (ds:List UInt8):List Value:=List.replicate (65 - ds.length) (.int .u8 0)++ds.map b8v
theorem arr65_len {ds:List UInt8} (h:ds.length≤65):(arr65 ds).length=65:=by simp[arr65];omega
theorem setL_app (A:List Value) {u:Value} {r:List Value}:setL (A++u::r) A.length [v]=A++v::r:=by
 show (A++u::r).set A.length v=_
 rw[List.set_append_right _ _ (Nat.le_refl _)];simp
theorem setL_mid {z:Value} {t:List Value} (m:Nat):setL (List.replicate (m+1) z++t) m [v]=List.replicate m z++v::t:=by
 have:=setL_app (List.replicate m z) (u:=z) (v:=v) (r:=t)
 rw[List.length_replicate]at this
 rw[List.replicate_succ',List.append_assoc];exact this
theorem arr65_cons {ds:List UInt8} {c:UInt8} (h:ds.length<65):setL (arr65 ds) (65 - ds.length - 1) [b8v c]=arr65 (c::ds):=by
 have:=setL_mid (z:=.int .u8 0) (v:=b8v c) (t:=ds.map b8v) (65 - ds.length - 1)
 rw[show 65 - ds.length - 1+1=65 - ds.length by omega]at this
 unfold arr65
 rw[this,List.length_cons,show 65 - (ds.length+1)=65 - ds.length - 1 by omega];rfl
theorem arr65_at {ds:List UInt8} {j:Nat} {c:UInt8} (h:ds.length≤65) (hn:n=65 - ds.length) (hj:ds[j]? =some c):(arr65 ds)[n+j]? =some (b8v c):=by
 unfold arr65
 rw[List.getElem?_append_right (by simp;omega),List.length_replicate,show n+j - (65 - ds.length)=j by omega,List.getElem?_map,hj];rfl
theorem hex_small {u:Nat} (h:u<16^(16 - k)):u<18446744073709551616:=Nat.lt_of_lt_of_le h (Nat.le_trans (Nat.pow_le_pow_right (by decide) (show 16 - k≤16 by omega)) (by decide))
theorem hex_room {u:Nat} (h:16≤u) (hu:u<16^(16 - k)) (hk:k≤15):k<15:=by
 by_cases e:k=15
 ·subst e;simp at hu;omega
 ·omega
theorem hex_div {u:Nat} {ds:List UInt8} {c:UInt8} (hk:ds.length<15) (hu:u<16^(16 - ds.length)):u/16<16^(16 - (c::ds).length):=by
 rw[show 16 - ds.length=(16 - (c::ds).length)+1 by simp;omega,Nat.pow_succ]at hu
 exact Nat.div_lt_of_lt_mul (by rw[Nat.mul_comm];exact hu)
theorem and15 {u:Nat} (h:u<18446744073709551616):IntKind.u64.wrap (((BitVec.ofInt 64 ((u:Nat):Int)&&&BitVec.ofInt 64 ((15:Nat):Int)).toNat:Nat):Int)=((u%16:Nat):Int):=by
 have h1:(BitVec.ofInt 64 ((u:Nat):Int)).toNat=u:=by
  rw[BitVec.ofInt_natCast,BitVec.toNat_ofNat];exact Nat.mod_eq_of_lt h
 have h2:(BitVec.ofInt 64 ((15:Nat):Int)).toNat=15:=by decide
 rw[BitVec.toNat_and,h1,h2,show (15:Nat)=2^4 - 1 by decide,Nat.and_two_pow_sub_one_eq_mod]
 simp only[IntKind.wrap,IntKind.bits,IntKind.signed]
 simp;omega
theorem shr4 {u:Nat}:((u:Nat):Int).fdiv (2^(min 4 64))=((u/16:Nat):Int):=by
 rw[show ((2:Int)^(min 4 64))=((16:Nat):Int) by decide,Int.fdiv_eq_ediv_of_nonneg _ (by decide)];rfl
theorem dig_at:∀{u:Nat},u<16→(⟨#[48,49,50,51,52,53,54,55,56,57,97,98,99,100,101,102,103,104,105,106,107,108,109,110,111,112,113,114,115,116,117,118,119,120,121,122]⟩:ByteArray)[u]? =some (hexD u):=by
 have:∀u:Fin 16,(⟨#[48,49,50,51,52,53,54,55,56,57,97,98,99,100,101,102,103,104,105,106,107,108,109,110,111,112,113,114,115,116,117,118,119,120,121,122]⟩:ByteArray)[u.val]? =some (hexD u.val):=by decide
 intro u h
 exact this ⟨u,h⟩
theorem hex_ix2 (h:k≤15):IntKind.i64.wrap (((65 - k - 1:Nat):Int) - 1)=((65 - k - 2:Nat):Int):=by
 simp only[IntKind.wrap,IntKind.bits,IntKind.signed]
 simp;omega
section
variable {P:Program} {n:Nat} {e:Env} {d ty:Nat} {pos:String} {af:Array Edge}
theorem r_aidx {y:Operand} (hu:∀w,(underlying t).run P w=.ok (.array m elem) w) (hsz:∀w,(sizeOf elem).run P w=.ok sz w)
  (hx:ev e x=some (.pointer (some ⟨b,o,none⟩))) (hy:ev e y=some (.int kd ((i:Nat):Int))) (hi:i<m) (ha:Sat n e a):
  (execOp a.eval ⟨some d,.indexAddr t x y,ty,pos,af,none⟩).run P w=.ok (.value (.pointer (some ⟨b,o+i*sz,none⟩))) w:=by
 have hadd:Addr.add ⟨b,o,none⟩ (i*sz)=⟨b,o+i*sz,none⟩:=by
  unfold Addr.add
  split
  ·rename_i h;rw[h];rfl
  ·rfl
 simp only[execOp,ha.ev hx,ha.ev hy]
 simp[Instr.indexAt,Instr.sureAddr,asIntOf,hu,hsz,hi,hadd]
theorem r_sarrlo {y:Operand} (hu:∀w,(underlying t).run P w=.ok (.array m elem) w) (hsz:∀w,(sizeOf elem).run P w=.ok sz w)
  (hx:ev e x=some (.pointer (some ⟨b,o,none⟩))) (hy:ev e y=some (.int kd ((i:Nat):Int))) (hi:i<m) (ha:Sat n e a):
  (execOp a.eval ⟨some d,.slice t x (some y) none none,ty,pos,af,none⟩).run P w=.ok (.value (.slice (some ⟨b,o+i*sz,none⟩) (m - i) (m - i))) w:=by
 have hadd:Addr.add ⟨b,o,none⟩ (i*sz)=⟨b,o+i*sz,none⟩:=by
  unfold Addr.add
  split
  ·rename_i h;rw[h];rfl
  ·rfl
 have hne:¬m=i:=by omega
 have hle:i≤m:=by omega
 simp only[execOp,ha.ev hx,Option.map_none,Option.map_some,ha.ev hy]
 simp[Instr.sliceAt,Instr.sliceBounds,Instr.sliceBound,asIntOf,Instr.sureAddr,hu,hsz,hle,hne,hadd]
theorem r_neg {p:Int} (hx:ev e x=some (.int kd p)) (ha:Sat n e a):
  (execOp a.eval ⟨some d,.unOp .neg t x,ty,pos,af,none⟩).run P w=.ok (.value (.int kd (kd.wrap (-p)))) w:=by
 simp only[execOp,ha.ev hx];simp[Op.unary,Op.intArith]
theorem push_all8:∀(l:List UInt8) (acc:ByteArray),(l.map fun c:UInt8=>((c.toNat:Nat):Int)).foldl (fun r n=>r.push (UInt8.ofNat n.toNat)) acc=⟨acc.data++l.toArray⟩
 |[],acc=>by simp
 |c::r,acc=>by
    rw[List.map_cons,List.foldl_cons,push_all8 r]
    have:(acc.push (UInt8.ofNat ((c.toNat:Nat):Int).toNat)).data=acc.data.push c:=by
     simp[ByteArray.push]
    rw[this];simp
theorem r_b2t {t1 t2 el:Nat} {c l:Nat} {ls:List UInt8} (h1:P.underlying t1=some (.slice el)) (h2:P.underlying el=some (.int .u8)) (h3:P.underlying t2=some .string) (hx:ev e x=some (.slice (some ⟨b,o,none⟩) l c)) (hl:l=ls.length)
  (hc:∀(j:Nat) k,ls[j]? =some k→w.cell? ⟨b,o+j,none⟩=some (b8v k)) (ha:Sat n e a):
  (execOp a.eval ⟨some d,.convert t1 t2 x,ty,pos,af,none⟩).run P w=.ok (.value (.string (txt ls))) w:=by
 have hlc:=run_loadCells (P:=P) (b:=b) w (ls.map b8v) o fun j u hu=>by
  rw[List.getElem?_map]at hu
  obtain ⟨k,h4,h5⟩:=Option.map_eq_some_iff.1 hu
  rw[← h5];exact hc j k h4
 have e1:ls.map b8v=(ls.map fun c:UInt8=>((c.toNat:Nat):Int)).map (Value.int .u8):=by simp[b8v]
 rw[List.length_map]at hlc
 rw[e1]at hlc
 have h5:=run_bytesToString (P:=P) w ⟨b,o,none⟩ ls.length c _ hlc
 rw[push_all8]at h5
 have e2:(⟨ByteArray.empty.data++ls.toArray⟩:ByteArray)=txt ls:=by
  simp[ByteArray.empty,ByteArray.emptyWithCapacity,txt];rfl
 rw[e2]at h5
 subst hl
 simp only[execOp,ha.ev hx]
 simp[run_convert_bytes_string w t1 t2 el _ _ _ h1 h2 h3,h5]
end
end Go.Fw
namespace Go.Proofs.YtffghbkcomlefaaGreatDoor
open Go Go.Fw Go.Proofs Go.Proofs.Tryz
variable {w w':World}
abbrev tA65:Nat:=241
theorem zero65 (w:World):(zeroValue tA65).run Tryz.prog w=.ok (.agg (List.toArray (arr65 []))) w:=(zv241 w).trans (by kernel_rfl)
def Db (w:World):Prop:=w.cell? ⟨10,15,none⟩=some (.int .u8 ((4:Nat):Int))
theorem Db.keep (h:Db w) (k:Keep w w'):Db w':=Keep.cell k h
theorem isPow_c (w:World):Calls Tryz.prog 134 #[.int .i64 ((16:Nat):Int)] w (Ret fun v w'=>v=.bool true∧Fr 0 [] w w'):=by
 refine startJ (args:=[_]) [(0,_)] 0 [] [] Tryz.func134 rfl Tryz.ntmps134 rfl rfl .nil ?_
 refine sQ fun K1=>cj_reg (jA (k:=K1 (sQ fun K2=>cj_reg (jM (k:=jM (k:=?_))))))
 refine j_val rfl (fun _ _ h=>r_sub rfl rfl h) (j_val rfl (fun _ _ h=>r_and rfl rfl h) (jQ (k:=?_)))
 refine j_eqv (u:=.bool true) (by kernel_rfl) ?_
 refine jA (k:=K2 (cj_ret ?_))
 exact ej_ret1 Tryz.results134 rfl fun w' hH hf=>⟨rfl,hf⟩
theorem tz16b_c (w:World) (h:Db w):Calls Tryz.prog 153 #[.int .u64 ((16:Nat):Int)] w (Ret fun v w'=>v=.int .i64 ((4:Nat):Int)∧Fr 0 [] w w'):=by
 refine startJ (args:=[_]) [(0,_)] 0 [] [] Tryz.func153 rfl Tryz.ntmps153 rfl rfl .nil ?_
 refine sQ fun K1=>cj_reg (jA (k:=K1 (sQ fun K2=>sQ fun K3=>cj_reg (jM (k:=jQ (k:=?_))))))
 refine j_eqv (u:=.bool false) (by kernel_rfl) ?_
 refine K3 (cj_if_f rfl (cj_skip (K2 (sQ fun K4=>cj_reg (jM (k:=jM (k:=?_)))))))
 refine j_val rfl (fun _ _ h=>r_neg rfl h) (j_val rfl (fun _ _ h=>r_and rfl rfl h) ?_)
 refine j_eqv (u:=.int .u64 ((16:Nat):Int)) (by kernel_rfl) ?_
 refine j_val rfl (fun _ _ h=>r_mul rfl rfl h) ?_
 refine j_val (v:=.int .u64 ((15:Nat):Int)) rfl (fun a w ha=>(r_shr (q:=58) rfl rfl ha).trans (by kernel_rfl)) ?_
 refine j_val rfl (fun _ _ h=>r_aidx (sz:=1) ru269 so5 rfl rfl (by omega) h) (j_valw rfl (fun a w' ha hH hf=>r_load ag5 rfl (Keep.cell (Fr.keepAll hf (.inr rfl)) h) ha) (j_val rfl (fun _ _ h=>r_conv ru5 ru3 rfl h) ?_))
 refine j_eqv (u:=.int .i64 ((4:Nat):Int)) rfl ?_
 refine jA (k:=K4 (CJ.t [(2,_)] (k:=cj_ret ?_)))
 exact ej_ret1 Tryz.results153 rfl fun w' hH hf=>⟨rfl,hf⟩
theorem tz16_c (w:World) (h:Db w):Calls Tryz.prog 135 #[.int .u64 ((16:Nat):Int)] w (Ret fun v w'=>v=.int .i64 ((4:Nat):Int)∧Fr 0 [] w w'):=by
 refine startJ (args:=[_]) [(0,_)] 0 [] [] Tryz.func135 rfl Tryz.ntmps135 rfl rfl .nil ?_
 refine sQ fun K1=>cj_reg (jA (k:=K1 (sQ fun K2=>?_)))
 refine cj_if_f rfl (cj_skip (K2 (sQ fun K3=>cj_reg (jM (k:=?_)))))
 refine j_callQ (φ:=fun v=>v=.int .i64 ((4:Nat):Int)) Tryz.call153 rfl rfl (fun w' hH hf=>tz16b_c w' (h.keep (Fr.keepAll hf (.inr rfl)))) fun v hv=>?_
 subst hv
 refine jA (k:=K3 (cj_ret ?_))
 exact ej_ret1 Tryz.results135 rfl fun w' hH hf=>⟨rfl,hf⟩
set_option maxHeartbeats 1000000 in
theorem fmtPos_c (w:World) (m:Nat) (hm:m<18446744073709551616) (hL:Db w):
  Calls Tryz.prog 113 #[.slice none 0 0,.int .u64 (m:Nat),.int .i64 16,.bool false,.bool false] w (Ret fun v w'=>v=.tuple #[.slice none 0 0,.string (txt (hexU m))]∧Fr 0 [] w w'):=by
 refine startJ (args:=[_,_,_,_,_]) [(0,_),(1,_),(2,.int .i64 ((16:Nat):Int)),(3,_),(4,_)] 0 [] [] Tryz.func113 rfl Tryz.ntmps113 rfl rfl .nil ?_
 refine sQ fun K1=>cj_reg (jA (k:=jA (k:=K1 (sQ fun K2=>sQ fun K3=>cj_reg (jM (k:=jS (k:=jM (k:=?_))))))))
 refine j_gt rfl rfl (jM (k:=?_))
 refine j_gt rfl rfl (jQ (k:=jK (k:=jM (k:=?_))))
 refine j_gt rfl rfl (jM (k:=?_))
 refine j_gt rfl rfl (jG (k:=jK (k:=K3 (CJ.t [(0,_),(1,_),(2,_),(3,_),(4,_),(10,_),(11,_),(28,_)] (k:=?_)))))
 refine cj_if_f rfl (cj_skip (K2 (sQ fun K4=>cj_reg (j_allocA (zs:=arr65 []) zero65 rfl fun b12=>K4 (sQ fun K5=>cj_reg (jA (k:=K5 (sQ fun K6=>sQ fun K7=>cj_reg (jM (k:=?_))))))))))
 refine K7 (cj_if_f rfl (cj_skip (K6 (sQ fun K8=>sQ fun K9=>cj_reg (jM (k:=?_))))))
 refine j_callQ (φ:=fun v=>v=.bool true) Tryz.call134 rfl rfl (fun w' hH hf=>isPow_c w') fun v hv=>?_
 subst hv
 refine K9 (cj_if_t rfl (sQ fun K10=>cj_reg (jM (k:=?_))))
 refine j_val rfl (fun _ _ h=>r_conv ru3 ru182 rfl h) ?_
 refine j_callQ (φ:=fun v=>v=.int .i64 ((4:Nat):Int)) Tryz.call135 rfl rfl (fun w' hH hf=>tz16_c w' (hL.keep (Fr.keepAll hf (.inr rfl)))) fun v hv=>?_
 subst hv
 refine j_val rfl (fun _ _ h=>r_conv ru3 ru182 rfl h) ?_
 refine j_eqv (u:=.int .u64 ((4:Nat):Int)) rfl ?_
 refine jA (k:=K10 (CJ.t [(0,_),(1,_),(2,_),(3,_),(4,_),(10,_),(11,_),(12,_),(13,_),(14,_)] (k:=sQ fun K11=>cj_reg (jM (k:=?_)))))
 refine j_val rfl (fun _ _ h=>r_conv ru3 ru76 rfl h) ?_
 refine j_eqv (u:=.int .u64 ((16:Nat):Int)) rfl ?_
 refine jA (k:=K11 (sQ fun K12=>cj_reg (jM (k:=?_))))
 refine j_val rfl (fun _ _ h=>r_conv ru3 ru182 rfl h) (j_val rfl (fun _ _ h=>r_sub rfl rfl h) ?_)
 refine j_eqv (u:=.int .u64 ((15:Nat):Int)) rfl ?_
 refine jA (k:=K12 (sQ fun K13=>cj_block ?_))
 refine cj_loop (σ:=Nat×List UInt8) (fun s=>[(0,.slice none 0 0),(1,.int .u64 (s.1:Nat)),(3,.bool false),(4,.bool false),(10,.slice none 0 0),(11,.string ⟨#[]⟩),(12,ptr b12),(13,.int .i64 ((65 - s.2.length:Nat):Int)),(14,.int .u64 ((4:Nat):Int)),(15,.int .u64 ((16:Nat):Int)),(16,.int .u64 ((15:Nat):Int))])
  (fun s=>[⟨b12,tA65,arr65 s.2,true,true,none⟩])
  (fun s _=>s.1<16^(16 - s.2.length)∧s.2.length≤15∧hexU m=hexU s.1++s.2) (fun s=>s.1)
  (m,[]) sR (fun w' hH hf=>⟨hH,by simpa using hm,Nat.zero_le _,by simp⟩) ?_
 rintro ⟨u1,ds⟩ w1 ⟨hu1,hd1,he1⟩ hf1 hH1 KL hKL
 try dsimp only at hu1 hd1 he1
 refine C.begin _ _ hf1 hH1 ?_
 try dsimp only
 have hix:IntKind.i64.wrap (((65 - ds.length:Nat):Int) - 1)=((65 - ds.length - 1:Nat):Int):=by
  simp only[IntKind.wrap,IntKind.bits,IntKind.signed]
  simp;omega
 refine sQ fun K14=>sQ fun K15=>cj_reg (jM (k:=jM (k:=?_)))
 refine j_val rfl (fun _ _ h=>r_geq rfl rfl h) (K15 ?_)
 refine cj_dec rfl (fun h46=>?_) (fun h46=>?_)
 ·have h16:16≤u1:=by omega
  have hlt:ds.length<15:=hex_room h16 hu1 hd1
  have hul:u1<18446744073709551616:=hex_small hu1
  refine cj_skip (K14 (cj_block (sQ fun K16=>cj_reg (jM (k:=?_)))))
  refine j_val rfl (fun _ _ h=>r_sub rfl rfl h) ?_
  refine j_eqv (u:=.int .i64 ((65 - ds.length - 1:Nat):Int)) (by rw[hix]) ?_
  refine jA (k:=K16 (sQ fun K17=>cj_reg (jM (k:=jM (k:=jM (k:=?_))))))
  refine j_val rfl (fun _ _ h=>r_and rfl rfl h) ?_
  refine j_eqv (u:=.int .u64 ((u1%16:Nat):Int)) (congrArg (Value.int IntKind.u64) (and15 hul)) ?_
  refine j_val rfl (fun _ _ h=>r_sidx ru9 rfl rfl (dig_at (Nat.mod_lt _ (by decide))) h) (j_val rfl (fun _ _ h=>r_aidx (sz:=1) ru241 so5 rfl rfl (by omega) h) ?_)
  refine j_storeN (cs':=arr65 (hexD (u1%16)::ds)) (H':=_) (o:=0+(65 - ds.length - 1)*1) 0 rfl rfl rfl rfl so5 rfl rfl rfl rfl (Nat.ble_eq_true_of_le (by show 0+(65 - ds.length - 1)*1+1≤(arr65 ds).length;rw[arr65_len (by omega)];omega)) (by rw[Nat.zero_add,Nat.mul_one];exact arr65_cons (by omega)) rfl ?_
  refine K17 (CJ.t [(0,_),(1,_),(3,_),(4,_),(10,_),(11,_),(12,_),(13,_),(14,_),(15,_),(16,_)] (k:=cj_reg (jM (k:=jM (k:=?_)))))
  refine j_val rfl (fun _ _ h=>r_shr rfl rfl h) ?_
  refine j_eqv (u:=.int .u64 ((u1/16:Nat):Int)) (congrArg (Value.int IntKind.u64) shr4) ?_
  refine jA (k:=j_nil (ej_blk (ej_then ?_)))
  exact fun w' hH hf=>hKL (u1/16,hexD (u1%16)::ds) _ w' ⟨hex_div hlt hu1,by show (hexD (u1%16)::ds).length≤15;simp;omega,by rw[he1,hexU,if_neg (by omega),List.append_assoc];rfl⟩ hf hH (by show u1/16<u1;omega) ⟨rfl,rfl,rfl,rfl,rfl,rfl,rfl,congrArg (fun q:Nat=>some (Value.int .i64 (q:Int))) (show 65 - ds.length - 1=65 - (hexD (u1%16)::ds).length by simp;omega),rfl,rfl,rfl,trivial⟩
 ·have h16:u1<16:=by omega
  have he:hexU m=hexD u1::ds:=by rw[he1,hexU,if_pos h16];rfl
  refine cj_exit (K13 (sQ fun K18=>cj_reg (jM (k:=?_))))
  refine j_val rfl (fun _ _ h=>r_sub rfl rfl h) ?_
  refine j_eqv (u:=.int .i64 ((65 - ds.length - 1:Nat):Int)) (by rw[hix]) ?_
  refine jA (k:=K18 (cj_reg (jM (k:=jM (k:=?_)))))
  refine j_val rfl (fun _ _ h=>r_sidx ru9 rfl rfl (dig_at h16) h) (j_val rfl (fun _ _ h=>r_aidx (sz:=1) ru241 so5 rfl rfl (by omega) h) ?_)
  refine j_storeN (cs':=arr65 (hexD u1::ds)) (H':=_) (o:=0+(65 - ds.length - 1)*1) 0 rfl rfl rfl rfl so5 rfl rfl rfl rfl (Nat.ble_eq_true_of_le (by show 0+(65 - ds.length - 1)*1+1≤(arr65 ds).length;rw[arr65_len (by omega)];omega)) (by rw[Nat.zero_add,Nat.mul_one];exact arr65_cons (by omega)) rfl ?_
  refine K8 (CJ.t [(0,_),(3,_),(4,_),(10,_),(11,_),(12,_),(13,_)] (k:=sQ fun K19=>sQ fun K20=>cj_reg (jM (k:=K20 ?_))))
  refine cj_if_f rfl (cj_skip (K19 (sQ fun K21=>sQ fun K22=>cj_reg (jM (k:=K22 ?_)))))
  refine cj_if_f rfl (cj_skip (K21 (sQ fun K23=>cj_reg (jM (k:=?_)))))
  refine j_val rfl (fun _ _ h=>r_sarrlo (sz:=1) ru241 so5 rfl rfl (by omega) h) ?_
  refine j_valw rfl (fun a w ha hH hf=>r_b2t (o:=0+(65 - ds.length - 1)*1) (l:=65 - (65 - ds.length - 1)) (c:=65 - (65 - ds.length - 1)) (ls:=hexD u1::ds) ud184 ud5 ud9 rfl (by simp;omega) (fun j c hj=>(hH.get (i:=0) rfl rfl).cell' (by rw[Nat.zero_add,Nat.mul_one];exact arr65_at (by simp;omega) (by simp;omega) hj)) ha) ?_
  refine jA (k:=K23 (cj_ret ?_))
  exact ej_ret2 Tryz.results113 rfl rfl fun w' hH hf=>⟨by rw[he],hf⟩
set_option maxHeartbeats 1000000 in
theorem fmtNeg_c (w:World) (u:Int) (m:Nat) (hm:m<18446744073709551616) (hu:IntKind.u64.wrap (-u)=(m:Nat)) (hL:Db w):
  Calls Tryz.prog 113 #[.slice none 0 0,.int .u64 u,.int .i64 16,.bool true,.bool false] w (Ret fun v w'=>v=.tuple #[.slice none 0 0,.string (txt (45::hexU m))]∧Fr 0 [] w w'):=by
 refine startJ (args:=[_,_,_,_,_]) [(0,_),(1,_),(2,.int .i64 ((16:Nat):Int)),(3,_),(4,_)] 0 [] [] Tryz.func113 rfl Tryz.ntmps113 rfl rfl .nil ?_
 refine sQ fun K1=>cj_reg (jA (k:=jA (k:=K1 (sQ fun K2=>sQ fun K3=>cj_reg (jM (k:=jS (k:=jM (k:=?_))))))))
 refine j_gt rfl rfl (jM (k:=?_))
 refine j_gt rfl rfl (jQ (k:=jK (k:=jM (k:=?_))))
 refine j_gt rfl rfl (jM (k:=?_))
 refine j_gt rfl rfl (jG (k:=jK (k:=K3 (CJ.t [(0,_),(1,_),(2,_),(3,_),(4,_),(10,_),(11,_),(28,_)] (k:=?_)))))
 refine cj_if_f rfl (cj_skip (K2 (sQ fun K4=>cj_reg (j_allocA (zs:=arr65 []) zero65 rfl fun b12=>K4 (sQ fun K5=>cj_reg (jA (k:=K5 (sQ fun K6=>sQ fun K7=>cj_reg (jM (k:=?_))))))))))
 refine K7 (cj_if_t rfl (cj_reg (jM (k:=?_))))
 refine j_val rfl (fun _ _ h=>r_neg rfl h) ?_
 refine j_eqv (u:=.int .u64 ((m:Nat):Int)) (by rw[hu]) ?_
 refine jA (k:=K6 (sQ fun K8=>sQ fun K9=>cj_reg (jM (k:=?_))))
 refine j_callQ (φ:=fun v=>v=.bool true) Tryz.call134 rfl rfl (fun w' hH hf=>isPow_c w') fun v hv=>?_
 subst hv
 refine K9 (CJ.t [(0,_),(1,_),(2,_),(3,_),(4,_),(10,_),(11,_),(12,_),(13,_),(34,_)] (k:=?_))
 refine cj_if_t rfl (sQ fun K10=>cj_reg (jM (k:=?_)))
 refine j_val rfl (fun _ _ h=>r_conv ru3 ru182 rfl h) ?_
 refine j_callQ (φ:=fun v=>v=.int .i64 ((4:Nat):Int)) Tryz.call135 rfl rfl (fun w' hH hf=>tz16_c w' (hL.keep (Fr.keepAll hf (.inr rfl)))) fun v hv=>?_
 subst hv
 refine j_val rfl (fun _ _ h=>r_conv ru3 ru182 rfl h) ?_
 refine j_eqv (u:=.int .u64 ((4:Nat):Int)) rfl ?_
 refine jA (k:=K10 (sQ fun K11=>cj_reg (jM (k:=?_))))
 refine j_val rfl (fun _ _ h=>r_conv ru3 ru76 rfl h) ?_
 refine j_eqv (u:=.int .u64 ((16:Nat):Int)) rfl ?_
 refine jA (k:=K11 (sQ fun K12=>cj_reg (jM (k:=?_))))
 refine j_val rfl (fun _ _ h=>r_conv ru3 ru182 rfl h) (j_val rfl (fun _ _ h=>r_sub rfl rfl h) ?_)
 refine j_eqv (u:=.int .u64 ((15:Nat):Int)) rfl ?_
 refine jA (k:=K12 (CJ.t [(0,_),(1,_),(3,_),(4,_),(10,_),(11,_),(12,_),(13,_),(14,_),(15,_),(16,_)] (k:=sQ fun K13=>cj_block ?_)))
 refine cj_loop (σ:=Nat×List UInt8) (fun s=>[(0,.slice none 0 0),(1,.int .u64 (s.1:Nat)),(3,.bool true),(4,.bool false),(10,.slice none 0 0),(11,.string ⟨#[]⟩),(12,ptr b12),(13,.int .i64 ((65 - s.2.length:Nat):Int)),(14,.int .u64 ((4:Nat):Int)),(15,.int .u64 ((16:Nat):Int)),(16,.int .u64 ((15:Nat):Int))])
  (fun s=>[⟨b12,tA65,arr65 s.2,true,true,none⟩])
  (fun s _=>s.1<16^(16 - s.2.length)∧s.2.length≤15∧hexU m=hexU s.1++s.2) (fun s=>s.1)
  (m,[]) sR (fun w' hH hf=>⟨hH,by simpa using hm,Nat.zero_le _,by simp⟩) ?_
 rintro ⟨u1,ds⟩ w1 ⟨hu1,hd1,he1⟩ hf1 hH1 KL hKL
 try dsimp only at hu1 hd1 he1
 refine C.begin _ _ hf1 hH1 ?_
 try dsimp only
 have hix:IntKind.i64.wrap (((65 - ds.length:Nat):Int) - 1)=((65 - ds.length - 1:Nat):Int):=by
  simp only[IntKind.wrap,IntKind.bits,IntKind.signed]
  simp;omega
 refine sQ fun K14=>sQ fun K15=>cj_reg (jM (k:=jM (k:=?_)))
 refine j_val rfl (fun _ _ h=>r_geq rfl rfl h) (K15 ?_)
 refine cj_dec rfl (fun h46=>?_) (fun h46=>?_)
 ·have h16:16≤u1:=by omega
  have hlt:ds.length<15:=hex_room h16 hu1 hd1
  have hul:u1<18446744073709551616:=hex_small hu1
  refine cj_skip (K14 (cj_block (sQ fun K16=>cj_reg (jM (k:=?_)))))
  refine j_val rfl (fun _ _ h=>r_sub rfl rfl h) ?_
  refine j_eqv (u:=.int .i64 ((65 - ds.length - 1:Nat):Int)) (by rw[hix]) ?_
  refine jA (k:=K16 (sQ fun K17=>cj_reg (jM (k:=jM (k:=jM (k:=?_))))))
  refine j_val rfl (fun _ _ h=>r_and rfl rfl h) ?_
  refine j_eqv (u:=.int .u64 ((u1%16:Nat):Int)) (congrArg (Value.int IntKind.u64) (and15 hul)) ?_
  refine j_val rfl (fun _ _ h=>r_sidx ru9 rfl rfl (dig_at (Nat.mod_lt _ (by decide))) h) (j_val rfl (fun _ _ h=>r_aidx (sz:=1) ru241 so5 rfl rfl (by omega) h) ?_)
  refine j_storeN (cs':=arr65 (hexD (u1%16)::ds)) (H':=_) (o:=0+(65 - ds.length - 1)*1) 0 rfl rfl rfl rfl so5 rfl rfl rfl rfl (Nat.ble_eq_true_of_le (by show 0+(65 - ds.length - 1)*1+1≤(arr65 ds).length;rw[arr65_len (by omega)];omega)) (by rw[Nat.zero_add,Nat.mul_one];exact arr65_cons (by omega)) rfl ?_
  refine K17 (CJ.t [(0,_),(1,_),(3,_),(4,_),(10,_),(11,_),(12,_),(13,_),(14,_),(15,_),(16,_)] (k:=cj_reg (jM (k:=jM (k:=?_)))))
  refine j_val rfl (fun _ _ h=>r_shr rfl rfl h) ?_
  refine j_eqv (u:=.int .u64 ((u1/16:Nat):Int)) (congrArg (Value.int IntKind.u64) shr4) ?_
  refine jA (k:=j_nil (ej_blk (ej_then ?_)))
  exact fun w' hH hf=>hKL (u1/16,hexD (u1%16)::ds) _ w' ⟨hex_div hlt hu1,by show (hexD (u1%16)::ds).length≤15;simp;omega,by rw[he1,hexU,if_neg (by omega),List.append_assoc];rfl⟩ hf hH (by show u1/16<u1;omega) ⟨rfl,rfl,rfl,rfl,rfl,rfl,rfl,congrArg (fun q:Nat=>some (Value.int .i64 (q:Int))) (show 65 - ds.length - 1=65 - (hexD (u1%16)::ds).length by simp;omega),rfl,rfl,rfl,trivial⟩
 ·have h16:u1<16:=by omega
  have he:hexU m=hexD u1::ds:=by rw[he1,hexU,if_pos h16];rfl
  refine cj_exit (K13 (sQ fun K18=>cj_reg (jM (k:=?_))))
  refine j_val rfl (fun _ _ h=>r_sub rfl rfl h) ?_
  refine j_eqv (u:=.int .i64 ((65 - ds.length - 1:Nat):Int)) (by rw[hix]) ?_
  refine jA (k:=K18 (cj_reg (jM (k:=jM (k:=?_)))))
  refine j_val rfl (fun _ _ h=>r_sidx ru9 rfl rfl (dig_at h16) h) (j_val rfl (fun _ _ h=>r_aidx (sz:=1) ru241 so5 rfl rfl (by omega) h) ?_)
  refine j_storeN (cs':=arr65 (hexD u1::ds)) (H':=_) (o:=0+(65 - ds.length - 1)*1) 0 rfl rfl rfl rfl so5 rfl rfl rfl rfl (Nat.ble_eq_true_of_le (by show 0+(65 - ds.length - 1)*1+1≤(arr65 ds).length;rw[arr65_len (by omega)];omega)) (by rw[Nat.zero_add,Nat.mul_one];exact arr65_cons (by omega)) rfl ?_
  refine K8 (CJ.t [(0,_),(3,_),(4,_),(10,_),(11,_),(12,_),(13,_)] (k:=sQ fun K19=>sQ fun K20=>cj_reg (jM (k:=K20 ?_))))
  refine cj_if_t rfl (sQ fun K21=>cj_reg (jM (k:=?_)))
  refine j_val rfl (fun _ _ h=>r_sub rfl rfl h) ?_
  refine j_eqv (u:=.int .i64 ((65 - ds.length - 2:Nat):Int)) (by rw[hex_ix2 hd1]) ?_
  refine jA (k:=K21 (cj_reg (jM (k:=?_))))
  refine j_val rfl (fun _ _ h=>r_aidx (sz:=1) ru241 so5 rfl rfl (by omega) h) ?_
  refine j_storeN (cs':=arr65 (45::hexD u1::ds)) (H':=_) (o:=0+(65 - ds.length - 2)*1) 0 rfl rfl rfl rfl so5 rfl rfl rfl rfl (Nat.ble_eq_true_of_le (by show 0+(65 - ds.length - 2)*1+1≤(arr65 (hexD u1::ds)).length;rw[arr65_len (by simp;omega)];omega)) (by rw[Nat.zero_add,Nat.mul_one,show 65 - ds.length - 2=65 - (hexD u1::ds).length - 1 by simp;omega];exact arr65_cons (c:=45) (show (hexD u1::ds).length<65 by simp;omega)) rfl ?_
  refine K19 (sQ fun K22=>sQ fun K23=>cj_reg (jM (k:=K23 ?_)))
  refine cj_if_f rfl (cj_skip (K22 (sQ fun K24=>cj_reg (jM (k:=?_)))))
  refine j_val rfl (fun _ _ h=>r_sarrlo (sz:=1) ru241 so5 rfl rfl (by omega) h) ?_
  refine j_valw rfl (fun a w ha hH hf=>r_b2t (o:=0+(65 - ds.length - 2)*1) (l:=65 - (65 - ds.length - 2)) (c:=65 - (65 - ds.length - 2)) (ls:=45::hexD u1::ds) ud184 ud5 ud9 rfl (by simp;omega) (fun j c hj=>(hH.get (i:=0) rfl rfl).cell' (by rw[Nat.zero_add,Nat.mul_one];exact arr65_at (by simp;omega) (by simp;omega) hj)) ha) ?_
  refine jA (k:=K24 (CJ.t [(10,_),(11,_)] (k:=cj_ret ?_)))
  exact ej_ret2 Tryz.results113 rfl rfl fun w' hH hf=>⟨by rw[he],hf⟩
theorem fbI_c (w:World) (z:Int) (h1: -9223372036854775808≤z) (h2:z<9223372036854775808) (hL:Db w):
  Calls Tryz.prog 113 #[.slice none 0 0,.int .u64 (IntKind.u64.wrap z),.int .i64 ((16:Nat):Int),.bool (decide (z<0)),.bool false] w (Ret fun v w'=>v=.tuple #[.slice none 0 0,.string (txt (hexI z))]∧Fr 0 [] w w'):=by
 by_cases hz:z<0
 ·have:=fmtNeg_c w (IntKind.u64.wrap z) (-z).toNat (by omega) (by simp only[IntKind.wrap,IntKind.bits,IntKind.signed];first|omega|(simp;omega)) hL
  rw[decide_eq_true hz,hexI,if_pos hz]
  exact this
 ·have:=fmtPos_c w z.toNat (by omega) hL
  rw[decide_eq_false hz,hexI,if_neg hz,show IntKind.u64.wrap z=((z.toNat:Nat):Int) by simp only[IntKind.wrap,IntKind.bits,IntKind.signed];first|omega|(simp;omega)]
  exact this
theorem fu16i_c (w:World) (m:Nat) (hm:m<18446744073709551616) (hL:Db w):Calls Tryz.prog 80 #[.int .u64 (m:Nat),.int .i64 ((16:Nat):Int)] w (Ret fun v w'=>v=.string (txt (hexU m))∧Fr 0 [] w w'):=by
 refine startJ (args:=[_,_]) [(0,_),(1,_)] 0 [] [] Tryz.func80 rfl Tryz.ntmps80 rfl rfl .nil ?_
 refine sQ fun K1=>cj_reg (jA (k:=K1 (sQ fun K2=>sQ fun K3=>cj_reg (jM (k:=jQ (k:=?_))))))
 refine j_eqv (u:=.bool false) (by kernel_rfl) ?_
 refine K3 (cj_if_f rfl (cj_skip (K2 (sQ fun K4=>cj_reg (jM (k:=jM (k:=?_)))))))
 refine j_callQ (φ:=fun v=>v=.tuple #[.slice none 0 0,.string (txt (hexU m))]) Tryz.call113 rfl rfl (fun w' hH hf=>fmtPos_c w' m hm (hL.keep (Fr.keepAll hf (.inr rfl)))) fun v hv=>?_
 subst hv
 refine jM (k:=jX (k:=jX (k:=jA (k:=jA (k:=K4 (CJ.t [(8,_)] (k:=sQ fun K5=>cj_reg (jM (k:=jA (k:=K5 (cj_ret ?_)))))))))))
 exact ej_ret1 Tryz.results80 rfl fun w' hH hf=>⟨rfl,hf⟩
theorem fu16_c (w:World) (m:Nat) (hm:m<18446744073709551616) (hL:Db w):Calls Tryz.prog 62 #[.int .u64 (m:Nat),.int .i64 ((16:Nat):Int)] w (Ret fun v w'=>v=.string (txt (hexU m))∧Fr 0 [] w w'):=by
 refine startJ (args:=[_,_]) [(0,_),(1,_)] 0 [] [] Tryz.func62 rfl Tryz.ntmps62 rfl rfl .nil ?_
 refine sQ fun K1=>cj_reg (jA (k:=K1 (sQ fun K2=>cj_reg (jM (k:=jM (k:=?_))))))
 refine j_callQ (φ:=fun v=>v=.string (txt (hexU m))) Tryz.call80 rfl rfl (fun w' hH hf=>fu16i_c w' m hm (hL.keep (Fr.keepAll hf (.inr rfl)))) fun v hv=>?_
 subst hv
 refine jA (k:=K2 (cj_ret ?_))
 exact ej_ret1 Tryz.results62 rfl fun w' hH hf=>⟨rfl,hf⟩
theorem fi16i_c (w:World) (z:Int) (hz:IntKind.i64.wrap z=z) (hL:Db w):Calls Tryz.prog 115 #[.int .i64 z,.int .i64 ((16:Nat):Int)] w (Ret fun v w'=>v=.string (txt (hexI z))∧Fr 0 [] w w'):=by
 have hr: -9223372036854775808≤z∧z<9223372036854775808:=by
  simp only[IntKind.wrap,IntKind.bits,IntKind.signed]at hz
  simp at hz;omega
 refine startJ (args:=[_,_]) [(0,_),(1,_)] 0 [] [] Tryz.func115 rfl Tryz.ntmps115 rfl rfl .nil ?_
 refine sQ fun K1=>cj_reg (jA (k:=K1 (sQ fun K2=>sQ fun K3=>cj_reg (jM (k:=jQ (k:=?_))))))
 refine j_eqv (u:=.bool false) (by kernel_rfl) ?_
 refine K3 (cj_if_f rfl (cj_skip (K2 (sQ fun K4=>cj_reg (jM (k:=?_))))))
 refine j_val rfl (fun _ _ h=>r_conv ru2 ru76 rfl h) (jM (k:=jM (k:=jS (k:=?_))))
 refine j_callQ (φ:=fun v=>v=.tuple #[.slice none 0 0,.string (txt (hexI z))]) Tryz.call113 rfl rfl (fun w' hH hf=>fbI_c w' z hr.1 hr.2 (hL.keep (Fr.keepAll hf (.inr rfl)))) fun v hv=>?_
 subst hv
 refine jM (k:=jX (k:=jX (k:=jA (k:=jA (k:=K4 (CJ.t [(9,_)] (k:=sQ fun K5=>cj_reg (jM (k:=jA (k:=K5 (cj_ret ?_)))))))))))
 exact ej_ret1 Tryz.results115 rfl fun w' hH hf=>⟨rfl,hf⟩
theorem fi16_c (w:World) (z:Int) (hz:IntKind.i64.wrap z=z) (hL:Db w):Calls Tryz.prog 85 #[.int .i64 z,.int .i64 ((16:Nat):Int)] w (Ret fun v w'=>v=.string (txt (hexI z))∧Fr 0 [] w w'):=by
 refine startJ (args:=[_,_]) [(0,_),(1,_)] 0 [] [] Tryz.func85 rfl Tryz.ntmps85 rfl rfl .nil ?_
 refine sQ fun K1=>cj_reg (jA (k:=K1 (sQ fun K2=>cj_reg (jM (k:=jM (k:=?_))))))
 refine j_callQ (φ:=fun v=>v=.string (txt (hexI z))) Tryz.call115 rfl rfl (fun w' hH hf=>fi16i_c w' z hz (hL.keep (Fr.keepAll hf (.inr rfl)))) fun v hv=>?_
 subst hv
 refine jA (k:=K2 (cj_ret ?_))
 exact ej_ret1 Tryz.results85 rfl fun w' hH hf=>⟨rfl,hf⟩
open Go Go.Fw Go.Proofs Go.Lib Go.RowKit
theorem below_fr (h:Below w.heap.size w w'):Fr 0 [] w w':=⟨h.os,h.tape,h.output,h.size,fun b o hb _=>by
 rw[h.block b (Array.getElem?_eq_some_iff.1 hb).1];exact hb⟩
structure Tabs (w:World):Prop where
 db:Db w
 pt:PrintTabsAt 3 4 5 6 Tg w
 ut:Utf8Tabs 1 2 w
 pw:TabIs Tryz.prog w "internal/strconv.uint64pow10" .u64 pow10Tab
theorem TabSlice.keepK {g:Nat} {k:IntKind} {t:List Nat} (h:TabSlice g k t w) (hk:Keep w w'):TabSlice g k t w':=by
 obtain ⟨R,o,c,h1,h2⟩:=h
 exact ⟨R,o,c,hk.cell h1,fun j hj=>hk.cell (h2 j hj)⟩
theorem Tabs.keep (h:Tabs w) (hk:Keep w w'):Tabs w':=by
 obtain ⟨h1,h2,h3,h4,h5⟩:=h.pt
 refine ⟨h.db.keep hk,⟨TabSlice.keepK h1 hk,TabSlice.keepK h2 hk,TabSlice.keepK h3 hk,TabSlice.keepK h4 hk,h5⟩,?_,?_⟩
 ·exact ⟨fun j hj=>hk.cell (h.ut.1 j hj),fun j hj=>⟨hk.cell (h.ut.2 j hj).1,hk.cell (h.ut.2 j hj).2⟩⟩
 ·have hp:=h.pw
  unfold TabIs World.var? at hp⊢
  cases hg:Tryz.prog.globalNamed "internal/strconv.uint64pow10" with
  |none=>rw[hg]at hp;cases hp
  |some g=>
   rw[hg]at hp
   simp only[Option.bind_some]at hp⊢
   cases ho:w.heap[g]? with
   |none=>rw[ho]at hp;cases hp
   |some o=>rw[ho]at hp;rw[hk _ _ ho];exact hp
theorem extraX:Builder.Extra Tryz.prog Tryz.lays156_ren where
 sizeBuilder:=by kernel_rfl
 liesBuilder:=by kernel_rfl
 t5:=ud5
 a5:=ag5
 z5:=so5
 v5:=zv5
 infoByte:=by kernel_rfl
 cellsByte:=by kernel_rfl
 sizeByte:=by kernel_rfl
 neB5:=by decide
theorem txt_data (l:List UInt8):(txt l).data.toList=l:=by simp[txt]
theorem joinTail_len (m:UInt8):∀(xs:List (List UInt8)) (B:Nat),(∀x∈xs,x.length≤B)→(joinTail [m] xs).length≤xs.length*(B+1)
 |[],B,_=>by simp[joinTail]
 |x::r,B,h=>by
    have ih:=joinTail_len m r B fun y hy=>h y (List.mem_cons_of_mem _ hy)
    have h1:=h x (List.mem_cons_self ..)
    simp only[joinTail,List.map_cons,List.flatten_cons,List.length_append,List.length_cons,List.length_nil]at ih⊢
    rw[Nat.add_mul]
    omega
theorem join_len (m:UInt8) (xs:List (List UInt8)) (B:Nat) (h:∀x∈xs,x.length≤B):(join xs [m]).length≤xs.length*(B+1):=by
 cases xs with
 |nil=>simp[join]
 |cons x r=>
  have ih:=joinTail_len m r B fun y hy=>h y (List.mem_cons_of_mem _ hy)
  have h1:=h x (List.mem_cons_self ..)
  rw[join_cons,List.length_append,List.length_cons,Nat.add_mul]
  omega
theorem joinB_c (w:World) (b l:Nat) (xs:List (List UInt8)) (m:UInt8) (hl:l=xs.length) (hb:Blk w b tStr (xs.map fun x=>.string (txt x))) (hn:xs.length≤1000) (hB:∀x∈xs,x.length≤1000):
  Calls Tryz.prog 75 #[.slice (some ⟨b,0,none⟩) l l,.string ⟨#[m]⟩] w (Ret fun v w'=>v=.string (txt (join xs [m]))∧Fr 0 [] w w'):=by
 subst hl
 have hm:(xs.map txt).map (fun s:ByteArray=>s.data.toList)=xs:=by
  rw[List.map_map]
  exact (List.map_congr_left fun x _=>txt_data x).trans (List.map_id _)
 have h:=Any.strings_Join Tryz.lays156 extraX b 0 xs.length (xs.map txt) ⟨#[m]⟩ w (fun j x hx=>by
   rw[Nat.zero_add,hb.cell,List.getElem?_map]
   rw[List.getElem?_map]at hx
   obtain ⟨y,h1,rfl⟩:=Option.map_eq_some_iff.1 hx
   rw[h1];rfl) hb.lt (by simp;omega) (by simp) (by
   rw[hm]
   have h1:=join_len m xs 1000 hB
   have h2:xs.length*(1000+1)≤1000*(1000+1):=Nat.mul_le_mul_right _ hn
   show (join xs [m]).length≤_
   omega)
 rw[List.length_map]at h
 refine h.mono ?_
 rintro e w' ⟨rfl,hB⟩
 refine ⟨?_,below_fr hB⟩
 rw[hm];rfl
theorem str_quote (s:ByteArray):strOfNums (quoteZ Tg s)=txt (qB Tg s):=by
 have h:(quoteZ Tg s)=(qB Tg s).map fun b=>(b.toNat:Int):=(ints_b8 (quote_rng Tg s)).symm
 rw[h]
 unfold strOfNums txt
 congr 2
 rw[List.map_map]
 refine (List.map_congr_left fun b _=>?_).trans (List.map_id _)
 simp
theorem quote_c (w:World) (s:ByteArray) (hs:s.size≤1000000000) (hT:Tabs w):Calls Tryz.prog 41 #[.string s] w (Ret fun v w'=>v=.string (txt (qB Tg s))∧Fr 0 [] w w'):=by
 refine (Any.strconv_Quote Tryz.lays177 (by kernel_rfl) Tg s w (by omega) hT.pt hT.ut).mono ?_
 rintro e w' ⟨rfl,hB⟩
 exact ⟨by rw[str_quote],below_fr hB⟩
end Go.Proofs.YtffghbkcomlefaaGreatDoor
namespace Go.Fw
open Go Go.Lib Go.Sort Go.RowKit
theorem kx_row {w:World} {b n:Nat} {d:Array UInt8}:KeepX [b] w ((putRow (fun (b:UInt8)=>Value.int .u8 (b.toNat:Int)) w b 0 d).drewN n):=
 ⟨rfl,rfl,rfl,Nat.le_of_eq (size_putRow ..).symm,fun c o hc hn=>by
  have hne:¬b=c:=fun e=>hn (by simp[e])
  show (w.heap.modify b _)[c]? =some o
  rw[Array.getElem?_modify,if_neg hne];exact hc⟩
end Go.Fw
namespace Go.Proofs.YtffghbkcomlefaaGreatDoor
open Go Go.Fw Go.Proofs Go.Lib Go.Sort Go.RowKit
variable {T b:Nat} {v:Value} {w w':World}
abbrev tA24:Nat:=218
abbrev z24:List Value:=List.replicate 24 (.int .u8 0)
theorem zero24 (w:World):(zeroValue tA24).run Tryz.prog w=.ok (.agg (List.toArray z24)) w:=(zv218 w).trans (by kernel_rfl)
theorem fb10_c (w:World) (b u:Nat) (hb:Blk w b tA24 z24) (hu1:1≤u) (hu:u<18446744073709551616):
  Calls Tryz.prog 112 #[.slice (some ⟨b,0,none⟩) (nDigits u) 24,.int .u64 (u:Nat)] w (Ret fun v w'=>v=.tuple #[]∧(∀(j:Nat) k,(decDigits u)[j]? =some k→w'.cell? ⟨b,0+j,none⟩=some (b8v k))∧KeepX [b] w w'):=by
 have hnd:nDigits u≤20:=by have:=numDigits_eq u hu1 hu;split at this<;>omega
 have hH:Holds (fun (b:UInt8)=>Value.int .u8 (b.toNat:Int)) w b 0 (Array.replicate (nDigits u) 0):=fun j hj=>by
  rw[Array.size_replicate]at hj
  rw[hb.cell]
  refine ⟨?_,?_⟩
  ·rw[List.getElem?_replicate,if_pos (by omega),getElem!_pos _ _ (by rw[Array.size_replicate];exact hj),Array.getElem_replicate];rfl
  ·have h1:w.heap[b]? =some (.cells (List.toArray z24) tA24 (0,0)):=hb
   simp[World.frozen?,h1]
 have h:=Any.internal_strconv_formatBase10 Tryz.lays285 b 0 24 u (Array.replicate (nDigits u) 0) w hH (by rw[Array.size_replicate];exact lt_pow_nDigits u) hu (by rw[Array.size_replicate];omega)
 rw[Array.size_replicate]at h
 refine h.mono ?_
 rintro e w' ⟨rfl,k,v',dk,rfl,hF⟩
 refine ⟨rfl,fun j c hj=>?_,kx_row⟩
 have hl:=(List.getElem?_eq_some_iff.1 hj).1
 rw[← (List.getElem?_eq_some_iff.1 hj).2,row_is_numeral hF j hl,World.cell?_drewN]
 exact cell?_putRow (fun (b:UInt8)=>Value.int .u8 (b.toNat:Int)) _ b 0 _ dk hH (by rw[hF.size,Array.size_replicate]) j (by rw[hF.size];rw[decDigits_length]at hl;exact hl)
theorem nd_c (w:World) (u:Nat) (hu1:1≤u) (hu:u<18446744073709551616) (hT:Tabs w):Calls Tryz.prog 111 #[.int .u64 (u:Nat)] w (Ret fun v w'=>v=.int .i64 (nDigits u:Nat)∧Fr 0 [] w w'):=by
 refine (Any.internal_strconv_numDigits Tryz.lays284 u hu1 hu w hT.pw).mono ?_
 rintro e w' ⟨rfl,rfl⟩
 exact ⟨rfl,Fr.refl _ _ _⟩
theorem small_c (w:World) (u:Nat) (hu:u<100):Calls Tryz.prog 110 #[.int .i64 (u:Nat)] w (Ret fun v w'=>v=.string (txt (decDigits u))∧Fr 0 [] w w'):=by
 refine (Any.internal_strconv_small Tryz.lays283 u hu w).mono ?_
 rintro e w' ⟨rfl,rfl⟩
 exact ⟨rfl,Fr.refl _ _ _⟩
theorem fu10i_c (w:World) (m:Nat) (hm:m<18446744073709551616) (hT:Tabs w):Calls Tryz.prog 80 #[.int .u64 (m:Nat),.int .i64 ((10:Nat):Int)] w (Ret fun v w'=>v=.string (txt (decDigits m))∧Fr 0 [] w w'):=by
 refine startJ (args:=[_,_]) [(0,_),(1,_)] 0 [] [] Tryz.func80 rfl Tryz.ntmps80 rfl rfl .nil ?_
 refine sQ fun K1=>cj_reg (jA (k:=K1 (sQ fun K2=>sQ fun K3=>cj_reg (jM (k:=jQ (k:=?_))))))
 refine j_eqv (u:=.bool true) (by kernel_rfl) ?_
 refine K3 (cj_if_t rfl (sQ fun K4=>sQ fun K5=>cj_reg (jM (k:=jS (k:=K5 ?_)))))
 refine cj_dec rfl (fun h12=>?_) (fun h12=>?_)
 ·have hs:m<100:=by omega
  refine sQ fun K6=>cj_reg (jM (k:=?_))
  refine j_val rfl (fun _ _ h=>r_conv ru76 ru3 rfl h) ?_
  refine j_eqv (u:=.int .i64 (m:Nat)) (congrArg (Value.int .i64) (wrap64_small (by omega) (by omega))) ?_
  refine j_callQ (φ:=fun v=>v=.string (txt (decDigits m))) Tryz.call110 rfl rfl (fun w' hH hf=>small_c w' m hs) fun v hv=>?_
  subst hv
  refine jA (k:=K6 (CJ.t [(4,_)] (k:=cj_ret ?_)))
  first
  |exact ej_ret1 Tryz.results80 rfl fun w' hH hf=>⟨rfl,hf⟩
  |exact ej_ret1 Tryz.results80 rfl fun w' hH hf=>⟨rfl,frQ hfr hf⟩
 ·have hs:100≤m:=by omega
  have hnd:nDigits m≤20:=by have:=numDigits_eq m (by omega) hm;split at this<;>omega
  refine cj_skip (K4 (sQ fun K7=>cj_reg (j_allocA (zs:=z24) zero24 rfl fun b5=>K7 (sQ fun K8=>cj_reg (jM (k:=?_))))))
  refine j_callQ (φ:=fun v=>v=.int .i64 (nDigits m:Nat)) Tryz.call111 rfl rfl (fun w' hH hf=>nd_c w' m (by omega) hm (hT.keep (Fr.keepAll hf (.inr rfl)))) fun v hv=>?_
  subst hv
  refine jA (k:=K8 (sQ fun K9=>cj_reg (jM (k:=?_))))
  refine j_val rfl (fun _ _ h=>r_sarrhi ru218 so5 rfl rfl (by omega) h) (jM (k:=?_))
  refine j_callE (R:=fun w1 v w2=>v=.tuple #[]∧(∀(j:Nat) k,(decDigits m)[j]? =some k→w2.cell? ⟨b5,0+j,none⟩=some (b8v k))∧KeepX [b5] w1 w2) Tryz.call112 rfl rfl (fun w1 hH hf=>fb10_c w1 b5 m (hH.get (i:=0) rfl rfl) (by omega) hm) fun w1 v w2 hH1 hf1 hR=>?_
  obtain ⟨rfl,hcell,hkx⟩:=hR
  have hge:=hH1.fresh (i:=0) rfl rfl rfl
  have hfr:Fr 0 [] w w2:=frK hf1 hkx fun b hb=>by rw[List.mem_singleton.1 hb];exact .inl hge
  refine J.begin ⟨w2,0,[]⟩ [] ok_refl .nil ?_
  refine K9 (sQ fun K10=>cj_reg (jM (k:=?_)))
  refine j_val rfl (fun _ _ h=>r_sarrhi ru218 so5 rfl rfl (by omega) h) (j_valw rfl (fun a w ha hH hf=>r_b2t (o:=0) (l:=nDigits m) (c:=24) (ls:=decDigits m) ud184 ud5 ud9 rfl (by rw[decDigits_length]) (fun j k hj=>Keep.cell (hf.keepAll (.inr rfl)) (hcell j k hj)) ha) (jA (k:=K10 (CJ.t [(4,_)] (k:=cj_ret ?_)))))
  first
  |exact ej_ret1 Tryz.results80 rfl fun w' hH hf=>⟨rfl,hf⟩
  |exact ej_ret1 Tryz.results80 rfl fun w' hH hf=>⟨rfl,frQ hfr hf⟩
theorem fu10_c (w:World) (m:Nat) (hm:m<18446744073709551616) (hT:Tabs w):Calls Tryz.prog 62 #[.int .u64 (m:Nat),.int .i64 ((10:Nat):Int)] w (Ret fun v w'=>v=.string (txt (decDigits m))∧Fr 0 [] w w'):=by
 refine startJ (args:=[_,_]) [(0,_),(1,_)] 0 [] [] Tryz.func62 rfl Tryz.ntmps62 rfl rfl .nil ?_
 refine sQ fun K1=>cj_reg (jA (k:=K1 (sQ fun K2=>cj_reg (jM (k:=jM (k:=?_))))))
 refine j_callQ (φ:=fun v=>v=.string (txt (decDigits m))) Tryz.call80 rfl rfl (fun w' hH hf=>fu10i_c w' m hm (hT.keep (Fr.keepAll hf (.inr rfl)))) fun v hv=>?_
 subst hv
 refine jA (k:=K2 (cj_ret ?_))
 exact ej_ret1 Tryz.results62 rfl fun w' hH hf=>⟨rfl,hf⟩
open Go Go.Fw Go.Proofs Go.Proofs.Tryz
def LabF {α:Type} (T:Nat) (enc:α→Value) (w:World) (v:Value) (f:ByteArray→List α):Prop:=
 (v=.map none∧∀k,f k=[])∨∃b ms es ck,v=.map (some b)∧w.heap[b]? =some (.map (List.toArray es) ck)∧MEnc Value.string ms es ck∧(∀k u,mget ms k=some u→f k≠[]∧OS T 1 w u ((f k).map enc))∧∀k,mget ms k=none→f k=[]
theorem LabF.mono {α:Type} {enc:α→Value} {f:ByteArray→List α} (h:LabF T enc w v f) (kr:∀b cs,Blk w b T cs→Blk w' b T cs) (km:∀(b:Nat) (es:Array MapEntry) (ck:Nat),w.heap[b]? =some (.map es ck)→w'.heap[b]? =some (.map es ck)):LabF T enc w' v f:=by
 rcases h with h|⟨b,ms,es,ck,h1,h2,h3,h4,h5⟩
 ·exact .inl h
 ·exact .inr ⟨b,ms,es,ck,h1,km _ _ _ h2,h3,fun k u hk=>⟨(h4 k u hk).1,(h4 k u hk).2.mono kr⟩,h5⟩
theorem LabF.congr {α:Type} {enc:α→Value} {f f':ByteArray→List α} (h:LabF T enc w v f) (e:∀k,f k=f' k):LabF T enc w v f':=by
 have:f=f':=funext e
 subst this;exact h
def fT (s:PSample) (k:ByteArray):List ByteArray:=((s.texts.find? fun t=>t.key=k).map (·.list)).getD []
def fN (s:PSample) (k:ByteArray):List Int:=((s.nums.find? fun t=>t.key=k).map (·.list)).getD []
theorem LabM.toF {β γ:Type} {enc:γ→Value} {ts:List β} {key:β→ByteArray} {lst:β→List γ} (h:LabM T w v (ts.map fun t=>(key t,(lst t).map enc))) (hne:∀t∈ts,lst t≠[]) (hn:(ts.map key).Nodup):
  LabF T enc w v fun k=>((ts.find? fun t=>key t=k).map lst).getD []:=by
 have hk:∀(k:ByteArray) t,t∈ts→key t=k→ts.find? (fun t=>key t=k)=some t:=fun k t ht e=>by
  cases hf:ts.find? fun t=>key t=k with
  |none=>exact absurd e (by simpa using List.find?_eq_none.1 hf t ht)
  |some u=>
   have h1:=List.mem_of_find?_eq_some hf
   have h2:key u=k:=by simpa using List.find?_some hf
   obtain ⟨i,hi⟩:=List.mem_iff_getElem?.1 ht
   obtain ⟨j,hj⟩:=List.mem_iff_getElem?.1 h1
   have hil:=(List.getElem?_eq_some_iff.1 hi).1
   have hjl:=(List.getElem?_eq_some_iff.1 hj).1
   have:i=j:=nodup_ix hn (by simpa using hil) (by simpa using hjl) (by rw[List.getElem_map,List.getElem_map,(List.getElem?_eq_some_iff.1 hi).2,(List.getElem?_eq_some_iff.1 hj).2,e,h2])
   subst this;rw[hi]at hj;cases hj;rfl
 have hno:∀k,k∉ts.map key→((ts.find? fun t=>key t=k).map lst).getD []=[]:=fun k hm=>by
  rw[List.find?_eq_none.2 fun t ht=>by simp only[decide_eq_true_eq];exact fun e=>hm (by rw[← e];exact List.mem_map_of_mem ht)];rfl
 rcases h with ⟨h1,h2⟩|⟨b,es,ck,ms,h1,h2,h3,h4,h5⟩
 ·refine .inl ⟨h2,fun k=>?_⟩
  have:ts=[]:=List.map_eq_nil_iff.1 h1
  subst this;rfl
 ·have h4':ms.map (·.1)=ts.map key:=by rw[h4,List.map_map];rfl
  refine .inr ⟨b,ms,es,ck,h1,h2,h3,fun k u hu=>?_,fun k hu=>?_⟩
  ·obtain ⟨i,hi⟩:=List.mem_iff_getElem?.1 (mget_mem hu)
   have hil:=(List.getElem?_eq_some_iff.1 hi).1
   have hlen:ms.length=ts.length:=by simpa using congrArg List.length h4'
   have hit:ts[i]? =some (ts[i]'(by omega)):=List.getElem?_eq_getElem (by omega)
   have hkk:key (ts[i]'(by omega))=k:=by
    have e1:(ms.map (·.1))[i]? =some k:=by rw[List.getElem?_map,hi];rfl
    rw[h4',List.getElem?_map,hit]at e1
    exact Option.some.inj e1
   have hmt:=List.mem_of_getElem? hit
   simp only[hk k _ hmt hkk]
   exact ⟨by simpa using hne _ hmt,h5 i _ _ hi (by rw[List.getElem?_map,hit];rfl)⟩
  ·exact hno k (by rw[← h4'];exact mget_none.1 hu)
def UnN (w:World) (v:Value):Prop:=v=.map none∨∃b ms es ck,v=.map (some b)∧w.heap[b]? =some (.map (List.toArray es) ck)∧MEnc Value.string ms es ck∧∀k u,mget ms k=some u→∃p c,u=.slice p 0 c
theorem UnN.mono (h:UnN w v) (km:∀(b:Nat) (es:Array MapEntry) (ck:Nat),w.heap[b]? =some (.map es ck)→w'.heap[b]? =some (.map es ck)):UnN w' v:=by
 rcases h with h|⟨b,ms,es,ck,h1,h2,h3,h4⟩
 ·exact .inl h
 ·exact .inr ⟨b,ms,es,ck,h1,km _ _ _ h2,h3,h4⟩
def SamR (w:World) (locs:List Nat) (b:Nat) (s:PSample):Prop:=∃ls vs lm nm um iv xv,Blk w b tSam [ls,vs,lm,nm,um,iv,xv]∧OS pLoc 1 w ls (s.stack.map (ptrAt locs))∧OS tI64 1 w vs (s.values.map (.int .i64))∧LabF tStr .string w lm (fT s)∧LabF tI64 (.int .i64) w nm (fN s)∧UnN w um∧scal iv=true∧scal xv=true
theorem SamR.mono {locs:List Nat} {s:PSample} (h:SamR w locs b s) (k:∀cs,Blk w b tSam cs→Blk w' b tSam cs) (k1:∀b cs,Blk w b pLoc cs→Blk w' b pLoc cs) (k2:∀b cs,Blk w b tI64 cs→Blk w' b tI64 cs) (k3:∀b cs,Blk w b tStr cs→Blk w' b tStr cs) (km:∀(b:Nat) (es:Array MapEntry) (ck:Nat),w.heap[b]? =some (.map es ck)→w'.heap[b]? =some (.map es ck)):SamR w' locs b s:=by
 obtain ⟨ls,vs,lm,nm,um,iv,xv,h1,h2,h3,h4,h5,h6,h7⟩:=h
 exact ⟨ls,vs,lm,nm,um,iv,xv,k _ h1,h2.mono k1,h3.mono k2,h4.mono k3 km,h5.mono k2 km,h6.mono km,h7⟩
theorem SamP.r {locs:List Nat} {s:PSample} (h:SamP w locs b s) (hL:LabP s):SamR w locs b s:=by
 obtain ⟨ls,vs,lm,nm,h1,h2,h3,h4,h5⟩:=h.ex
 exact ⟨ls,vs,lm,nm,_,_,_,h1,h2,h3,LabM.toF h4 (fun t ht=>(hL.tl t ht).1) (hL.tpw.imp fun {a b} h e=>by subst e;rw[ltB_irrefl]at h;cases h),LabM.toF h5 (fun t ht=>(hL.nl t ht).1) (hL.npw.imp fun {a b} h e=>by subst e;rw[ltB_irrefl]at h;cases h),.inl rfl,rfl,rfl⟩
structure OfS (w:World) (x:PProf) (g:G):Prop where
 prof:∃ty sa ma lo fu co,Blk w g.pb tProf (cProf x ty sa ma lo fu co g.per)∧OS pVT 1 w ty (g.types.map ptr)∧OS pSam 1 w sa (g.sams.map ptr)∧OS pMap 1 w ma (g.maps.map ptr)∧OS pLoc 1 w lo (g.locs.map ptr)∧OS pFun 1 w fu (g.funs.map ptr)∧OS tStr 1 w co (x.comments.map .string)
 per:Blk w g.per tVT (cVT x.per)
 types:Each g.types x.types fun b t=>Blk w b tVT (cVT t)
 maps:Each g.maps x.mappings fun b m=>Blk w b tMap (cMap m)
 funs:Each g.funs x.funcs fun b f=>Blk w b tFun (cFun f)
 locs:Each g.locs x.locs (LocP w g.maps g.funs)
 sams:Each g.sams x.samples (SamR w g.locs)
 nmaps:g.maps.Nodup
 nfuns:g.funs.Nodup
 nlocs:g.locs.Nodup
theorem OfP.s {B:Nat} {x:PProf} {g:G} (h:OfP B w x g) (hx:∀s∈x.samples,LabP s):OfS w x g:=
 { prof:=h.prof,per:=h.per,types:=h.types,maps:=h.maps,funs:=h.funs,locs:=h.locs,sams:=⟨h.sams.1,fun i b s hb hs=>(h.sams.2 i b s hb hs).r (hx s (List.mem_of_getElem? hs))⟩
   nmaps:=h.nmaps,nfuns:=h.nfuns,nlocs:=h.nlocs }
theorem OfS.keep {x:PProf} {g:G} (h:OfS w x g) (k:Keep w w'):OfS w' x g:=by
 have kr:=fun (b T:Nat) (cs:List Value) (hb:Blk w b T cs)=>(k b _ hb:Blk w' b T cs)
 have km:∀(b:Nat) (es:Array MapEntry) (ck:Nat),w.heap[b]? =some (.map es ck)→w'.heap[b]? =some (.map es ck):=fun b es ck hb=>k _ _ hb
 obtain ⟨ty,sa,ma,lo,fu,co,h1,h2,h3,h4,h5,h6,h7⟩:=h.prof
 exact { prof:=⟨ty,sa,ma,lo,fu,co,kr _ _ _ h1,h2.mono fun b cs=>kr _ _ cs,h3.mono fun b cs=>kr _ _ cs,h4.mono fun b cs=>kr _ _ cs,h5.mono fun b cs=>kr _ _ cs,h6.mono fun b cs=>kr _ _ cs,h7.mono fun b cs=>kr _ _ cs⟩
         per:=kr _ _ _ h.per
         types:=h.types.mono fun b t=>kr _ _ _
         maps:=h.maps.mono fun b t=>kr _ _ _
         funs:=h.funs.mono fun b t=>kr _ _ _
         locs:=h.locs.mono fun b l hl=>hl.mono (fun b cs=>kr _ _ cs) (fun b cs=>kr _ _ cs)
         sams:=h.sams.mono fun b l hl=>hl.mono (fun cs=>kr _ _ cs) (fun b cs=>kr _ _ cs) (fun b cs=>kr _ _ cs) (fun b cs=>kr _ _ cs) km
         nmaps:=h.nmaps
         nfuns:=h.nfuns
         nlocs:=h.nlocs }
end Go.Proofs.YtffghbkcomlefaaGreatDoor
namespace Go.Fw
open Go
variable {y:Ent} {W:List Nat} {cs xs:List Value} {B T b c l sz:Nat} {p:Option Addr} {w w':World}
def On (S:Nat→Prop) (w:World) (φ:World→Prop):Prop:=∀w',(∀(b:Nat) (o:Obj),S b→w.heap[b]? =some o→w'.heap[b]? =some o)→φ w'
theorem On.now {S:Nat→Prop} {φ:World→Prop} (h:On S w φ):φ w:=h w fun _ _ _ h=>h
theorem On.keep {S S':Nat→Prop} {φ:World→Prop} (h:On S w φ) (k:∀(b:Nat) (o:Obj),S b→w.heap[b]? =some o→w'.heap[b]? =some o) (hS:∀b,S b→S' b):On S' w' φ:=fun w2 k2=>h w2 fun b o hb ho=>k2 b o (hS b hb) (k b o hb ho)
theorem On.imp {S:Nat→Prop} {φ ψ:World→Prop} (h:On S w φ) (hp:∀w,φ w→ψ w):On S w ψ:=fun w' k=>hp _ (h w' k)
theorem On.blk {S:Nat→Prop} (h:Blk w b T cs) (hS:S b):On S w fun w=>Blk w b T cs:=fun _ k=>k b _ hS h
def exL (H:Heap):List Nat:=H.flatMap fun x=>if x.ex then [x.b] else []
theorem exL_mem {H:Heap}:b∈exL H↔∃x∈H,x.ex=true∧x.b=b:=by
 unfold exL
 rw[List.mem_flatMap]
 constructor
 ·rintro ⟨x,hx,hb⟩
  by_cases he:x.ex=true
  ·rw[if_pos he]at hb
   exact ⟨x,hx,he,(by simpa using hb:b=x.b).symm⟩
  ·rw[if_neg he]at hb;cases hb
 ·rintro ⟨x,hx,he,rfl⟩
  exact ⟨x,hx,by rw[if_pos he];simp⟩
theorem Hp.listL {L:List Nat}:∀{es:Heap},(∀x∈es,x.has w)→(∀x∈es,x.ex=true→x.wr=true→B≤x.b∧x.tag∈W)→es.Pairwise (fun x y=>x.ex=true→y.ex=true→y.b≠x.b)→(∀x∈es,x.ex=true→x.b∈L)→Hp ⟨w,B,W⟩ w (es++restH w L)
 |[],_,_,_,_=>Hp.rest _
 |x::r,hh,hm,hd,hL=>by
    obtain ⟨h1,h2⟩:=List.pairwise_cons.1 hd
    refine ⟨hh x (List.mem_cons_self ..),fun he hw=>.inr (hm x (List.mem_cons_self ..) he hw),fun he y hy hye=>?_,Hp.listL (fun y hy=>hh y (List.mem_cons_of_mem _ hy)) (fun y hy=>hm y (List.mem_cons_of_mem _ hy)) h2 fun y hy=>hL y (List.mem_cons_of_mem _ hy)⟩
    rcases List.mem_append.1 hy with hy|hy
    ·exact h1 y hy he hye
    ·exact rest_ne (hL x (List.mem_cons_self ..) he) y hy hye
theorem Hp.list (es:Heap) (hh:∀x∈es,x.has w) (hm:∀x∈es,x.ex=true→x.wr=true→B≤x.b∧x.tag∈W) (hd:es.Pairwise fun x y=>x.ex=true→y.ex=true→y.b≠x.b):Hp ⟨w,B,W⟩ w (es++restH w (exL es)):=
 Hp.listL hh hm hd fun x hx he=>exL_mem.2 ⟨x,hx,he,rfl⟩
theorem has_blk {wr:Bool} (h:Blk w b T cs):Ent.has ⟨b,T,cs,wr,true,none⟩ w:=⟨fun _=>h,fun _ ho=>(by cases ho)⟩
theorem has_map {ck:Nat} {es:List MapEntry} (h:w.heap[b]? =some (.map es.toArray ck)):(mpE b es ck).has w:=⟨fun h=>(by cases h),fun o ho=>by cases ho;exact h⟩
theorem has_own (hO:Own T sz y p l c xs) (hy:y.on=true→Blk w y.b T y.cs):y.has w:=⟨fun ho=>by rw[hO.hT];exact hy ho,fun o ho=>by rw[hO.ho]at ho;cases ho⟩
theorem own_ex (hO:Own T sz y p l c xs) (he:y.ex=true):y.on=true:=by simpa[Ent.ex,hO.ho]using he
theorem Hp.keepL {f:Fm} {L:List Nat} {es:Heap} (h:Hp f w' (es++restH w L)) (hf:Fm.ok ⟨w,f.B,f.W⟩ w'):KeepX L w w':=by
 have h2:Hp f w' (restH w L):=by
  induction es with
  |nil=>exact h
  |cons x r ih=>exact ih h.2.2.2
 exact h2.keepX hf
end Go.Fw
namespace Go.Proofs.YtffghbkcomlefaaGreatDoor
open Go Go.Fw Go.Proofs Go.Proofs.Tryz
variable {y:Ent} {bs:List Nat} {b c i l n:Nat} {p:Option Addr} {u:Value} {w w' w0 w1:World}
theorem check_bool {P:Program} {kt:Nat} (hu:∀w,(underlying kt).run P w=.ok .bool w) (m:Nat) (em:Bool) (k:Bool) (w:World):(Instr.checkKey em (m+1) kt (.bool k)).run P w=.ok () w:=by
 simp only[Instr.checkKey,Sem.run_bind,hu,Result.andThen_ok];rfl
theorem toList_inj (x y:ByteArray):x.toList=y.toList↔x=y:=by
 have:=ba_eq x y
 rw[Bool.eq_iff_iff]at this
 simpa using this
def encMp (k:Int×Int×ByteArray):Value:=.agg #[.int .u64 (k.1),.int .u64 (k.2.1),.string (k.2.2)]
theorem eqMp (w:World) (i j:Int×Int×ByteArray):(Op.equal 149 (encMp i) (encMp j)).run Tryz.prog w=.ok (decide (i=j)) w:=by
 have h1:Tryz.prog.underlying 149=some (.struct (Tryz.prog.fieldsOf 149)):=by simp[Program.fieldsOf,ud149]
 have h2:=run_equalIn_agg (P:=Tryz.prog) w 9999 149 #[.int .u64 (i.1),.int .u64 (i.2.1),.string (i.2.2)] #[.int .u64 (j.1),.int .u64 (j.2.1),.string (j.2.2)] h1 Tryz.stoodInHeld149
 have h3:Op.equal 149 (encMp i) (encMp j)=Op.equalIn (9999+1) 149 (encMp i) (encMp j):=rfl
 rw[h3,encMp,encMp,h2]
 have hs:=fun (a b:ByteArray) (w:World)=>run_equalIn_string (P:=Tryz.prog) w 9998 9 a b ud9
 have hu:=fun (a b:Int) (w:World)=>run_equalIn_int (P:=Tryz.prog) w 9998 76 .u64 .u64 a b ud76
 simp only[Nat.reduceAdd]at hs hu
 simp[Program.fieldsOf,ud149,Op.eqFields,part,ag9,ag76,hs,hu]
 obtain ⟨i0,i1,i2⟩:=i
 obtain ⟨j0,j1,j2⟩:=j
 simp only[Prod.mk.injEq,toList_inj]
 repeat' split
 all_goals simp_all
theorem keyMp:KeyT Tryz.prog 149 encMp (fun _ _=>True):=by
 refine KeyT.of_equal ⟨_,ru149,fun v u=>by cases v<;>cases u<;>rfl⟩ (fun w em k=>?_) (fun w k k' _ _=>eqMp w k k') (fun k=>?_)
 ·have gs:∀(z:ByteArray) (w:World),(Instr.checkKey em (9998+1) 9 (.string (z))).run Tryz.prog w=.ok () w:=fun z w=>check_string ru9 9998 em z w
  have gu:∀(z:Int) (w:World),(Instr.checkKey em (9998+1) 76 (.int .u64 (z))).run Tryz.prog w=.ok () w:=fun z w=>check_int ru76 9998 em z w
  simp only[Nat.reduceAdd]at gs gu
  show (Instr.checkKey em (9999+1) 149 (encMp k)).run Tryz.prog w=_
  rw[Instr.checkKey]
  simp[encMp,ru149,part,ag9,ag76,gs,gu, ← Array.forIn_toList]
 ·simp[encMp,Instr.sameBits,ba_beq]
def encFc (k:Int×ByteArray×ByteArray×ByteArray):Value:=.agg #[.int .i64 (k.1),.string (k.2.1),.string (k.2.2.1),.string (k.2.2.2)]
theorem eqFc (w:World) (i j:Int×ByteArray×ByteArray×ByteArray):(Op.equal 224 (encFc i) (encFc j)).run Tryz.prog w=.ok (decide (i=j)) w:=by
 have h1:Tryz.prog.underlying 224=some (.struct (Tryz.prog.fieldsOf 224)):=by simp[Program.fieldsOf,ud224]
 have h2:=run_equalIn_agg (P:=Tryz.prog) w 9999 224 #[.int .i64 (i.1),.string (i.2.1),.string (i.2.2.1),.string (i.2.2.2)] #[.int .i64 (j.1),.string (j.2.1),.string (j.2.2.1),.string (j.2.2.2)] h1 Tryz.stoodInHeld224
 have h3:Op.equal 224 (encFc i) (encFc j)=Op.equalIn (9999+1) 224 (encFc i) (encFc j):=rfl
 rw[h3,encFc,encFc,h2]
 have hi:=fun (a b:Int) (w:World)=>run_equalIn_int (P:=Tryz.prog) w 9998 2 .i64 .i64 a b ud2
 have hs:=fun (a b:ByteArray) (w:World)=>run_equalIn_string (P:=Tryz.prog) w 9998 9 a b ud9
 simp only[Nat.reduceAdd]at hi hs
 simp[Program.fieldsOf,ud224,Op.eqFields,part,ag2,ag9,hi,hs]
 obtain ⟨i0,i1,i2,i3⟩:=i
 obtain ⟨j0,j1,j2,j3⟩:=j
 simp only[Prod.mk.injEq,toList_inj]
 repeat' split
 all_goals simp_all
theorem keyFc:KeyT Tryz.prog 224 encFc (fun _ _=>True):=by
 refine KeyT.of_equal ⟨_,ru224,fun v u=>by cases v<;>cases u<;>rfl⟩ (fun w em k=>?_) (fun w k k' _ _=>eqFc w k k') (fun k=>?_)
 ·have gi:∀(z:Int) (w:World),(Instr.checkKey em (9998+1) 2 (.int .i64 (z))).run Tryz.prog w=.ok () w:=fun z w=>check_int ru2 9998 em z w
  have gs:∀(z:ByteArray) (w:World),(Instr.checkKey em (9998+1) 9 (.string (z))).run Tryz.prog w=.ok () w:=fun z w=>check_string ru9 9998 em z w
  simp only[Nat.reduceAdd]at gi gs
  show (Instr.checkKey em (9999+1) 224 (encFc k)).run Tryz.prog w=_
  rw[Instr.checkKey]
  simp[encFc,ru224,part,ag2,ag9,gi,gs, ← Array.forIn_toList]
 ·simp[encFc,Instr.sameBits,ba_beq]
def encLc (k:Int×Int×ByteArray×Bool):Value:=.agg #[.int .u64 (k.1),.int .u64 (k.2.1),.string (k.2.2.1),.bool (k.2.2.2)]
theorem eqLc (w:World) (i j:Int×Int×ByteArray×Bool):(Op.equal 174 (encLc i) (encLc j)).run Tryz.prog w=.ok (decide (i=j)) w:=by
 have h1:Tryz.prog.underlying 174=some (.struct (Tryz.prog.fieldsOf 174)):=by simp[Program.fieldsOf,ud174]
 have h2:=run_equalIn_agg (P:=Tryz.prog) w 9999 174 #[.int .u64 (i.1),.int .u64 (i.2.1),.string (i.2.2.1),.bool (i.2.2.2)] #[.int .u64 (j.1),.int .u64 (j.2.1),.string (j.2.2.1),.bool (j.2.2.2)] h1 Tryz.stoodInHeld174
 have h3:Op.equal 174 (encLc i) (encLc j)=Op.equalIn (9999+1) 174 (encLc i) (encLc j):=rfl
 rw[h3,encLc,encLc,h2]
 have hb:=fun (a b:Bool) (w:World)=>run_equalIn_bool (P:=Tryz.prog) w 9998 4 a b ud4
 have hs:=fun (a b:ByteArray) (w:World)=>run_equalIn_string (P:=Tryz.prog) w 9998 9 a b ud9
 have hu:=fun (a b:Int) (w:World)=>run_equalIn_int (P:=Tryz.prog) w 9998 76 .u64 .u64 a b ud76
 simp only[Nat.reduceAdd]at hb hs hu
 simp[Program.fieldsOf,ud174,Op.eqFields,part,ag4,ag9,ag76,hb,hs,hu]
 obtain ⟨i0,i1,i2,i3⟩:=i
 obtain ⟨j0,j1,j2,j3⟩:=j
 simp only[Prod.mk.injEq,toList_inj]
 repeat' split
 all_goals simp_all
theorem keyLc:KeyT Tryz.prog 174 encLc (fun _ _=>True):=by
 refine KeyT.of_equal ⟨_,ru174,fun v u=>by cases v<;>cases u<;>rfl⟩ (fun w em k=>?_) (fun w k k' _ _=>eqLc w k k') (fun k=>?_)
 ·have gb:∀(z:Bool) (w:World),(Instr.checkKey em (9998+1) 4 (.bool (z))).run Tryz.prog w=.ok () w:=fun z w=>check_bool ru4 9998 em z w
  have gs:∀(z:ByteArray) (w:World),(Instr.checkKey em (9998+1) 9 (.string (z))).run Tryz.prog w=.ok () w:=fun z w=>check_string ru9 9998 em z w
  have gu:∀(z:Int) (w:World),(Instr.checkKey em (9998+1) 76 (.int .u64 (z))).run Tryz.prog w=.ok () w:=fun z w=>check_int ru76 9998 em z w
  simp only[Nat.reduceAdd]at gb gs gu
  show (Instr.checkKey em (9999+1) 174 (encLc k)).run Tryz.prog w=_
  rw[Instr.checkKey]
  simp[encLc,ru174,part,ag4,ag9,ag76,gb,gs,gu, ← Array.forIn_toList]
 ·simp[encLc,Instr.sameBits,ba_beq]
def encSm (k:ByteArray×ByteArray×ByteArray):Value:=.agg #[.string (k.1),.string (k.2.1),.string (k.2.2)]
theorem eqSm (w:World) (i j:ByteArray×ByteArray×ByteArray):(Op.equal 154 (encSm i) (encSm j)).run Tryz.prog w=.ok (decide (i=j)) w:=by
 have h1:Tryz.prog.underlying 154=some (.struct (Tryz.prog.fieldsOf 154)):=by simp[Program.fieldsOf,ud154]
 have h2:=run_equalIn_agg (P:=Tryz.prog) w 9999 154 #[.string (i.1),.string (i.2.1),.string (i.2.2)] #[.string (j.1),.string (j.2.1),.string (j.2.2)] h1 Tryz.stoodInHeld154
 have h3:Op.equal 154 (encSm i) (encSm j)=Op.equalIn (9999+1) 154 (encSm i) (encSm j):=rfl
 rw[h3,encSm,encSm,h2]
 have hs:=fun (a b:ByteArray) (w:World)=>run_equalIn_string (P:=Tryz.prog) w 9998 9 a b ud9
 simp only[Nat.reduceAdd]at hs
 simp[Program.fieldsOf,ud154,Op.eqFields,part,ag9,hs]
 obtain ⟨i0,i1,i2⟩:=i
 obtain ⟨j0,j1,j2⟩:=j
 simp only[Prod.mk.injEq,toList_inj]
 repeat' split
 all_goals simp_all
theorem keySm:KeyT Tryz.prog 154 encSm (fun _ _=>True):=by
 refine KeyT.of_equal ⟨_,ru154,fun v u=>by cases v<;>cases u<;>rfl⟩ (fun w em k=>?_) (fun w k k' _ _=>eqSm w k k') (fun k=>?_)
 ·have gs:∀(z:ByteArray) (w:World),(Instr.checkKey em (9998+1) 9 (.string (z))).run Tryz.prog w=.ok () w:=fun z w=>check_string ru9 9998 em z w
  simp only[Nat.reduceAdd]at gs
  show (Instr.checkKey em (9999+1) 154 (encSm k)).run Tryz.prog w=_
  rw[Instr.checkKey]
  simp[encSm,ru154,part,ag9,gs, ← Array.forIn_toList]
 ·simp[encSm,Instr.sameBits,ba_beq]
theorem keyId:KeyT Tryz.prog 76 (Value.int .u64) (fun _ _=>True):=keyT_int ru76
theorem wrap_u64_nn (z:Int):0≤IntKind.u64.wrap z:=by
 simp only[IntKind.wrap,IntKind.bits,IntKind.signed]
 simp;omega
theorem pgs_eq (m:PMapping):pgs m=IntKind.u64.wrap (IntKind.u64.wrap (IntKind.u64.wrap (m.limit - m.start)+4096) - 1):=by
 unfold pgs
 simp only[IntKind.wrap,IntKind.bits,IntKind.signed]
 simp;omega
def encMI (p:Value) (o:Int):Value:=.agg #[p,.int .i64 o]
theorem mapKey_c (w:World) (b:Nat) (m:PMapping) (h:Blk w b tMap (cMap m)):Calls Tryz.prog 52 #[ptr b] w (Ret fun v w'=>v=encMp (partK m)∧Fr 0 [] w w'):=by
 have hc:=mc (f:=⟨w,0,[]⟩) h rfl
 refine startJ (args:=[_]) [(0,_)] 0 [] [] func52 rfl ntmps52 rfl rfl .nil ?_
 refine sQ fun K1=>cj_reg (j_allocA (zs:=[(.int .u64 0),(.int .u64 0),(.string ⟨#[]⟩)]) zv149 rfl fun b2=>K1 (sQ fun K2=>cj_drawI 10 (lts [0,1,2,3,4,5,6,7,8,9]) [0] rfl (by kernel_rfl) (by kernel_rfl) (dM [0] (k:=dN [0] (k:=dF [0] 2 ru81 so76 (k:=dL [0] ag76 hc 2 (k:=dM [0] (k:=dN [0] (k:=dF [0] 1 ru81 so76 (k:=dL [0] ag76 hc 1 (k:=?_)))))))))))
 refine dj_val rfl rfl (sub_of [0] rfl) (fun _ _ h=>r_sub rfl rfl h) (dA [0] (k:=K2 (sQ fun K3=>cj_reg (jM (k:=?_)))))
 refine j_val rfl (fun _ _ h=>r_add rfl rfl h) (j_val rfl (fun _ _ h=>r_sub rfl rfl h) (jA (k:=K3 (CJ.t [(0,_),(2,_),(3,_)] (k:=sQ fun K4=>cj_reg (jM (k:=jM (k:=?_))))))))
 refine j_val rfl (fun _ _ h=>r_remI rfl rfl (wrap_u64_nn _) (by omega) h) (j_val rfl (fun _ _ h=>r_sub rfl rfl h) (jA (k:=K4 (sQ fun K5=>cj_reg (jM (k:=jM (k:=jN (k:=jF 3 ru81 so76 (k:=jL ag76 hc 3 (k:=?_))))))))))
 refine j_val rfl (fun _ _ h=>r_build (cs:=[_,_,(.string ⟨#[]⟩)]) bt149 rfl rfl h) (j_allocA (zs:=[(.int .u64 0),(.int .u64 0),(.string ⟨#[]⟩)]) zv149 rfl fun b4=>jB [_,_,_] [_,_] 0 so149 (k:=K5 (CJ.t [(0,_),(2,_),(4,_)] (k:=sQ fun K6=>cj_block (sQ fun K7=>cj_reg (jM (k:=jN (k:=jF 5 ru81 so9 (k:=jL ag9 hc 5 (k:=?_))))))))))
 refine j_val rfl (fun _ _ h=>r_sneq rfl rfl h) (jA (k:=K7 ?_))
 refine cj_if rfl (fun h27=>?_) (fun h27=>?_)
 ·refine cj_reg (jM (k:=jN (k:=jF 5 ru81 so9 (k:=jL ag9 hc 5 (k:=jF 2 ru149 so9 (k:=jB [_,_,_] [_,_] 0 so9 (k:=K6 (CJ.t [(2,_),(4,_)] (k:=sQ fun K8=>cj_reg ?_)))))))))
  refine j_valw rfl (fun a w ha hH hf=>r_ldA (vs:=[_,_,_]) 0 rfl rfl ag149 so149 rfl rfl rfl ha hH) (jB [_,_,_] [_,_] 1 so149 (k:=K8 (cj_ret ?_)))
  first
  |exact ej_ret1C results52 ag149 so149 rfl rfl (fun w' hH hf=>⟨_,hH.get (i:=1) rfl rfl⟩) fun w' hH hf=>⟨by rw[encMp,partK,if_pos (by simpa using h27),pgs_eq,show m.file=⟨#[]⟩ by simpa using h38],hf⟩
  |exact ej_ret1C results52 ag149 so149 rfl rfl (fun w' hH hf=>⟨_,hH.get (i:=1) rfl rfl⟩) fun w' hH hf=>⟨by rw[encMp,partK,if_pos (by simpa using h27),pgs_eq],hf⟩
  |exact ej_ret1C results52 ag149 so149 rfl rfl (fun w' hH hf=>⟨_,hH.get (i:=1) rfl rfl⟩) fun w' hH hf=>⟨by rw[encMp,partK,if_neg (by simpa using h27),pgs_eq],hf⟩
 ·refine sQ fun K9=>cj_reg (jM (k:=jN (k:=jF 4 ru81 so9 (k:=jL ag9 hc 4 (k:=?_)))))
  refine j_val rfl (fun _ _ h=>r_sneq rfl rfl h) (jA (k:=K9 ?_))
  refine cj_if rfl (fun h38=>?_) (fun h38=>?_)
  ·refine cj_reg (jM (k:=jN (k:=jF 4 ru81 so9 (k:=jL ag9 hc 4 (k:=jF 2 ru149 so9 (k:=jB [_,_,_] [_,_] 0 so9 (k:=K6 (CJ.t [(2,_),(4,_)] (k:=sQ fun K10=>cj_reg ?_)))))))))
   refine j_valw rfl (fun a w ha hH hf=>r_ldA (vs:=[_,_,_]) 0 rfl rfl ag149 so149 rfl rfl rfl ha hH) (jB [_,_,_] [_,_] 1 so149 (k:=K10 (cj_ret ?_)))
   first
   |exact ej_ret1C results52 ag149 so149 rfl rfl (fun w' hH hf=>⟨_,hH.get (i:=1) rfl rfl⟩) fun w' hH hf=>⟨by rw[encMp,partK,if_pos (by simpa using h27),pgs_eq,show m.file=⟨#[]⟩ by simpa using h38],hf⟩
   |exact ej_ret1C results52 ag149 so149 rfl rfl (fun w' hH hf=>⟨_,hH.get (i:=1) rfl rfl⟩) fun w' hH hf=>⟨by rw[encMp,partK,if_pos (by simpa using h27),pgs_eq],hf⟩
   |exact ej_ret1C results52 ag149 so149 rfl rfl (fun w' hH hf=>⟨_,hH.get (i:=1) rfl rfl⟩) fun w' hH hf=>⟨by rw[encMp,partK,if_neg (by simpa using h27),pgs_eq],hf⟩
  ·refine cj_skip (K6 (sQ fun K11=>cj_reg (j_valw rfl (fun a w ha hH hf=>r_ldA (vs:=[_,_,_]) 0 rfl rfl ag149 so149 rfl rfl rfl ha hH) (jB [_,_,_] [_,_] 1 so149 (k:=K11 (cj_ret ?_))))))
   first
   |exact ej_ret1C results52 ag149 so149 rfl rfl (fun w' hH hf=>⟨_,hH.get (i:=1) rfl rfl⟩) fun w' hH hf=>⟨by rw[encMp,partK,if_pos (by simpa using h27),pgs_eq,show m.file=⟨#[]⟩ by simpa using h38],hf⟩
   |exact ej_ret1C results52 ag149 so149 rfl rfl (fun w' hH hf=>⟨_,hH.get (i:=1) rfl rfl⟩) fun w' hH hf=>⟨by rw[encMp,partK,if_pos (by simpa using h27),pgs_eq],hf⟩
   |exact ej_ret1C results52 ag149 so149 rfl rfl (fun w' hH hf=>⟨_,hH.get (i:=1) rfl rfl⟩) fun w' hH hf=>⟨by rw[encMp,partK,if_neg (by simpa using h27),pgs_eq],hf⟩
theorem funKey_c (w:World) (b:Nat) (m:PFunc) (h:Blk w b tFun (cFun m)):Calls Tryz.prog 114 #[ptr b] w (Ret fun v w'=>v=encFc (fnK m)∧Fr 0 [] w w'):=by
 have hc:=mc (f:=⟨w,0,[]⟩) h rfl
 refine startJ (args:=[_]) [(0,_)] 0 [] [] func114 rfl ntmps114 rfl rfl .nil ?_
 refine sQ fun K1=>cj_reg (j_allocA (zs:=[(.int .i64 0),(.string ⟨#[]⟩),(.string ⟨#[]⟩),(.string ⟨#[]⟩)]) zv224 rfl fun b2=>K1 (cj_seqF fun K2 hK2=>cj_drawI 18 (lts [0,1,2,3,4,5,6,7,8,9,10,11,12,13,14,15,16]++(17,false)::[]) [] rfl (by kernel_rfl) (by kernel_rfl) (dM [] (k:=dN [] (k:=dF [] 4 ru86 so2 (k:=dL [] ag2 hc 4 (k:=dM [] (k:=dN [] (k:=dF [] 1 ru86 so9 (k:=dL [] ag9 hc 1 (k:=?_)))))))))))
 refine dM [] (k:=dN [] (k:=dF [] 2 ru86 so9 (k:=dL [] ag9 hc 2 (k:=dM [] (k:=dN [] (k:=dF [] 3 ru86 so9 (k:=dL [] ag9 hc 3 (k:=?_))))))))
 refine dj_val rfl rfl (sub_of [] rfl) (fun _ _ h=>r_build (cs:=[_,_,_,_]) bt224 rfl rfl h) (dE (h:=fun Kd=>jB [_,_,_,_] [_] 0 so224 (k:=Kd (sb []) (dj_end (ej_then (hK2 _ _ _ (CJ.t [(2,_)] (k:=cj_ret ?_))))))))
 exact ej_ret1C results114 ag224 so224 rfl rfl (fun w' hH hf=>⟨_,hH.get (i:=0) rfl rfl⟩) fun w' hH hf=>⟨rfl,hf⟩
abbrev tPM:Nat:=115
abbrev FcK:=Int×ByteArray×ByteArray×ByteArray
abbrev MpK:=Int×Int×ByteArray
structure MS where
  pm:Nat
  pb:Nat
  per:Nat
  ty:Value
  types:List Nat
  mS:Nat
  mL:Nat
  mF:Nat
  mM:Nat
  iL:Nat
  iF:Nat
  iM:Nat
  kS:List (SmpK×Value)
  kL:List (LcK×Value)
  kF:List (FcK×Value)
  kM:List (MpK×Value)
  jL:List (Int×Value)
  jF:List (Int×Value)
  jM:List (Int×Value)
  maps:List Nat
  funs:List Nat
  locs:List Nat
  sams:List Nat
  vals:List Nat
  cL:Nat
  cF:Nat
  cM:Nat
  z:PProf
  hot:List Nat
  cold:Nat→Prop
def TbM {κ:Type} (enc:κ→Value) (w:World) (b:Nat) (ms:List (κ×Value)):Prop:=∃es ck,w.heap[b]? =some (.map (List.toArray es) ck)∧MEnc enc ms es ck
def SamC (locs:List Nat) (b v n:Nat) (s:PSample) (w:World):Prop:=∃ls lm nm um iv xv,Blk w b tSam [ls,.slice (some ⟨v,0,none⟩) n n,lm,nm,um,iv,xv]∧OS pLoc 1 w ls (s.stack.map (ptrAt locs))∧LabF tStr .string w lm (fT s)∧LabF tI64 (.int .i64) w nm (fN s)∧UnN w um∧scal iv=true∧scal xv=true
def cPM (s:MS):List Value:=[ptr s.pb,.map (some s.iL),.map (some s.iF),.map (some s.iM),.map (some s.mS),.map (some s.mL),.map (some s.mF),.map (some s.mM)]
def SzM (m:PMapping):Prop:=m.file.size≤2000000∧m.build.size≤2000000
def SzF (f:PFunc):Prop:=f.name.size≤2000000∧f.system.size≤2000000∧f.file.size≤2000000
structure ZW (n:Nat) (z:PProf):Prop where
  mp:∀(i:Nat) m,z.mappings[i]? =some m→m.id=(i:Int)+1∧IntKind.u64.wrap m.start=m.start∧IntKind.u64.wrap m.limit=m.limit∧IntKind.u64.wrap m.offset=m.offset∧SzM m
  fn:∀(i:Nat) f,z.funcs[i]? =some f→f.id=(i:Int)+1∧IntKind.i64.wrap f.start=f.start∧SzF f
  lc:∀(i:Nat) l,z.locs[i]? =some l→l.id=(i:Int)+1∧(-1≤l.mapping∧l.mapping<z.mappings.length)∧l.lines.length≤60∧(∀ln∈l.lines,(-1≤ln.fn∧ln.fn<z.funcs.length)∧IntKind.i64.wrap ln.line=ln.line)∧IntKind.u64.wrap l.addr=l.addr
  sm:∀t∈z.samples,t.values.length=n∧Fit t.values∧t.stack.length≤60∧(∀k∈t.stack,0≤k∧k<z.locs.length)∧LabP t∧∀u∈t.nums,Fit u.list
theorem ZW.tab {z:PProf} (h:ZW n z):TabK z:=⟨fun l hl=>by
  obtain ⟨i,hi⟩:=List.mem_iff_getElem?.1 hl
  obtain ⟨-,h2, -,h3, -⟩:=h.lc i l hi
  exact ⟨h2,fun m hm=>(h3 m hm).1⟩⟩
structure MG (w0:World) (x:PProf) (n:Nat) (w:World) (s:MS):Prop where
  kp:Keep w0 w
  c0:∀b,b<w0.heap.size→s.cold b
  cd:∀b,s.cold b→b<w.heap.size∧b∉s.hot
  hl:∀b∈s.hot,b<w.heap.size
  hh:∀b∈[s.pm,s.pb,s.mS,s.mL,s.mF,s.mM,s.iL,s.iF,s.iM]++s.vals,b∈s.hot
  nd:[s.mS,s.mL,s.mF,s.mM,s.iL,s.iF,s.iM].Nodup
  bpm:Blk w s.pm tPM (cPM s)
  prof:∃sa ma lo fu,Blk w s.pb tProf (cProf s.z s.ty sa ma lo fu (.slice none 0 0) s.per)∧OSp (· ∈s.hot) pSam 1 w sa (s.sams.map ptr)∧OSp (· ∈s.hot) pMap 1 w ma (s.maps.map ptr)∧OSp (· ∈s.hot) pLoc 1 w lo (s.locs.map ptr)∧OSp (· ∈s.hot) pFun 1 w fu (s.funs.map ptr)
  tS:TbM encSm w s.mS s.kS
  tL:TbM encLc w s.mL s.kL
  tF:TbM encFc w s.mF s.kF
  tM:TbM encMp w s.mM s.kM
  uL:TbM (Value.int .u64) w s.iL s.jL
  uF:TbM (Value.int .u64) w s.iF s.jF
  uM:TbM (Value.int .u64) w s.iM s.jM
  oT:On s.cold w fun w=>OS pVT 1 w s.ty (s.types.map ptr)∧Each s.types s.z.types (fun b t=>Blk w b tVT (cVT t))∧Blk w s.per tVT (cVT s.z.per)
  oM:Each s.maps s.z.mappings fun b m=>On s.cold w fun w=>Blk w b tMap (cMap m)
  oF:Each s.funs s.z.funcs fun b f=>On s.cold w fun w=>Blk w b tFun (cFun f)
  oL:Each s.locs s.z.locs fun b l=>On s.cold w fun w=>LocP w s.maps s.funs b l
  oS:∀(i b v:Nat) (t:PSample),s.sams[i]? =some b→s.vals[i]? =some v→s.z.samples[i]? =some t→On s.cold w (SamC s.locs b v n t)
  oV:Each s.vals s.z.samples fun b t=>Blk w b tI64 (t.values.map (.int .i64))
  lS:s.sams.length=s.vals.length
  nV:s.vals.Nodup
  nM:s.maps.Nodup
  nF:s.funs.Nodup
  nL:s.locs.Nodup
  sM:∀k u,mget s.kM k=some u→∃(j b:Nat) (m:PMapping),s.maps[j]? =some b∧s.z.mappings[j]? =some m∧u=ptr b∧k=partK m
  sF:∀k u,mget s.kF k=some u→∃(j b:Nat) (m:PFunc),s.funs[j]? =some b∧s.z.funcs[j]? =some m∧u=ptr b∧k=fnK m
  sL:∀k u,mget s.kL k=some u→∃(j b:Nat) (m:PLoc),s.locs[j]? =some b∧s.z.locs[j]? =some m∧u=ptr b∧k=keyL s.z m
  sS:∀k u,mget s.kS k=some u→∃(j b:Nat) (m:PSample),s.sams[j]? =some b∧s.z.samples[j]? =some m∧u=ptr b∧SKey m k
  rM:∀k u,mget s.jM k=some u→∃(i j b:Nat) (m m':PMapping),x.mappings[i]? =some m∧m.id=k∧s.maps[j]? =some b∧s.z.mappings[j]? =some m'∧u=encMI (ptr b) (IntKind.i64.wrap (m'.start - m.start))∧partK m'=partK m
  rF:∀k u,mget s.jF k=some u→∃(i j b:Nat) (m m':PFunc),x.funcs[i]? =some m∧m.id=k∧s.funs[j]? =some b∧s.z.funcs[j]? =some m'∧u=ptr b∧fnK m'=fnK m
  rL:∀k u,mget s.jL k=some u→∃(i j b:Nat) (m m':PLoc),x.locs[i]? =some m∧m.id=k∧s.locs[j]? =some b∧s.z.locs[j]? =some m'∧u=ptr b∧plK s.z m'=plK x m
  wz:ZW n s.z
  bM:s.z.mappings.length≤s.cM+s.jM.length∧s.cM≤1000000
  bF:s.z.funcs.length≤s.cF+s.jF.length∧s.cF≤1000000
  bL:s.z.locs.length≤s.cL+s.jL.length∧s.cL≤1000000
theorem TbM.keep {κ:Type} {enc:κ→Value} {ms:List (κ×Value)} (h:TbM enc w b ms) (k:∀o:Obj,w.heap[b]? =some o→w'.heap[b]? =some o):TbM enc w' b ms:=by
  obtain ⟨es,ck,h1,h2⟩:=h
  exact ⟨es,ck,k _ h1,h2⟩
theorem MG.keep {x:PProf} {s:MS} {l:List Nat} (h:MG w0 x n w s) (k:KeepX l w w') (hl:∀b∈l,b∉s.hot∧¬s.cold b):MG w0 x n w' s:=by
  have kh:∀b,b∈s.hot→∀o:Obj,w.heap[b]? =some o→w'.heap[b]? =some o:=fun b hb o ho=>k.keep b o ho fun hm=>(hl b hm).1 hb
  have kc:∀(b:Nat) (o:Obj),s.cold b→w.heap[b]? =some o→w'.heap[b]? =some o:=fun b o hb ho=>k.keep b o ho fun hm=>(hl b hm).2 hb
  have hh:=h.hh
  simp only[List.mem_append,List.mem_cons,List.not_mem_nil,or_false]at hh
  obtain ⟨sa,ma,lo,fu,h1,h2,h3,h4,h5⟩:=h.prof
  exact { h with
    kp:=fun b o ho=>kc b o (h.c0 b (Array.getElem?_eq_some_iff.1 ho).1) (h.kp b o ho)
    cd:=fun b hb=>⟨Nat.lt_of_lt_of_le (h.cd b hb).1 k.size,(h.cd b hb).2⟩
    hl:=fun b hb=>Nat.lt_of_lt_of_le (h.hl b hb) k.size
    bpm:=kh _ (hh _ (by simp)) _ h.bpm
    prof:=⟨sa,ma,lo,fu,kh _ (hh _ (by simp)) _ h1,h2.keep fun b cs hb=>kh b hb _,h3.keep fun b cs hb=>kh b hb _,h4.keep fun b cs hb=>kh b hb _,h5.keep fun b cs hb=>kh b hb _⟩
    tS:=h.tS.keep (kh _ (hh _ (by simp)))
    tL:=h.tL.keep (kh _ (hh _ (by simp)))
    tF:=h.tF.keep (kh _ (hh _ (by simp)))
    tM:=h.tM.keep (kh _ (hh _ (by simp)))
    uL:=h.uL.keep (kh _ (hh _ (by simp)))
    uF:=h.uF.keep (kh _ (hh _ (by simp)))
    uM:=h.uM.keep (kh _ (hh _ (by simp)))
    oT:=h.oT.keep kc fun _=>id
    oM:=h.oM.mono fun b m q=>q.keep kc fun _=>id
    oF:=h.oF.mono fun b m q=>q.keep kc fun _=>id
    oL:=h.oL.mono fun b m q=>q.keep kc fun _=>id
    oS:=fun i b v t h1 h2 h3=>(h.oS i b v t h1 h2 h3).keep kc fun _=>id
    oV:=⟨h.oV.1,fun i b t hb ht=>kh b (hh b (.inr (List.mem_of_getElem? hb))) _ (h.oV.2 i b t hb ht)⟩ }
structure MStep (w:World) (s:MS) (w':World) (s':MS):Prop where
  kx:KeepX s.hot w w'
  hs:∀b∈s'.hot,b∈s.hot∨w.heap.size≤b
  hi:∀b∈s.hot,b∈s'.hot
  cs:∀b,s'.cold b→s.cold b∨w.heap.size≤b
  ci:∀b,s.cold b→s'.cold b
  pm:s'.pm=s.pm
  pb:s'.pb=s.pb
  per:s'.per=s.per
  ty:s'.ty=s.ty
  types:s'.types=s.types
  bl:[s'.mS,s'.mL,s'.mF,s'.mM,s'.iL,s'.iF,s'.iM]=[s.mS,s.mL,s.mF,s.mM,s.iL,s.iF,s.iM]
  gm:s.maps<+:s'.maps
  gf:s.funs<+:s'.funs
  gl:s.locs<+:s'.locs
  gz:Grows s.z s'.z
  sams:s'.sams=s.sams
  vals:s'.vals=s.vals
  kS:s'.kS=s.kS
  smp:s'.z.samples=s.z.samples
  hd:{ s'.z with mappings:=[],locs:=[],funcs:=[],samples:=[] }={ s.z with mappings:=[],locs:=[],funcs:=[],samples:=[] }
  cc:s'.cM=s.cM∧s'.cF=s.cF∧s'.cL=s.cL
theorem MStep.refl {s:MS}:MStep w s w s:=⟨KeepX.refl,fun _ h=>.inl h,fun _ h=>h,fun _ h=>.inl h,fun _ h=>h,rfl,rfl,rfl,rfl,rfl,rfl,List.prefix_rfl,List.prefix_rfl,List.prefix_rfl,Grows.refl _,rfl,rfl,rfl,rfl,rfl,rfl,rfl,rfl⟩
theorem MStep.trans {w2:World} {s s1 s2:MS} (h:MStep w s w1 s1) (k:MStep w1 s1 w2 s2):MStep w s w2 s2:=
  ⟨(h.kx.trans k.kx).drop fun b hb=>by
      rcases List.mem_append.1 hb with hb|hb
      · exact .inl hb
      · exact h.hs b hb,
    fun b hb=>by
      rcases k.hs b hb with h1|h1
      · exact h.hs b h1
      · exact .inr (Nat.le_trans h.kx.size h1),
    fun b hb=>k.hi b (h.hi b hb),fun b hb=>by
      rcases k.cs b hb with h1|h1
      · exact h.cs b h1
      · exact .inr (Nat.le_trans h.kx.size h1),
    fun b hb=>k.ci b (h.ci b hb),k.pm.trans h.pm,k.pb.trans h.pb,k.per.trans h.per,k.ty.trans h.ty,k.types.trans h.types,k.bl.trans h.bl,h.gm.trans k.gm,h.gf.trans k.gf,h.gl.trans k.gl,h.gz.trans k.gz,k.sams.trans h.sams,k.vals.trans h.vals,k.kS.trans h.kS,k.smp.trans h.smp,k.hd.trans h.hd,k.cc.1.trans h.cc.1,k.cc.2.1.trans h.cc.2.1,k.cc.2.2.trans h.cc.2.2⟩
theorem MStep.after {w2:World} {s s':MS} (h:KeepX [] w w1) (k:MStep w1 s w2 s'):MStep w s w2 s':=
  { k with kx:=⟨k.kx.os.trans h.os,k.kx.tape.trans h.tape,k.kx.output.trans h.output,Nat.le_trans h.size k.kx.size,fun b o hb hn=>k.kx.keep b o (h.keep b o hb (by simp)) hn⟩
           hs:=fun b hb=>(k.hs b hb).imp id (Nat.le_trans h.size)
           cs:=fun b hb=>(k.cs b hb).imp id (Nat.le_trans h.size) }
structure SrcT (w0:World) (x:PProf) (g:G):Prop where
 of:OfS w0 x g
 idm:(x.mappings.map (·.id)).Nodup
 idf:(x.funcs.map (·.id)).Nodup
 idl:(x.locs.map (·.id)).Nodup
 wm:∀m∈x.mappings,IntKind.u64.wrap m.id=m.id∧IntKind.u64.wrap m.start=m.start∧IntKind.u64.wrap m.limit=m.limit∧IntKind.u64.wrap m.offset=m.offset∧SzM m
 wf:∀f∈x.funcs,IntKind.i64.wrap f.start=f.start∧SzF f
 nm:x.mappings.length≤10000
 nf:x.funcs.length≤10000
 nl:x.locs.length≤10000
def MpR (x z:PProf) (i j o:Int):Prop:=(i<0∧j= -1∧o=0)∨(0≤i∧0≤j∧∃m m',x.mappings[i.toNat]? =some m∧z.mappings[j.toNat]? =some m'∧o=IntKind.i64.wrap (m'.start - m.start)∧partK m'=partK m)
theorem keys_len {κ:Type} [DecidableEq κ] {ms:List (κ×Value)} {ids:List κ} (hn:(ms.map (·.1)).Nodup) (hs:∀k u,mget ms k=some u→k∈ids):ms.length≤ids.length:=by
 have:=hn.length_le_of_subset (l₂:=ids) fun k hk=>by
  cases hg:mget ms k with
  |none=>exact absurd hk (mget_none.1 hg)
  |some u=>exact hs k u hg
 simpa using this
theorem MG.jm {x:PProf} {s:MS} (h:MG w0 x n w s):s.jM.length≤x.mappings.length:=by
 obtain ⟨e1,k1, -,hM⟩:=h.uM
 have:=keys_len (ids:=x.mappings.map (·.id)) hM.keys fun k u hu=>by
  obtain ⟨i,_,_,m,_,h1,h2, -⟩:=h.rM k u hu
  exact List.mem_map.2 ⟨m,List.mem_of_getElem? h1,h2⟩
 simpa using this
theorem Hp.newOr {f:Fm} {es:Heap} {L:List Nat} (h:Hp f w' (y::(es++restH w L))) (he:y.ex=true):y.b∈L∨w.heap.size≤y.b:=by
 by_cases hb:y.b∈L
 ·exact .inl hb
 ·by_cases hlt:y.b<w.heap.size
  ·have hm:(⟨y.b,0,[],false,false,w.heap[y.b]?⟩:Ent)∈restH w L:=List.mem_map.2 ⟨y.b,by simp[hlt,hb],rfl⟩
   exact absurd (show (⟨y.b,0,[],false,false,w.heap[y.b]?⟩:Ent).b=y.b from rfl) (h.2.2.1 he ⟨y.b,0,[],false,false,w.heap[y.b]?⟩ (List.mem_append_right _ hm) (by simp[Ent.ex,hlt]))
  ·exact .inr (by omega)
theorem KeepX.same {L m:List Nat} (k:KeepX L w w') (h:∀b∈L,b∈m∨∀o:Obj,w.heap[b]? =some o→w'.heap[b]? =some o):KeepX m w w':=
 ⟨k.os,k.tape,k.output,k.size,fun b o hb hn=>by
  by_cases hL:b∈L
  ·rcases h b hL with h1|h1
   ·exact absurd h1 hn
   ·exact h1 o hb
  ·exact k.keep b o hb hL⟩
structure MCool (w0:World) (x:PProf) (n:Nat) (w:World) (s:MS):Prop where
 kp:Keep w0 w
 cd:∀b,s.cold b→b<w.heap.size∧b∉s.hot
 hl:∀b∈s.hot,b<w.heap.size
 oT:On s.cold w fun w=>OS pVT 1 w s.ty (s.types.map ptr)∧Each s.types s.z.types (fun b t=>Blk w b tVT (cVT t))∧Blk w s.per tVT (cVT s.z.per)
 oM:Each s.maps s.z.mappings fun b m=>On s.cold w fun w=>Blk w b tMap (cMap m)
 oF:Each s.funs s.z.funcs fun b f=>On s.cold w fun w=>Blk w b tFun (cFun f)
 oL:Each s.locs s.z.locs fun b l=>On s.cold w fun w=>LocP w s.maps s.funs b l
 oS:∀(i b v:Nat) (t:PSample),s.sams[i]? =some b→s.vals[i]? =some v→s.z.samples[i]? =some t→On s.cold w (SamC s.locs b v n t)
theorem MG.cool {x:PProf} {s:MS} (h:MG w0 x n w s) {l:List Nat} (k:KeepX l w w') (hl:∀b∈l,b∈s.hot):MCool w0 x n w' s:=by
 have kc:∀(b:Nat) (o:Obj),s.cold b→w.heap[b]? =some o→w'.heap[b]? =some o:=fun b o hb ho=>k.keep b o ho fun hm=>(h.cd b hb).2 (hl b hm)
 exact { kp:=fun b o ho=>kc b o (h.c0 b (Array.getElem?_eq_some_iff.1 ho).1) (h.kp b o ho)
         cd:=fun b hb=>⟨Nat.lt_of_lt_of_le (h.cd b hb).1 k.size,(h.cd b hb).2⟩
         hl:=fun b hb=>Nat.lt_of_lt_of_le (h.hl b hb) k.size
         oT:=h.oT.keep kc fun _=>id
         oM:=h.oM.mono fun b m q=>q.keep kc fun _=>id
         oF:=h.oF.mono fun b m q=>q.keep kc fun _=>id
         oL:=h.oL.mono fun b m q=>q.keep kc fun _=>id
         oS:=fun i b v t h1 h2 h3=>(h.oS i b v t h1 h2 h3).keep kc fun _=>id }
theorem mset_len {κ:Type} [DecidableEq κ] {ms:List (κ×Value)} {k:κ} {v:Value} (h:mget ms k=none):(mset ms k v).length=ms.length+1:=by
 rw[mset_new (mget_none.1 h)];simp
theorem mset_le {κ:Type} [DecidableEq κ]:∀(ms:List (κ×Value)) (k:κ) (v:Value),ms.length≤(mset ms k v).length
 |[],_,_=>Nat.zero_le _
 |(k',u)::r,k,v=>by
     simp only[mset]
     split
     ·exact Nat.le_refl _
     ·have:=mset_le r k v
      simp;omega
theorem MG.setM {x:PProf} {s:MS} (h:MG w0 x n w s) (k:KeepX [s.iM] w w') {id:Int} (hm:TbM (Value.int .u64) w' s.iM (mset s.jM id u))
  (hu:∃(i j b:Nat) (m m':PMapping),x.mappings[i]? =some m∧m.id=id∧s.maps[j]? =some b∧s.z.mappings[j]? =some m'∧u=encMI (ptr b) (IntKind.i64.wrap (m'.start - m.start))∧partK m'=partK m):
  MG w0 x n w' { s with jM:=mset s.jM id u }∧MStep w s w' { s with jM:=mset s.jM id u }:=by
 have hh:=h.hh
 simp only[List.mem_append,List.mem_cons,List.not_mem_nil,or_false]at hh
 have hi:s.iM∈s.hot:=hh _ (by simp)
 have C:=h.cool k fun b hb=>by rw[List.mem_singleton.1 hb];exact hi
 obtain ⟨e1,k1,hm1, -⟩:=h.uM
 have kb:∀{b T:Nat} {cs:List Value},Blk w b T cs→Blk w' b T cs:=fun hb=>k.blk hb fun hm=>map_neB hm1 hb (List.mem_singleton.1 hm).symm
 have km:∀b,b≠s.iM→∀o:Obj,w.heap[b]? =some o→w'.heap[b]? =some o:=fun b hb o ho=>k.keep b o ho fun hm=>hb (List.mem_singleton.1 hm)
 have hnd:=h.nd
 simp only[List.nodup_cons,List.mem_cons,List.not_mem_nil,or_false,not_or]at hnd
 obtain ⟨sa,ma,lo,fu,h1,h2,h3,h4,h5⟩:=h.prof
 refine ⟨{ h with
  kp:=C.kp,cd:=C.cd,hl:=C.hl,oT:=C.oT,oM:=C.oM,oF:=C.oF,oL:=C.oL,oS:=C.oS
  bpm:=kb h.bpm
  prof:=⟨sa,ma,lo,fu,kb h1,h2.keep fun b cs _=>kb,h3.keep fun b cs _=>kb,h4.keep fun b cs _=>kb,h5.keep fun b cs _=>kb⟩
  tS:=h.tS.keep (km _ (by omega))
  tL:=h.tL.keep (km _ (by omega))
  tF:=h.tF.keep (km _ (by omega))
  tM:=h.tM.keep (km _ (by omega))
  uL:=h.uL.keep (km _ (by omega))
  uF:=h.uF.keep (km _ (by omega))
  uM:=hm
  oV:=⟨h.oV.1,fun i b t hb ht=>kb (h.oV.2 i b t hb ht)⟩
  rM:=fun k' u' hk=>by
   rw[mget_mset]at hk
   split at hk
   ·next e=>subst e;cases hk;exact hu
   ·exact h.rM k' u' hk
  bM:=⟨by have:=h.bM.1;have:=mset_le s.jM id u;show s.z.mappings.length≤s.cM+(mset s.jM id u).length;omega,h.bM.2⟩ },?_⟩
 exact { MStep.refl (w:=w) (s:=s) with
  kx:=k.drop fun b hb=>.inl (by rw[List.mem_singleton.1 hb];exact hi) }
theorem pairs_ne {T:Nat} {cs:List Value} (hb:Blk w b T cs) {pb iM mM:Nat} {ds:List Value} {e1 e2:Array MapEntry} {k1 k2:Nat} {U V:Nat} (h1:Blk w pb U ds) (h2:w.heap[iM]? =some (.map e1 k1)) (h3:w.heap[mM]? =some (.map e2 k2)) (h4:y.on=true→Blk w y.b V y.cs) (n1:T≠U) (n2:T≠V):b∉[pb,iM,mM]++rowL y:=fun hm=>by
 rcases List.mem_append.1 hm with hm|hm
 ·simp only[List.mem_cons,List.not_mem_nil,or_false]at hm
  rcases hm with rfl|rfl|rfl
  ·exact hb.ne h1 n1 rfl
  ·exact map_neB h2 hb rfl
  ·exact map_neB h3 hb rfl
 ·unfold rowL at hm
  split at hm
  ·next ho=>exact hb.ne (h4 ho) n2 (List.mem_singleton.1 hm)
  ·cases hm
theorem map_nin {e0:Array MapEntry} {k0:Nat} (hb:w.heap[b]? =some (.map e0 k0)) {pb iM mM:Nat} {ds:List Value} {U V:Nat} (h1:Blk w pb U ds) (h4:y.on=true→Blk w y.b V y.cs) (n1:b≠iM) (n2:b≠mM):b∉[pb,iM,mM]++rowL y:=fun hm=>by
 rcases List.mem_append.1 hm with hm|hm
 ·simp only[List.mem_cons,List.not_mem_nil,or_false]at hm
  rcases hm with rfl|rfl|rfl
  ·exact map_neB hb h1 rfl
  ·exact n1 rfl
  ·exact n2 rfl
 ·unfold rowL at hm
  split at hm
  ·next ho=>exact map_neB hb (h4 ho) (List.mem_singleton.1 hm)
  ·cases hm
theorem mem_rowL' (h:b∈rowL y):y.on=true∧b=y.b:=by
 unfold rowL at h
 split at h
 ·next ho=>exact ⟨ho,List.mem_singleton.1 h⟩
 ·cases h
theorem Each.snoc {α:Type} {xs:List α} {φ ψ:Nat→α→Prop} {x:α} (h:Each bs xs φ) (k:∀b x,φ b x→ψ b x) (hb:ψ b x):Each (bs++[b]) (xs++[x]) ψ:=by
 refine ⟨by rw[List.length_append,List.length_append,h.1];rfl,fun i c y hc hy=>?_⟩
 by_cases hi:i<bs.length
 ·rw[List.getElem?_append_left hi]at hc
  rw[List.getElem?_append_left (by rw[← h.1];exact hi)]at hy
  exact k _ _ (h.2 i c y hc hy)
 ·rw[List.getElem?_append_right (by omega)]at hc
  rw[List.getElem?_append_right (by rw[← h.1];omega), ← h.1]at hy
  have:=(List.getElem?_eq_some_iff.1 hc).1
  simp at this
  have:i - bs.length=0:=by omega
  rw[this]at hc hy
  simp at hc hy
  subst hc;subst hy;exact hb
theorem snoc_get {α:Type} {xs:List α} {x y:α} (h:(xs++[x])[i]? =some y):xs[i]? =some y∨(i=xs.length∧y=x):=by
 by_cases hi:i<xs.length
 ·rw[List.getElem?_append_left hi]at h;exact .inl h
 ·rw[List.getElem?_append_right (by omega)]at h
  have:=(List.getElem?_eq_some_iff.1 h).1
  simp at this
  have e:i=xs.length:=by omega
  subst e
  simp at h
  exact .inr ⟨rfl,h.symm⟩
theorem get_snoc {α:Type} {xs:List α} {x y:α} (h:xs[i]? =some y):(xs++[x])[i]? =some y:=by rw[List.getElem?_append_left (List.getElem?_eq_some_iff.1 h).1];exact h
theorem get_last {α:Type} {xs:List α} {x:α} (h:i=xs.length):(xs++[x])[i]? =some x:=by subst h;simp
theorem keyL_grows {x y:PProf} {l:PLoc} (h:x.mappings<+:y.mappings) (hm:l.mapping<x.mappings.length):keyL y l=keyL x l:=by unfold keyL;rw[atZ_pre h hm]
theorem MG.plK_up {x y:PProf} (hw:ZW n x) (h:Grows x y) {j:Nat} {l:PLoc} (hl:x.locs[j]? =some l):plK y l=plK x l:=by
 obtain ⟨-,h2, -,h3, -⟩:=hw.lc j l hl
 exact plK_grows h h2.2 fun n hn=>(h3 n hn).1.2
theorem ptrAt_snoc {z:Int} (h:z<bs.length):ptrAt (bs++[b]) z=ptrAt bs z:=by
 unfold ptrAt
 split
 ·rw[List.getElem?_append_left (by omega)]
 ·rfl
theorem LocP.upM {maps funs:List Nat} {l:PLoc} (h:LocP w maps funs b l) (hm:l.mapping<maps.length):LocP w (maps++[c]) funs b l:=by
 obtain ⟨ls,h1,h2⟩:=h.ex
 exact ⟨ls,by unfold cLoc at h1⊢;rw[ptrAt_snoc hm];exact h1,h2⟩
set_option maxHeartbeats 2000000 in
theorem MG.newM {x:PProf} {s:MS} (h:MG w0 x n w s) {L:List Nat} {sa lo fu:Value} {y':Ent} {p':Option Addr} {c' bn:Nat} {m m2:PMapping} (hLe:L=[s.pb,s.iM,s.mM]++rowL y) (k:KeepX L w w')
  (hpb:Blk w s.pb tProf (cProf s.z s.ty sa (.slice p l c) lo fu (.slice none 0 0) s.per)) (hsa:OSp (· ∈s.hot) pSam 1 w sa (s.sams.map ptr)) (hy:y.on=true→Blk w y.b pMap y.cs∧y.b∈s.hot) (hlo:OSp (· ∈s.hot) pLoc 1 w lo (s.locs.map ptr)) (hfu:OSp (· ∈s.hot) pFun 1 w fu (s.funs.map ptr))
  (hpb':Blk w' s.pb tProf (cProf s.z s.ty sa (.slice p' (l+1) c') lo fu (.slice none 0 0) s.per)) (hO':Own pMap 1 y' p' (l+1) c' (s.maps.map ptr++[ptr bn])) (hy':y'.on=true→Blk w' y'.b pMap y'.cs) (hyn:y'.on=true→y'.b∈L∨w.heap.size≤y'.b)
  (hbn:Blk w' bn tMap (cMap m2)) (hbg:w.heap.size≤bn) (hm2:m2={ m with id:=(s.maps.length:Int)+1 }) (hI:TbM (Value.int .u64) w' s.iM (mset s.jM m.id (encMI (ptr bn) 0))) (hM:TbM encMp w' s.mM (mset s.kM (partK m) (ptr bn)))
  (hx:x.mappings[i]? =some m) (hwm:IntKind.u64.wrap m.start=m.start∧IntKind.u64.wrap m.limit=m.limit∧IntKind.u64.wrap m.offset=m.offset∧SzM m) (hno:mget s.jM m.id=none):
  ∃s':MS,MG w0 x n w' s'∧MStep w s w' s'∧s'.maps=s.maps++[bn]∧s'.z.mappings=s.z.mappings++[m2]∧(s'.z.locs,s'.jL)=(s.z.locs,s.jL)∧s'.z.funcs=s.z.funcs:=by
 have hh:=h.hh
 simp only[List.mem_append,List.mem_cons,List.not_mem_nil,or_false]at hh
 have hLh:∀b∈L,b∈s.hot:=fun b hb=>by
  subst hLe
  rcases List.mem_append.1 hb with hb|hb
  ·simp only[List.mem_cons,List.not_mem_nil,or_false]at hb
   rcases hb with rfl|rfl|rfl<;>exact hh _ (by simp)
  ·obtain ⟨ho,rfl⟩:=mem_rowL' hb
   exact (hy ho).2
 have C:=h.cool k hLh
 obtain ⟨e1,k1,hm1, -⟩:=h.uM
 obtain ⟨e2,k2,hm2', -⟩:=h.tM
 have hnd:=h.nd
 simp only[List.nodup_cons,List.mem_cons,List.not_mem_nil,or_false,not_or]at hnd
 have kb:∀{b T:Nat} {cs:List Value},Blk w b T cs→T≠tProf→T≠pMap→Blk w' b T cs:=fun hb n1 n2=>k.blk hb (by rw[hLe];exact pairs_ne hb hpb hm1 hm2' (fun ho=>(hy ho).1) n1 n2)
 have km:∀{b:Nat} {e0:Array MapEntry} {k0:Nat},w.heap[b]? =some (.map e0 k0)→b≠s.iM→b≠s.mM→w'.heap[b]? =some (.map e0 k0):=fun hb n1 n2=>k.keep _ _ hb (by rw[hLe];exact map_nin hb hpb (fun ho=>(hy ho).1) n1 n2)
 have kt:∀{κ:Type} {enc:κ→Value} {b:Nat} {ms:List (κ×Value)},TbM enc w b ms→b≠s.iM→b≠s.mM→TbM enc w' b ms:=fun ⟨es,ck,q1,q2⟩ n1 n2=>⟨es,ck,km q1 n1 n2,q2⟩
 have dmS:s.mS≠s.iM∧s.mS≠s.mM:=by constructor<;>omega
 have dmL:s.mL≠s.iM∧s.mL≠s.mM:=by constructor<;>omega
 have dmF:s.mF≠s.iM∧s.mF≠s.mM:=by constructor<;>omega
 have diL:s.iL≠s.iM∧s.iL≠s.mM:=by constructor<;>omega
 have diF:s.iF≠s.iM∧s.iF≠s.mM:=by constructor<;>omega
 clear hnd
 have hlen:=h.oM.1
 have hbl:bn<w'.heap.size:=hbn.lt
 have hyb:∀b∈rowL y',b∈s.hot∨w.heap.size≤b:=fun b hb=>by
  obtain ⟨ho,rfl⟩:=mem_rowL' hb
  exact (hyn ho).imp (hLh _) id
 have hG:Grows s.z { s.z with mappings:=s.z.mappings++[m2] }:=⟨List.prefix_append _ _,List.prefix_rfl,List.prefix_rfl⟩
 have hpk:partK m2=partK m:=by rw[hm2];rfl
 have cold0:∀b,s.cold b→b<w.heap.size:=fun b hb=>(h.cd b hb).1
 refine ⟨{ s with kM:=mset s.kM (partK m) (ptr bn),jM:=mset s.jM m.id (encMI (ptr bn) 0),maps:=s.maps++[bn],z:={ s.z with mappings:=s.z.mappings++[m2] },hot:=rowL y'++s.hot,cold:=fun b=>s.cold b∨b=bn },?_,?_,rfl,rfl,rfl,rfl⟩
 ·exact {
   kp:=C.kp
   c0:=fun b hb=>.inl (h.c0 b hb)
   cd:=fun b hb=>by
    rcases hb with hb|rfl
    ·refine ⟨(C.cd b hb).1,fun hm=>?_⟩
     rcases List.mem_append.1 hm with hm|hm
     ·rcases hyb b hm with q|q
      ·exact (C.cd b hb).2 q
      ·have:=cold0 b hb;omega
     ·exact (C.cd b hb).2 hm
    ·refine ⟨hbl,fun hm=>?_⟩
     rcases List.mem_append.1 hm with hm|hm
     ·obtain ⟨ho,e⟩:=mem_rowL' hm
      exact hbn.ne (hy' ho) (by decide) e
     ·have:=h.hl _ hm;omega
   hl:=fun b hb=>by
    rcases List.mem_append.1 hb with hb|hb
    ·obtain ⟨ho,rfl⟩:=mem_rowL' hb
     exact (hy' ho).lt
    ·exact C.hl b hb
   hh:=fun b hb=>List.mem_append_right _ (h.hh b hb)
   nd:=h.nd
   bpm:=kb h.bpm (by decide) (by decide)
   prof:=⟨sa,.slice p' (l+1) c',lo,fu,hpb',(hsa.keep fun b cs _ hb=>kb hb (by decide) (by decide)).mono fun b cs hb hk=>⟨hk,List.mem_append_right _ hb⟩,⟨y',p',l+1,c',rfl,by simpa using hO',fun ho=>⟨hy' ho,List.mem_append_left _ (by simp[rowL,ho])⟩⟩,(hlo.keep fun b cs _ hb=>kb hb (by decide) (by decide)).mono fun b cs hb hk=>⟨hk,List.mem_append_right _ hb⟩,(hfu.keep fun b cs _ hb=>kb hb (by decide) (by decide)).mono fun b cs hb hk=>⟨hk,List.mem_append_right _ hb⟩⟩
   tS:=kt (b:=s.mS) h.tS dmS.1 dmS.2
   tL:=kt (b:=s.mL) h.tL dmL.1 dmL.2
   tF:=kt (b:=s.mF) h.tF dmF.1 dmF.2
   tM:=hM
   uL:=kt (b:=s.iL) h.uL diL.1 diL.2
   uF:=kt (b:=s.iF) h.uF diF.1 diF.2
   uM:=hI
   oT:=C.oT.keep (fun _ _ _ q=>q) fun _=>.inl
   oM:=C.oM.snoc (fun b m q=>q.keep (fun _ _ _ q=>q) fun _=>.inl) (On.blk hbn (.inr rfl))
   oF:=C.oF.mono fun b m q=>q.keep (fun _ _ _ q=>q) fun _=>.inl
   oL:=⟨C.oL.1,fun j b lc hb hl=>((C.oL.2 j b lc hb hl).imp fun w q=>q.upM (by rw[hlen];exact (h.wz.lc j lc hl).2.1.2)).keep (fun _ _ _ q=>q) fun _=>.inl⟩
   oS:=fun j b v t h1 h2 h3=>(C.oS j b v t h1 h2 h3).keep (fun _ _ _ q=>q) fun _=>.inl
   oV:=⟨h.oV.1,fun j b t hb ht=>kb (h.oV.2 j b t hb ht) (by decide) (by decide)⟩
   lS:=h.lS
   nV:=h.nV
   nM:=List.nodup_append.2 ⟨h.nM,by simp,fun a ha b hb e=>by
    obtain rfl:=List.mem_singleton.1 hb
    subst e
    obtain ⟨j,hj⟩:=List.mem_iff_getElem?.1 ha
    have hjl:=(List.getElem?_eq_some_iff.1 hj).1
    have:=((h.oM.2 j _ _ hj (List.getElem?_eq_getElem (by omega))).now).lt
    omega⟩
   nF:=h.nF
   nL:=h.nL
   sM:=fun k' u hk=>by
    rw[mget_mset]at hk
    split at hk
    ·next e=>
     subst e;cases hk
     exact ⟨s.maps.length,bn,m2,get_last rfl,get_last hlen,rfl,hpk.symm⟩
    ·obtain ⟨j,b,m0,q1,q2,q3,q4⟩:=h.sM k' u hk
     exact ⟨j,b,m0,get_snoc q1,get_snoc q2,q3,q4⟩
   sF:=h.sF
   sL:=fun k' u hk=>by
    obtain ⟨j,b,m0,q1,q2,q3,q4⟩:=h.sL k' u hk
    exact ⟨j,b,m0,q1,q2,q3,q4.trans (keyL_grows hG.m (h.wz.lc j m0 q2).2.1.2).symm⟩
   sS:=h.sS
   rM:=fun k' u hk=>by
    rw[mget_mset]at hk
    split at hk
    ·next e=>
     subst e;cases hk
     refine ⟨i,s.maps.length,bn,m,m2,hx,rfl,get_last rfl,get_last hlen,?_,hpk⟩
     have:m2.start - m.start=0:=by rw[hm2];exact Int.sub_self _
     rw[this];rfl
    ·obtain ⟨i0,j,b,m0,m1,q1,q2,q3,q4,q5,q6⟩:=h.rM k' u hk
     exact ⟨i0,j,b,m0,m1,q1,q2,get_snoc q3,get_snoc q4,q5,q6⟩
   rF:=h.rF
   rL:=fun k' u hk=>by
    obtain ⟨i0,j,b,m0,m1,q1,q2,q3,q4,q5,q6⟩:=h.rL k' u hk
    exact ⟨i0,j,b,m0,m1,q1,q2,q3,q4,q5,by rw[MG.plK_up h.wz hG q4];exact q6⟩
   wz:=⟨fun j m0 hj=>by
     rcases snoc_get hj with hj|⟨rfl,rfl⟩
     ·exact h.wz.mp j m0 hj
     ·rw[hm2];exact ⟨by show (s.maps.length:Int)+1=_;rw[hlen],hwm⟩,h.wz.fn,fun j l0 hj=>by
     obtain ⟨q1,q2,q3⟩:=h.wz.lc j l0 hj
     exact ⟨q1,⟨q2.1,by have:=q2.2;show l0.mapping<((s.z.mappings++[m2]).length:Int);simp;omega⟩,q3⟩,h.wz.sm⟩
   bM:=⟨by have:=h.bM.1;show (s.z.mappings++[m2]).length≤s.cM+(mset s.jM m.id _).length;rw[mset_len hno];simp;omega,h.bM.2⟩
   bF:=h.bF
   bL:=h.bL }
 ·exact {
   kx:=k.drop fun b hb=>.inl (hLh b hb)
   hs:=fun b hb=>(List.mem_append.1 hb).elim (hyb b) .inl
   hi:=fun b hb=>List.mem_append_right _ hb
   cs:=fun b hb=>hb.imp id fun e=>by subst e;exact hbg
   ci:=fun b hb=>.inl hb
   pm:=rfl,pb:=rfl,per:=rfl,ty:=rfl,types:=rfl,bl:=rfl
   gm:=List.prefix_append _ _,gf:=List.prefix_rfl,gl:=List.prefix_rfl,gz:=hG
   sams:=rfl,vals:=rfl,kS:=rfl,smp:=rfl,hd:=rfl,cc:=⟨rfl,rfl,rfl⟩ }
theorem MG.jf {x:PProf} {s:MS} (h:MG w0 x n w s):s.jF.length≤x.funcs.length:=by
 obtain ⟨e1,k1, -,hM⟩:=h.uF
 have:=keys_len (ids:=x.funcs.map (·.id)) hM.keys fun k u hu=>by
  obtain ⟨i,_,_,m,_,h1,h2, -⟩:=h.rF k u hu
  exact List.mem_map.2 ⟨m,List.mem_of_getElem? h1,h2⟩
 simpa using this
theorem LocP.upF {maps funs:List Nat} {l:PLoc} (h:LocP w maps funs b l) (hm:∀n∈l.lines,n.fn<funs.length):LocP w maps (funs++[c]) b l:=by
 obtain ⟨ls,h1,h2⟩:=h.ex
 have e:l.lines.flatMap (cLine (funs++[c]))=l.lines.flatMap (cLine funs):=by
  rw[List.flatMap_def,List.flatMap_def,List.map_congr_left fun n hn=>show cLine (funs++[c]) n=cLine funs n by unfold cLine;rw[ptrAt_snoc (hm n hn)]]
 exact ⟨ls,h1,by rw[e];exact h2⟩
theorem MG.setF {x:PProf} {s:MS} (h:MG w0 x n w s) (k:KeepX [s.iF] w w') {id:Int} (hm:TbM (Value.int .u64) w' s.iF (mset s.jF id u))
  (hu:∃(i j b:Nat) (m m':PFunc),x.funcs[i]? =some m∧m.id=id∧s.funs[j]? =some b∧s.z.funcs[j]? =some m'∧u=ptr b∧fnK m'=fnK m):
  MG w0 x n w' { s with jF:=mset s.jF id u }∧MStep w s w' { s with jF:=mset s.jF id u }:=by
 have hh:=h.hh
 simp only[List.mem_append,List.mem_cons,List.not_mem_nil,or_false]at hh
 have hi:s.iF∈s.hot:=hh _ (by simp)
 have C:=h.cool k fun b hb=>by rw[List.mem_singleton.1 hb];exact hi
 obtain ⟨e1,k1,hm1, -⟩:=h.uF
 have kb:∀{b T:Nat} {cs:List Value},Blk w b T cs→Blk w' b T cs:=fun hb=>k.blk hb fun hm=>map_neB hm1 hb (List.mem_singleton.1 hm).symm
 have km:∀b,b≠s.iF→∀o:Obj,w.heap[b]? =some o→w'.heap[b]? =some o:=fun b hb o ho=>k.keep b o ho fun hm=>hb (List.mem_singleton.1 hm)
 have hnd:=h.nd
 simp only[List.nodup_cons,List.mem_cons,List.not_mem_nil,or_false,not_or]at hnd
 obtain ⟨sa,ma,lo,fu,h1,h2,h3,h4,h5⟩:=h.prof
 refine ⟨{ h with
  kp:=C.kp,cd:=C.cd,hl:=C.hl,oT:=C.oT,oM:=C.oM,oF:=C.oF,oL:=C.oL,oS:=C.oS
  bpm:=kb h.bpm
  prof:=⟨sa,ma,lo,fu,kb h1,h2.keep fun b cs _=>kb,h3.keep fun b cs _=>kb,h4.keep fun b cs _=>kb,h5.keep fun b cs _=>kb⟩
  tS:=h.tS.keep (km _ (by omega))
  tL:=h.tL.keep (km _ (by omega))
  tF:=h.tF.keep (km _ (by omega))
  tM:=h.tM.keep (km _ (by omega))
  uL:=h.uL.keep (km _ (by omega))
  uF:=hm
  uM:=h.uM.keep (km _ (by omega))
  oV:=⟨h.oV.1,fun i b t hb ht=>kb (h.oV.2 i b t hb ht)⟩
  rF:=fun k' u' hk=>by
   rw[mget_mset]at hk
   split at hk
   ·next e=>subst e;cases hk;exact hu
   ·exact h.rF k' u' hk
  bF:=⟨by have:=h.bF.1;have:=mset_le s.jF id u;show s.z.funcs.length≤s.cF+(mset s.jF id u).length;omega,h.bF.2⟩ },?_⟩
 exact { MStep.refl (w:=w) (s:=s) with
  kx:=k.drop fun b hb=>.inl (by rw[List.mem_singleton.1 hb];exact hi) }
set_option maxHeartbeats 2000000 in
theorem MG.newF {x:PProf} {s:MS} (h:MG w0 x n w s) {L:List Nat} {sa ma lo:Value} {y':Ent} {p':Option Addr} {c' bn:Nat} {m m2:PFunc} (hLe:L=[s.pb,s.iF,s.mF]++rowL y) (k:KeepX L w w')
  (hpb:Blk w s.pb tProf (cProf s.z s.ty sa ma lo (.slice p l c) (.slice none 0 0) s.per)) (hsa:OSp (· ∈s.hot) pSam 1 w sa (s.sams.map ptr)) (hy:y.on=true→Blk w y.b pFun y.cs∧y.b∈s.hot) (hma:OSp (· ∈s.hot) pMap 1 w ma (s.maps.map ptr)) (hlo:OSp (· ∈s.hot) pLoc 1 w lo (s.locs.map ptr))
  (hpb':Blk w' s.pb tProf (cProf s.z s.ty sa ma lo (.slice p' (l+1) c') (.slice none 0 0) s.per)) (hO':Own pFun 1 y' p' (l+1) c' (s.funs.map ptr++[ptr bn])) (hy':y'.on=true→Blk w' y'.b pFun y'.cs) (hyn:y'.on=true→y'.b∈L∨w.heap.size≤y'.b)
  (hbn:Blk w' bn tFun (cFun m2)) (hbg:w.heap.size≤bn) (hm2:m2={ m with id:=(s.funs.length:Int)+1 }) (hI:TbM (Value.int .u64) w' s.iF (mset s.jF m.id (ptr bn))) (hM:TbM encFc w' s.mF (mset s.kF (fnK m) (ptr bn)))
  (hx:x.funcs[i]? =some m) (hwm:IntKind.i64.wrap m.start=m.start∧SzF m) (hno:mget s.jF m.id=none):
  ∃s':MS,MG w0 x n w' s'∧MStep w s w' s'∧s'.funs=s.funs++[bn]∧s'.z.funcs=s.z.funcs++[m2]∧(s'.z.locs,s'.jL)=(s.z.locs,s.jL)∧s'.z.mappings=s.z.mappings:=by
 have hh:=h.hh
 simp only[List.mem_append,List.mem_cons,List.not_mem_nil,or_false]at hh
 have hLh:∀b∈L,b∈s.hot:=fun b hb=>by
  subst hLe
  rcases List.mem_append.1 hb with hb|hb
  ·simp only[List.mem_cons,List.not_mem_nil,or_false]at hb
   rcases hb with rfl|rfl|rfl<;>exact hh _ (by simp)
  ·obtain ⟨ho,rfl⟩:=mem_rowL' hb
   exact (hy ho).2
 have C:=h.cool k hLh
 obtain ⟨e1,k1,hm1, -⟩:=h.uF
 obtain ⟨e2,k2,hm2', -⟩:=h.tF
 have hnd:=h.nd
 simp only[List.nodup_cons,List.mem_cons,List.not_mem_nil,or_false,not_or]at hnd
 have kb:∀{b T:Nat} {cs:List Value},Blk w b T cs→T≠tProf→T≠pFun→Blk w' b T cs:=fun hb n1 n2=>k.blk hb (by rw[hLe];exact pairs_ne hb hpb hm1 hm2' (fun ho=>(hy ho).1) n1 n2)
 have km:∀{b:Nat} {e0:Array MapEntry} {k0:Nat},w.heap[b]? =some (.map e0 k0)→b≠s.iF→b≠s.mF→w'.heap[b]? =some (.map e0 k0):=fun hb n1 n2=>k.keep _ _ hb (by rw[hLe];exact map_nin hb hpb (fun ho=>(hy ho).1) n1 n2)
 have kt:∀{κ:Type} {enc:κ→Value} {b:Nat} {ms:List (κ×Value)},TbM enc w b ms→b≠s.iF→b≠s.mF→TbM enc w' b ms:=fun ⟨es,ck,q1,q2⟩ n1 n2=>⟨es,ck,km q1 n1 n2,q2⟩
 have dmS:s.mS≠s.iF∧s.mS≠s.mF:=by constructor<;>omega
 have dmL:s.mL≠s.iF∧s.mL≠s.mF:=by constructor<;>omega
 have dmM:s.mM≠s.iF∧s.mM≠s.mF:=by constructor<;>omega
 have diL:s.iL≠s.iF∧s.iL≠s.mF:=by constructor<;>omega
 have diM:s.iM≠s.iF∧s.iM≠s.mF:=by constructor<;>omega
 clear hnd
 have hlen:=h.oF.1
 have hbl:bn<w'.heap.size:=hbn.lt
 have hyb:∀b∈rowL y',b∈s.hot∨w.heap.size≤b:=fun b hb=>by
  obtain ⟨ho,rfl⟩:=mem_rowL' hb
  exact (hyn ho).imp (hLh _) id
 have hG:Grows s.z { s.z with funcs:=s.z.funcs++[m2] }:=⟨List.prefix_rfl,List.prefix_append _ _,List.prefix_rfl⟩
 have hpk:fnK m2=fnK m:=by rw[hm2];rfl
 have cold0:∀b,s.cold b→b<w.heap.size:=fun b hb=>(h.cd b hb).1
 refine ⟨{ s with kF:=mset s.kF (fnK m) (ptr bn),jF:=mset s.jF m.id (ptr bn),funs:=s.funs++[bn],z:={ s.z with funcs:=s.z.funcs++[m2] },hot:=rowL y'++s.hot,cold:=fun b=>s.cold b∨b=bn },?_,?_,rfl,rfl,rfl,rfl⟩
 ·exact {
   kp:=C.kp
   c0:=fun b hb=>.inl (h.c0 b hb)
   cd:=fun b hb=>by
    rcases hb with hb|rfl
    ·refine ⟨(C.cd b hb).1,fun hm=>?_⟩
     rcases List.mem_append.1 hm with hm|hm
     ·rcases hyb b hm with q|q
      ·exact (C.cd b hb).2 q
      ·have:=cold0 b hb;omega
     ·exact (C.cd b hb).2 hm
    ·refine ⟨hbl,fun hm=>?_⟩
     rcases List.mem_append.1 hm with hm|hm
     ·obtain ⟨ho,e⟩:=mem_rowL' hm
      exact hbn.ne (hy' ho) (by decide) e
     ·have:=h.hl _ hm;omega
   hl:=fun b hb=>by
    rcases List.mem_append.1 hb with hb|hb
    ·obtain ⟨ho,rfl⟩:=mem_rowL' hb
     exact (hy' ho).lt
    ·exact C.hl b hb
   hh:=fun b hb=>List.mem_append_right _ (h.hh b hb)
   nd:=h.nd
   bpm:=kb h.bpm (by decide) (by decide)
   prof:=⟨sa,ma,lo,.slice p' (l+1) c',hpb',(hsa.keep fun b cs _ hb=>kb hb (by decide) (by decide)).mono fun b cs hb hk=>⟨hk,List.mem_append_right _ hb⟩,(hma.keep fun b cs _ hb=>kb hb (by decide) (by decide)).mono fun b cs hb hk=>⟨hk,List.mem_append_right _ hb⟩,(hlo.keep fun b cs _ hb=>kb hb (by decide) (by decide)).mono fun b cs hb hk=>⟨hk,List.mem_append_right _ hb⟩,⟨y',p',l+1,c',rfl,by simpa using hO',fun ho=>⟨hy' ho,List.mem_append_left _ (by simp[rowL,ho])⟩⟩⟩
   tS:=kt (b:=s.mS) h.tS dmS.1 dmS.2
   tL:=kt (b:=s.mL) h.tL dmL.1 dmL.2
   tF:=hM
   tM:=kt (b:=s.mM) h.tM dmM.1 dmM.2
   uL:=kt (b:=s.iL) h.uL diL.1 diL.2
   uF:=hI
   uM:=kt (b:=s.iM) h.uM diM.1 diM.2
   oT:=C.oT.keep (fun _ _ _ q=>q) fun _=>.inl
   oM:=C.oM.mono fun b m q=>q.keep (fun _ _ _ q=>q) fun _=>.inl
   oF:=C.oF.snoc (fun b m q=>q.keep (fun _ _ _ q=>q) fun _=>.inl) (On.blk hbn (.inr rfl))
   oL:=⟨C.oL.1,fun j b lc hb hl=>((C.oL.2 j b lc hb hl).imp fun w q=>q.upF fun n hn=>by rw[hlen];exact ((h.wz.lc j lc hl).2.2.2.1 n hn).1.2).keep (fun _ _ _ q=>q) fun _=>.inl⟩
   oS:=fun j b v t h1 h2 h3=>(C.oS j b v t h1 h2 h3).keep (fun _ _ _ q=>q) fun _=>.inl
   oV:=⟨h.oV.1,fun j b t hb ht=>kb (h.oV.2 j b t hb ht) (by decide) (by decide)⟩
   lS:=h.lS
   nV:=h.nV
   nM:=h.nM
   nF:=List.nodup_append.2 ⟨h.nF,by simp,fun a ha b hb e=>by
    obtain rfl:=List.mem_singleton.1 hb
    subst e
    obtain ⟨j,hj⟩:=List.mem_iff_getElem?.1 ha
    have hjl:=(List.getElem?_eq_some_iff.1 hj).1
    have:=((h.oF.2 j _ _ hj (List.getElem?_eq_getElem (by omega))).now).lt
    omega⟩
   nL:=h.nL
   sM:=h.sM
   sF:=fun k' u hk=>by
    rw[mget_mset]at hk
    split at hk
    ·next e=>
     subst e;cases hk
     exact ⟨s.funs.length,bn,m2,get_last rfl,get_last hlen,rfl,hpk.symm⟩
    ·obtain ⟨j,b,m0,q1,q2,q3,q4⟩:=h.sF k' u hk
     exact ⟨j,b,m0,get_snoc q1,get_snoc q2,q3,q4⟩
   sL:=fun k' u hk=>by
    obtain ⟨j,b,m0,q1,q2,q3,q4⟩:=h.sL k' u hk
    exact ⟨j,b,m0,q1,q2,q3,q4.trans (keyL_grows hG.m (h.wz.lc j m0 q2).2.1.2).symm⟩
   sS:=h.sS
   rM:=h.rM
   rF:=fun k' u hk=>by
    rw[mget_mset]at hk
    split at hk
    ·next e=>
     subst e;cases hk
     exact ⟨i,s.funs.length,bn,m,m2,hx,rfl,get_last rfl,get_last hlen,rfl,hpk⟩
    ·obtain ⟨i0,j,b,m0,m1,q1,q2,q3,q4,q5,q6⟩:=h.rF k' u hk
     exact ⟨i0,j,b,m0,m1,q1,q2,get_snoc q3,get_snoc q4,q5,q6⟩
   rL:=fun k' u hk=>by
    obtain ⟨i0,j,b,m0,m1,q1,q2,q3,q4,q5,q6⟩:=h.rL k' u hk
    exact ⟨i0,j,b,m0,m1,q1,q2,q3,q4,q5,by rw[MG.plK_up h.wz hG q4];exact q6⟩
   wz:=⟨h.wz.mp,fun j m0 hj=>by
     rcases snoc_get hj with hj|⟨rfl,rfl⟩
     ·exact h.wz.fn j m0 hj
     ·rw[hm2];exact ⟨by show (s.funs.length:Int)+1=_;rw[hlen],hwm⟩,fun j l0 hj=>by
     obtain ⟨q1,q2,q3,q4,q5⟩:=h.wz.lc j l0 hj
     exact ⟨q1,q2,q3,fun n hn=>⟨⟨(q4 n hn).1.1,by have:=(q4 n hn).1.2;show n.fn<((s.z.funcs++[m2]).length:Int);simp;omega⟩,(q4 n hn).2⟩,q5⟩,h.wz.sm⟩
   bM:=h.bM
   bF:=⟨by have:=h.bF.1;show (s.z.funcs++[m2]).length≤s.cF+(mset s.jF m.id _).length;rw[mset_len hno];simp;omega,h.bF.2⟩
   bL:=h.bL }
 ·exact {
   kx:=k.drop fun b hb=>.inl (hLh b hb)
   hs:=fun b hb=>(List.mem_append.1 hb).elim (hyb b) .inl
   hi:=fun b hb=>List.mem_append_right _ hb
   cs:=fun b hb=>hb.imp id fun e=>by subst e;exact hbg
   ci:=fun b hb=>.inl hb
   pm:=rfl,pb:=rfl,per:=rfl,ty:=rfl,types:=rfl,bl:=rfl
   gm:=List.prefix_rfl,gf:=List.prefix_append _ _,gl:=List.prefix_rfl,gz:=hG
   sams:=rfl,vals:=rfl,kS:=rfl,smp:=rfl,hd:=rfl,cc:=⟨rfl,rfl,rfl⟩ }
theorem MG.jl {x:PProf} {s:MS} (h:MG w0 x n w s):s.jL.length≤x.locs.length:=by
 obtain ⟨e1,k1, -,hM⟩:=h.uL
 have:=keys_len (ids:=x.locs.map (·.id)) hM.keys fun k u hu=>by
  obtain ⟨i,_,_,m,_,h1,h2, -⟩:=h.rL k u hu
  exact List.mem_map.2 ⟨m,List.mem_of_getElem? h1,h2⟩
 simpa using this
theorem MG.setL {x:PProf} {s:MS} (h:MG w0 x n w s) (k:KeepX [s.iL] w w') {id:Int} (hm:TbM (Value.int .u64) w' s.iL (mset s.jL id u))
  (hu:∃(i j b:Nat) (m m':PLoc),x.locs[i]? =some m∧m.id=id∧s.locs[j]? =some b∧s.z.locs[j]? =some m'∧u=ptr b∧plK s.z m'=plK x m):
  MG w0 x n w' { s with jL:=mset s.jL id u }∧MStep w s w' { s with jL:=mset s.jL id u }:=by
 have hh:=h.hh
 simp only[List.mem_append,List.mem_cons,List.not_mem_nil,or_false]at hh
 have hi:s.iL∈s.hot:=hh _ (by simp)
 have C:=h.cool k fun b hb=>by rw[List.mem_singleton.1 hb];exact hi
 obtain ⟨e1,k1,hm1, -⟩:=h.uL
 have kb:∀{b T:Nat} {cs:List Value},Blk w b T cs→Blk w' b T cs:=fun hb=>k.blk hb fun hm=>map_neB hm1 hb (List.mem_singleton.1 hm).symm
 have km:∀b,b≠s.iL→∀o:Obj,w.heap[b]? =some o→w'.heap[b]? =some o:=fun b hb o ho=>k.keep b o ho fun hm=>hb (List.mem_singleton.1 hm)
 have hnd:=h.nd
 simp only[List.nodup_cons,List.mem_cons,List.not_mem_nil,or_false,not_or]at hnd
 obtain ⟨sa,ma,lo,fu,h1,h2,h3,h4,h5⟩:=h.prof
 refine ⟨{ h with
  kp:=C.kp,cd:=C.cd,hl:=C.hl,oT:=C.oT,oM:=C.oM,oF:=C.oF,oL:=C.oL,oS:=C.oS
  bpm:=kb h.bpm
  prof:=⟨sa,ma,lo,fu,kb h1,h2.keep fun b cs _=>kb,h3.keep fun b cs _=>kb,h4.keep fun b cs _=>kb,h5.keep fun b cs _=>kb⟩
  tS:=h.tS.keep (km _ (by omega))
  tL:=h.tL.keep (km _ (by omega))
  tF:=h.tF.keep (km _ (by omega))
  tM:=h.tM.keep (km _ (by omega))
  uL:=hm
  uF:=h.uF.keep (km _ (by omega))
  uM:=h.uM.keep (km _ (by omega))
  oV:=⟨h.oV.1,fun i b t hb ht=>kb (h.oV.2 i b t hb ht)⟩
  rL:=fun k' u' hk=>by
   rw[mget_mset]at hk
   split at hk
   ·next e=>subst e;cases hk;exact hu
   ·exact h.rL k' u' hk
  bL:=⟨by have:=h.bL.1;have:=mset_le s.jL id u;show s.z.locs.length≤s.cL+(mset s.jL id u).length;omega,h.bL.2⟩ },?_⟩
 exact { MStep.refl (w:=w) (s:=s) with
  kx:=k.drop fun b hb=>.inl (by rw[List.mem_singleton.1 hb];exact hi) }
end Go.Proofs.YtffghbkcomlefaaGreatDoor
