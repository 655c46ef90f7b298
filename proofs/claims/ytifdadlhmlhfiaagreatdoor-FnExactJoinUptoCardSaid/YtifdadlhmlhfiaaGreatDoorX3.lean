/-
  Part 3 of the proof. Conditions: as each lemma states them.
-/
import Derived.Test.YtifdadlhmlhfiaaGreatDoorX2
import Derived.Sort.OwnSorted
namespace Go.Proofs.YtifdadlhmlhfiaaGreatDoor
open Go Go.Fw Go.Proofs Go.Proofs.Tryz
variable {y:Ent} {g:G} {H:ko} {T':List ByteArray} {fs:List Fld} {es:List MapEntry} {cs:List Value} {B T b c ck i k mb:Nat} {p:Option Addr} {mo:Option Nat} {s:ku} {v:Value} {w w' w0:World}
theorem qbM (w:World) (cs:List Value) (t:xn) (h:xz w cs t):Calls Tryz.prog 84 #[.agg cs.toArray] w (Ret fun v w'=>∃p,v=.pointer (some ⟨p,0,none⟩)∧Blk w' p tVT (cVT t)∧w.heap.size≤p∧Fr 0 [] w w'):=by
 unfold xz at h
 subst h
 refine jr (args:=[_]) [(0,_)] 0 [] [] func84 rfl ntmps84 rfl rfl .nil ?_
 refine sQ fun K1=>jb (qA (vs:=[_,_]) rfl rfl fun b1=>jA (k:=K1 (sQ fun K2=>jb (jF 0 qiF so9 (k:=jH 0 ag9 (k:=jF 1 qiF so9 (k:=jH 0 ag9 (k:=?_))))))))
 refine jn rfl (fun _ _ h=>vb (cs:=[_,_,(.int .i64 0),(.int .i64 0)]) qkB rfl rfl h) (qA (vs:=[_,_,_,_]) rfl rfl fun b8=>jA (k:=K2 (jj ?_)))
 exact je results84 rfl fun w' hH hf=>⟨b8,rfl,hH.get (i:=0) rfl rfl,hH.fresh (i:=0) rfl rfl rfl,hf⟩
theorem Xy:∀a:List UInt8,Op.bytesLess a a=false
 |[]=>rfl
 |x::r=>by simp[Op.bytesLess,Xy r]
theorem Yn:∀a b c:List UInt8,Op.bytesLess a b=true→Op.bytesLess b c=true→Op.bytesLess a c=true
 |_,[],_,h,_=>by cases ‹List UInt8› <;>simp[Op.bytesLess]at h
 |_,_::_,[],_,h=>by simp[Op.bytesLess]at h
 |[],_::_,_::_,_,_=>by simp[Op.bytesLess]
 |x::a,y::b,z::c,h1,h2=>by
    simp only[Op.bytesLess,Bool.or_eq_true,decide_eq_true_eq,Bool.and_eq_true,beq_iff_eq]at h1 h2⊢
    rcases h1 with h1|⟨rfl,h1⟩
    ·rcases h2 with h2|⟨rfl,h2⟩
     ·exact .inl (UInt8.lt_trans h1 h2)
     ·exact .inl h1
    ·rcases h2 with h2|⟨rfl,h2⟩
     ·exact .inl h2
     ·exact .inr ⟨rfl,Yn a b c h1 h2⟩
theorem zv (a:ByteArray):ltB a a=false:=Xy _
theorem qfl {a b c:ByteArray} (h1:ltB a b=true) (h2:ltB b c=true):ltB a c=true:=Yn _ _ _ h1 h2
theorem qdO {ks:List ByteArray} (h:∀(i:Nat) t u,ks[i]? =some t→ks[i+1]? =some u→ltB t u=true):∀(d i:Nat) t u,ks[i]? =some t→ks[i+d+1]? =some u→ltB t u=true
 |0,i,t,u,h1,h2=>h i t u h1 h2
 |d+1,i,t,u,h1,h2=>by
    have hl:=(List.getElem?_eq_some_iff.1 h2).1
    have h3:ks[i+d+1]? =some (ks[i+d+1]' ox):=gE ox
    exact qfl (qdO h d i t _ h1 h3) (h (i+d+1) _ u h3 (by rw[← h2];congr 1))
theorem qeI {ks:List ByteArray} (h:∀(i:Nat) t u,ks[i]? =some t→ks[i+1]? =some u→ltB t u=true) {u:ByteArray} (hu:ks[k]? =some u):u∉ks.take k:=by
 intro hm
 obtain ⟨i,hi⟩:=List.mem_iff_getElem?.1 hm
 rw[List.getElem?_take]at hi
 split at hi
 ·rename_i hlt
  have:=qdO h (k - i - 1) i u u hi (by rw[show i+(k - i - 1)+1=k by omega];exact hu)
  rw[zv]at this
  cases this
 ·cases hi
theorem qco {κ:Type} [DecidableEq κ]:∀{ms:List (κ×Value)} {k:κ} {v:Value},k∉ms.map (·.1)→Jm ms k v=ms++[(k,v)]
 |[],_,_,_=>rfl
 |(k',u)::r,k,v,h=>by
     simp only[List.map_cons,List.mem_cons,not_or]at h
     simp only[Jm,if_neg h.1,qco h.2,List.cons_append]
def JO (T:Nat) (w:World) (mo:Option Nat) (ent:Ent) (ks:List (ByteArray×List Value)) (k:Nat):Prop:=
 (k=0∧mo=none∧ent=qQ 0)∨∃mb es ck ms,mo=some mb∧ent=mpE mb es ck∧vA Value.string ms es ck∧ms.map (·.1)=(ks.take k).map (·.1)∧∀(i:Nat) m q,ms[i]? =some m→ks[i]? =some q→OS T 1 w m.2 q.2
theorem JO.push {ks:List (ByteArray×List Value)} {ms:List (ByteArray×Value)} {key:ByteArray} (hk:k<ks.length) (hM:vA Value.string (Jm ms key v) es ck)
  (hkeys:ms.map (·.1)=(ks.take k).map (·.1)) (hos:∀(i:Nat) m q,ms[i]? =some m→ks[i]? =some q→OS T 1 w m.2 q.2) (hkey:ks[k].1=key) (hnew:key∉(ks.take k).map (·.1)) (hv:OS T 1 w v ks[k].2):JO T w (some mb) (mpE mb es ck) ks (k+1):=by
 rw[qco (by rw[hkeys];exact hnew)]at hM
 have hlen:ms.length=k:=by have:=congrArg List.length hkeys;simp at this;omega
 refine .inr ⟨mb,es,ck,_,rfl,rfl,hM,by rw[← tG hk,List.map_append,List.map_append,hkeys,List.map_cons,List.map_nil,List.map_cons,List.map_nil,hkey],fun i m q hm hq=>?_⟩
 by_cases hi:i<k
 ·rw[aq ox]at hm
  exact hos i m q hm hq
 ·have hlt:=(List.getElem?_eq_some_iff.1 hm).1
  simp at hlt
  have:i=k:=by omega
  subst this
  rw[List.getElem?_append_right ox]at hm
  simp[hlen]at hm
  rw[gE hk]at hq
  simp at hq
  subst hm;subst hq
  exact hv
theorem JO.mono {ent:Ent} {ks:List (ByteArray×List Value)} (h:JO T w mo ent ks k) (hk:∀b cs,Blk w b T cs→Blk w' b T cs):JO T w' mo ent ks k:=by
 rcases h with h|⟨mb,es,ck,ms,h1,h2,h3,h4,h5⟩
 ·exact .inl h
 ·exact .inr ⟨mb,es,ck,ms,h1,h2,h3,h4,fun i m q hm hq=>(h5 i m q hm hq).mono hk⟩
theorem JO.done {ent:Ent} {ks:List (ByteArray×List Value)} {f:Fm} (i:Nat) (h:JO T w mo ent ks k) (hk:k=ks.length) (hH:Hp f w H) (hi:H[i]? =some ent):QF T w (.map mo) ks:=by
 subst hk
 rcases h with ⟨h1,rfl, -⟩|⟨mb,es,ck,ms,rfl,rfl,h3,h4,h5⟩
 ·exact .inl ⟨List.eq_nil_of_length_eq_zero h1,rfl⟩
 ·rw[tL (Nat.le_refl _)]at h4
  exact .inr ⟨mb,es,ck,ms,rfl,hH.obj hi rfl,h3,h4,h5⟩
theorem JO.tag {ent:Ent} {ks:List (ByteArray×List Value)} (h:JO T w mo ent ks k) (he:ent.ex=true):ent.tag=1000000:=by
 rcases h with ⟨-, -,rfl⟩|⟨mb,es,ck,ms, -,rfl, -⟩
 ·simp[Ent.ex,qQ]at he
 ·rfl
theorem JO.some {ent:Ent} {ks:List (ByteArray×List Value)} (h:JO T w mo ent ks k) (hn:mo.isNone=false):∃mb es ck ms,mo=some mb∧ent=mpE mb es ck∧vA Value.string ms es ck∧ms.map (·.1)=(ks.take k).map (·.1)∧∀(i:Nat) m q,ms[i]? =some m→ks[i]? =some q→OS T 1 w m.2 q.2:=by
 rcases h with ⟨-,rfl, -⟩|h
 ·cases hn
 ·exact h
theorem JO.none {ent:Ent} {ks:List (ByteArray×List Value)} (h:JO T w mo ent ks k) (hn:mo.isNone=true):k=0∧mo=none∧ent=qQ 0:=by
 rcases h with h|⟨_,_,_,_,rfl, -⟩
 ·exact h
 ·cases hn
theorem Xn {x:ku} (h:zQ x) (hk:k<x.texts.length):x.texts[k].key∉((Jv x).take k).map (·.1):=by
 have h1:((Jv x).take k).map (·.1)=(x.texts.map (·.key)).take k:=by simp[Jv,List.map_take,Function.comp_def]
 rw[h1]
 refine qeI (fun i t u ht hu=>?_) (k:=k) (by simp[hk])
 rw[List.getElem?_map]at ht hu
 obtain ⟨a,ha,rfl⟩:=Option.map_eq_some_iff.1 ht
 obtain ⟨c,hc,rfl⟩:=Option.map_eq_some_iff.1 hu
 exact h.tasc i a c ha hc
theorem Xo {x:ku} (h:zQ x) (hk:k<x.nums.length):x.nums[k].key∉((JJ x).take k).map (·.1):=by
 have h1:((JJ x).take k).map (·.1)=(x.nums.map (·.key)).take k:=by simp[JJ,List.map_take,Function.comp_def]
 rw[h1]
 refine qeI (fun i t u ht hu=>?_) (k:=k) (by simp[hk])
 rw[List.getElem?_map]at ht hu
 obtain ⟨a,ha,rfl⟩:=Option.map_eq_some_iff.1 ht
 obtain ⟨c,hc,rfl⟩:=Option.map_eq_some_iff.1 hu
 exact h.nasc i a c ha hc
set_option maxHeartbeats 1000000 in
theorem ZL (wd w:World) (b:Nat) (ls vs:Value) (cs:List Value) (x:ku) (h:vE wd cs x) (hkd:vQ wd w) (hbd:wd.heap.size≤b) (hx:zQ x) (hb:Blk w b kY (Xx ls vs (.map none) (.map none))):
  Calls Tryz.prog 85 #[ptr b,.agg cs.toArray] w (Ret fun _ w'=>(∃lm nm,Blk w' b kY (Xx ls vs lm nm)∧QF qc w' lm (Jv x)∧QF qd w' nm (JJ x))∧Fr b [kY,1000000] w w'):=by
 obtain ⟨la,lb,lt,lu,rfl,hla,hlb',hlt,hlu⟩:=h
 obtain ⟨p1,c1,rfl, -, -⟩:=hla.open
 obtain ⟨p2,c2,rfl, -, -⟩:=hlb'.open
 obtain ⟨p3,c3,rfl,hl3,hx3⟩:=hlt.open
 obtain ⟨p4,c4,rfl,hl4,hx4⟩:=hlu.open
 have hlb:=hb.lt
 have hKd:=Je (W:=[kY,1000000]) hkd hbd
 refine jr (args:=[_,_]) [(0,_),(1,_)] b [kY,1000000] [⟨b,kY,Xx ls vs (.map none) (.map none),true,true,none⟩] func85 rfl ntmps85 rfl rfl (Hp.nil.add hb (fun _=>.inr ⟨Nat.le_refl _,by simp⟩) zp) ?_
 refine sQ fun K1=>jb (qA (vs:=[_,_,_,_]) rfl rfl fun b3=>K1 (qP fun K2 hK2=>sQ fun K3=>jb (jF 2 zh qaT (k:=jH 0 qdS (k:=jE VA (k:=jM (k:=K3 (jh ?_))))))))
 refine jZ (σ:=Nat×Option Nat×Ent) (fun s=>[(0,ptr b),(3,ptr b3),(9,.slice p3 x.texts.length c3),(10,.int .i64 (x.texts.length:Nat)),(11,.int .i64 (s.1:Nat))])
  (fun s=>[s.2.2,⟨b3,57,[.slice p1 x.stack.length c1,.slice p2 x.values.length c2,.slice p3 x.texts.length c3,.slice p4 x.nums.length c4],false,true,none⟩,⟨b,kY,Xx ls vs (.map s.2.1) (.map none),true,true,none⟩])
  (fun s w=>s.1≤x.texts.length∧JO qc w s.2.1 s.2.2 (Jv x) s.1)
  (fun s=>x.texts.length - s.1) (0,none,qQ 0) sR (fun w hH hf=>⟨hH.roHead.off,Nat.zero_le _,.inl ⟨rfl,rfl,rfl⟩⟩) ?_
 rintro ⟨k,mo,ent⟩ w1 ⟨hk,hI⟩ hf1 hH1 KL hKL
 have hKd:=Je (W:=[kY,1000000]) (hKd _ hf1) hbd
 have hH1':=hH1.again (W:=[kY,1000000]) (Nat.le_of_lt hlb) (by
  intro z hz he hw
  simp only[List.mem_cons,List.not_mem_nil,or_false]at hz
  rcases hz with rfl|rfl|rfl
  ·rw[hI.tag he];simp
  ·cases hw
  ·simp[Ent.tag])
 refine C.begin ⟨w1,b,[kY,1000000]⟩ [ent,_,⟨b,kY,Xx ls vs (.map mo) (.map none),true,true,none⟩] jx hH1' ?_
 try dsimp only
 refine sQ fun K4=>jb (jS (k:=K4 (sQ fun K5=>?_)))
 refine jq rfl (fun h12=>?_) (fun h12=>?_)
 ·have hk':k<x.texts.length:=by omega
  obtain ⟨q,o,cs,rfl,hcs,⟨l1,rfl,hl1⟩,hcell⟩:=hx3 k x.texts[k] (gE hk')
  obtain ⟨p5,c5,rfl,hl5, -⟩:=hl1.open
  have hlen5:=(hx.tl x.texts[k] (List.getElem_mem hk')).2.1
  refine jg (K5 (sQ fun K6=>jh (sQ fun K7=>jb (jJ VA zl (k:=?_)))))
  refine jp rfl (fun a w ha hH hf=>kD XD zl rfl rfl (hcell w (hKd _ hf)) ha) (jW (zs:=[(.string ⟨#[]⟩),(.slice none 0 0)]) ZY rfl fun b5=>jB [_,_] [_,_,_,_] 0 zl (k:=K7 (sQ fun K8=>sQ fun K9=>jb (jM (k:=jN (k:=jF 2 vl VF (k:=jH 3 qaH (k:=?_))))))))
  refine jn rfl (fun _ _ h=>qei ud143 rfl h) (K9 ?_)
  refine qZ rfl (fun h19=>?_) (fun h19=>?_)
  ·obtain ⟨hk0,rfl,rfl⟩:=hI.none h19
   refine jb (jM (k:=?_))
   refine zO (fun _ h=>by cases h) rfl fun b21=>?_
   refine jN (k:=jF 2 vl VF (k:=jB [_,_,_,_,_,_,_] [_,_,_,_,_] 4 VF (k:=K8 (CJ.t [(0,_),(3,_),(5,_),(9,_),(10,_),(11,_)] (k:=?_)))))
   refine jC 11 (lts [0,1,2,3,4,5,7,8]++(6,false)::(9,false)::(10,false)::[]) [1,3,4] rfl (by kernel_rfl) (by kernel_rfl) (dM [1,3,4] (k:=dN [1,3,4] (k:=dF [1,3,4] 2 vl VF (k:=dH [1,3,4] 2 qaH (k:=dF [1,3,4] 0 zW so9 (k:=dH [1,3,4] 0 ag9 (k:=dF [1,3,4] 1 zW xH (k:=dH [1,3,4] 0 yv (k:=dE (h:=fun Kd=>?_))))))))))
   refine vw vG so9 rfl fun b30=>Kd (sb [2,4,5]) (dE (h:=fun Kd=>?_))
   refine XU 0 rfl Own.empty vG vG el9 rfl rfl rfl rfl (fun w hH hf w1 k1=>hl1.first1 (g:=.string) (fun _ _ h=>h) w1 ((hKd _ hf).trans k1)) (fun _=>rfl) ox rfl fun y33 p33 c33 hO33=>?_
   refine Kd (sb [2,4,5]) (dE (h:=fun Kd=>?_))
   first|refine xf (ms:=[]) (es:=[]) (k:=x.texts[k].key) 1 rfl VH (qR ru9) vA.nil rfl rfl rfl (fun _ _ _=>⟨fun _ _=>trivial,trivial⟩) fun es' ck' hM'=>?_|refine xf (k:=x.texts[k].key) 2 rfl VH (qR ru9) hM rfl rfl rfl (fun _ _ _=>⟨fun _ _=>trivial,trivial⟩) fun es' ck' hM'=>?_
   refine Kd (sb [2,4,5]) (K6 (CJ.t [(0,_),(3,_),(9,_),(10,_),(11,_)] (k:=jb (jI (k:=jM (k:=jw (ji ?_)))))))
   have hkl:k<(Jv x).length:=by simpa[Jv]using hk'
   first
   |exact fun w hH hf=>hKL (k+1,some b21,mpE b21 es' ck') _ w ⟨hk',JO.push (ms:=[]) hkl hM' (by have hk0:k=0:=hk0;simp[hk0]) zp (by simp[Jv]) (Xn hx hk') (by have:=hO33.os (i:=0) hH rfl;simpa[Jv]using this)⟩ (qW hf1 (.inr fun _ h=>h) hf) (((hH.2.2.2.drop 1).drop 1).back hf1.size (.inr fun _ h=>h)) (by simp only;omega) ⟨rfl,rfl,rfl,rfl,rfl,trivial⟩
   |exact fun w hH hf=>hKL (k+1,some mb,mpE mb es' ck') _ w ⟨hk',JO.push hkl hM' hkeys (fun i m q hm hq=>(hos i m q hm hq).mono fun _ _ hbk=>kC hf hbk rfl) (by simp[Jv]) (Xn hx hk') (by have:=hO33.os (i:=0) hH rfl;simpa[Jv]using this)⟩ (qW hf1 (.inr fun _ h=>h) hf) (hH.2.2.2.2.2.2.back hf1.size (.inr fun _ h=>h)) (by simp only;omega) ⟨rfl,rfl,rfl,rfl,rfl,trivial⟩
  ·obtain ⟨mb,es,ck,ms,rfl,rfl,hM,hkeys,hos⟩:=hI.some h19
   refine jg (K8 (jC 11 (lts [0,1,2,3,4,5,7,8]++(6,false)::(9,false)::(10,false)::[]) [0,2,3] rfl (by kernel_rfl) (by kernel_rfl) (dM [0,2,3] (k:=dN [0,2,3] (k:=dF [0,2,3] 2 vl VF (k:=dH [0,2,3] 2 qaH (k:=dF [0,2,3] 0 zW so9 (k:=dH [0,2,3] 0 ag9 (k:=dF [0,2,3] 1 zW xH (k:=dH [0,2,3] 0 yv (k:=dE (h:=fun Kd=>?_))))))))))))
   refine vw vG so9 rfl fun b30=>Kd (sb [1,3,4]) (dE (h:=fun Kd=>?_))
   refine XU 0 rfl Own.empty vG vG el9 rfl rfl rfl rfl (fun w hH hf w1 k1=>hl1.first1 (g:=.string) (fun _ _ h=>h) w1 ((hKd _ hf).trans k1)) (fun _=>rfl) ox rfl fun y33 p33 c33 hO33=>?_
   refine Kd (sb [1,3,4]) (dE (h:=fun Kd=>?_))
   first|refine xf (ms:=[]) (es:=[]) (k:=x.texts[k].key) 1 rfl VH (qR ru9) vA.nil rfl rfl rfl (fun _ _ _=>⟨fun _ _=>trivial,trivial⟩) fun es' ck' hM'=>?_|refine xf (k:=x.texts[k].key) 2 rfl VH (qR ru9) hM rfl rfl rfl (fun _ _ _=>⟨fun _ _=>trivial,trivial⟩) fun es' ck' hM'=>?_
   refine Kd (sb [1,3,4]) (K6 (CJ.t [(0,_),(3,_),(9,_),(10,_),(11,_)] (k:=jb (jI (k:=jM (k:=jw (ji ?_)))))))
   have hkl:k<(Jv x).length:=by simpa[Jv]using hk'
   first
   |exact fun w hH hf=>hKL (k+1,some b21,mpE b21 es' ck') _ w ⟨hk',JO.push (ms:=[]) hkl hM' (by have hk0:k=0:=hk0;simp[hk0]) zp (by simp[Jv]) (Xn hx hk') (by have:=hO33.os (i:=0) hH rfl;simpa[Jv]using this)⟩ (qW hf1 (.inr fun _ h=>h) hf) (((hH.2.2.2.drop 1).drop 1).back hf1.size (.inr fun _ h=>h)) (by simp only;omega) ⟨rfl,rfl,rfl,rfl,rfl,trivial⟩
   |exact fun w hH hf=>hKL (k+1,some mb,mpE mb es' ck') _ w ⟨hk',JO.push hkl hM' hkeys (fun i m q hm hq=>(hos i m q hm hq).mono fun _ _ hbk=>kC hf hbk rfl) (by simp[Jv]) (Xn hx hk') (by have:=hO33.os (i:=0) hH rfl;simpa[Jv]using this)⟩ (qW hf1 (.inr fun _ h=>h) hf) (hH.2.2.2.2.2.2.back hf1.size (.inr fun _ h=>h)) (by simp only;omega) ⟨rfl,rfl,rfl,rfl,rfl,trivial⟩
 ·refine jt (qg (qg (xy (ji (hK2 _ _ _ (sQ fun K10=>jb (jF 3 zh qaS (k:=jH 1 qdR (k:=jE Vz (k:=jM (k:=K10 (jh ?_))))))))))))
  refine jZ (σ:=Nat×Option Nat×Ent) (fun s=>[(0,ptr b),(36,.slice p4 x.nums.length c4),(37,.int .i64 (x.nums.length:Nat)),(38,.int .i64 (s.1:Nat))])
   (fun s=>[s.2.2,ent,⟨b,kY,Xx ls vs (.map mo) (.map s.2.1),true,true,none⟩])
   (fun s w=>s.1≤x.nums.length∧JO qd w s.2.1 s.2.2 (JJ x) s.1∧JO qc w mo ent (Jv x) k)
   (fun s=>x.nums.length - s.1) (0,none,qQ 0) sR (fun w hH hf=>⟨(hH.drop 1).off,Nat.zero_le _,.inl ⟨rfl,rfl,rfl⟩,hI.mono fun _ _ hbk=>kC hf hbk rfl⟩) ?_
  rintro ⟨m,mo2,ent2⟩ w2 ⟨hm,hI2,hI3⟩ hf2 hH2 KL hKL
  have hKd:=Je (W:=[kY,1000000]) (hKd _ hf2) hbd
  have hH2':=hH2.again (W:=[kY,1000000]) (Nat.le_trans (Nat.le_of_lt hlb) hf1.size) (by
   intro z hz he hw
   simp only[List.mem_cons,List.not_mem_nil,or_false]at hz
   rcases hz with rfl|rfl|rfl
   ·rw[hI2.tag he];simp
   ·rw[hI3.tag he];simp
   ·simp[Ent.tag])
  refine C.begin ⟨w2,b,[kY,1000000]⟩ [ent2,ent,⟨b,kY,Xx ls vs (.map mo) (.map mo2),true,true,none⟩] jx hH2' ?_
  try dsimp only
  refine sQ fun K11=>jb (jS (k:=K11 (sQ fun K12=>?_)))
  refine jq rfl (fun h39=>?_) (fun h39=>?_)
  ·have hm':m<x.nums.length:=by omega
   obtain ⟨q,o,cs,rfl,hcs,⟨l1,rfl,hl1⟩,hcell⟩:=hx4 m x.nums[m] (gE hm')
   obtain ⟨p5,c5,rfl,hl5, -⟩:=hl1.open
   have hlen5:=(hx.nl x.nums[m] (List.getElem_mem hm')).2
   refine jg (K12 (sQ fun K13=>jh (sQ fun K14=>jb (jJ Vz zk (k:=?_)))))
   refine jp rfl (fun a w ha hH hf=>kD XC zk rfl rfl (hcell w (hKd _ hf)) ha) (jW (zs:=[(.string ⟨#[]⟩),(.slice none 0 0)]) ZX rfl fun b7=>jB [_,_] [_,_,_,_] 0 zk (k:=K14 (sQ fun K15=>sQ fun K16=>jb (jM (k:=jN (k:=jF 3 vl VE (k:=jH 3 qaG (k:=?_))))))))
   refine jn rfl (fun _ _ h=>qei ud144 rfl h) (K16 ?_)
   refine qZ rfl (fun h46=>?_) (fun h46=>?_)
   ·obtain ⟨hm0,rfl,rfl⟩:=hI2.none h46
    refine jb (jM (k:=?_))
    refine zO (fun _ h=>by cases h) rfl fun b48=>?_
    refine jN (k:=jF 3 vl VE (k:=jB [_,_,_,_,_,_,_] [_,_,_,_,_] 4 VE (k:=K15 (CJ.t [(0,_),(7,_),(36,_),(37,_),(38,_)] (k:=?_)))))
    refine jC 11 (lts [0,1,2,3,4,5,7,8]++(6,false)::(9,false)::(10,false)::[]) [1,4] rfl (by kernel_rfl) (by kernel_rfl) (dM [1,4] (k:=dN [1,4] (k:=dF [1,4] 3 vl VE (k:=dH [1,4] 1 qaG (k:=dF [1,4] 0 JC so9 (k:=dH [1,4] 0 ag9 (k:=dF [1,4] 1 JC Jt (k:=dH [1,4] 0 KC (k:=dE (h:=fun Kd=>?_))))))))))
    refine vw xI so2 rfl fun b57=>Kd (sb [2,5]) (dE (h:=fun Kd=>?_))
    refine XU 0 rfl Own.empty xI xI el2 rfl rfl rfl rfl (fun w hH hf w1 k1=>hl1.first1 (g:=.int .i64) (fun _ _ h=>h.1) w1 ((hKd _ hf).trans k1)) (fun _=>rfl) ox rfl fun y60 p60 c60 hO60=>?_
    refine Kd (sb [2,5]) (dE (h:=fun Kd=>?_))
    first|refine xf (ms:=[]) (es:=[]) (k:=x.nums[m].key) 1 rfl VG (qR ru9) vA.nil rfl rfl rfl (fun _ _ _=>⟨fun _ _=>trivial,trivial⟩) fun es' ck' hM'=>?_|refine xf (k:=x.nums[m].key) 2 rfl VG (qR ru9) hM rfl rfl rfl (fun _ _ _=>⟨fun _ _=>trivial,trivial⟩) fun es' ck' hM'=>?_
    refine Kd (sb [2,5]) (K13 (CJ.t [(0,_),(36,_),(37,_),(38,_)] (k:=jb (jI (k:=jM (k:=jw (ji ?_)))))))
    have hkl:m<(JJ x).length:=by simpa[JJ]using hm'
    first
    |exact fun w hH hf=>hKL (m+1,some b48,mpE b48 es' ck') _ w ⟨hm',JO.push (ms:=[]) hkl hM' (by have hm0:m=0:=hm0;simp[hm0]) zp (by simp[JJ]) (Xo hx hm') (by have:=hO60.os (i:=0) hH rfl;simpa[JJ]using this),hI3.mono fun _ _ hbk=>kC hf hbk rfl⟩ (qW hf2 (.inr fun _ h=>h) hf) (((hH.2.2.2.drop 1).drop 1).back hf2.size (.inr fun _ h=>h)) (by simp only;omega) ⟨rfl,rfl,rfl,rfl,trivial⟩
    |exact fun w hH hf=>hKL (m+1,some mb,mpE mb es' ck') _ w ⟨hm',JO.push hkl hM' hkeys (fun i m q hm hq=>(hos i m q hm hq).mono fun _ _ hbk=>kC hf hbk rfl) (by simp[JJ]) (Xo hx hm') (by have:=hO60.os (i:=0) hH rfl;simpa[JJ]using this),hI3.mono fun _ _ hbk=>kC hf hbk rfl⟩ (qW hf2 (.inr fun _ h=>h) hf) (hH.2.2.2.2.2.2.back hf2.size (.inr fun _ h=>h)) (by simp only;omega) ⟨rfl,rfl,rfl,rfl,trivial⟩
   ·obtain ⟨mb,es,ck,ms,rfl,rfl,hM,hkeys,hos⟩:=hI2.some h46
    refine jg (K15 (jC 11 (lts [0,1,2,3,4,5,7,8]++(6,false)::(9,false)::(10,false)::[]) [0,3] rfl (by kernel_rfl) (by kernel_rfl) (dM [0,3] (k:=dN [0,3] (k:=dF [0,3] 3 vl VE (k:=dH [0,3] 1 qaG (k:=dF [0,3] 0 JC so9 (k:=dH [0,3] 0 ag9 (k:=dF [0,3] 1 JC Jt (k:=dH [0,3] 0 KC (k:=dE (h:=fun Kd=>?_))))))))))))
    refine vw xI so2 rfl fun b57=>Kd (sb [1,4]) (dE (h:=fun Kd=>?_))
    refine XU 0 rfl Own.empty xI xI el2 rfl rfl rfl rfl (fun w hH hf w1 k1=>hl1.first1 (g:=.int .i64) (fun _ _ h=>h.1) w1 ((hKd _ hf).trans k1)) (fun _=>rfl) ox rfl fun y60 p60 c60 hO60=>?_
    refine Kd (sb [1,4]) (dE (h:=fun Kd=>?_))
    first|refine xf (ms:=[]) (es:=[]) (k:=x.nums[m].key) 1 rfl VG (qR ru9) vA.nil rfl rfl rfl (fun _ _ _=>⟨fun _ _=>trivial,trivial⟩) fun es' ck' hM'=>?_|refine xf (k:=x.nums[m].key) 2 rfl VG (qR ru9) hM rfl rfl rfl (fun _ _ _=>⟨fun _ _=>trivial,trivial⟩) fun es' ck' hM'=>?_
    refine Kd (sb [1,4]) (K13 (CJ.t [(0,_),(36,_),(37,_),(38,_)] (k:=jb (jI (k:=jM (k:=jw (ji ?_)))))))
    have hkl:m<(JJ x).length:=by simpa[JJ]using hm'
    first
    |exact fun w hH hf=>hKL (m+1,some b48,mpE b48 es' ck') _ w ⟨hm',JO.push (ms:=[]) hkl hM' (by have hm0:m=0:=hm0;simp[hm0]) zp (by simp[JJ]) (Xo hx hm') (by have:=hO60.os (i:=0) hH rfl;simpa[JJ]using this),hI3.mono fun _ _ hbk=>kC hf hbk rfl⟩ (qW hf2 (.inr fun _ h=>h) hf) (((hH.2.2.2.drop 1).drop 1).back hf2.size (.inr fun _ h=>h)) (by simp only;omega) ⟨rfl,rfl,rfl,rfl,trivial⟩
    |exact fun w hH hf=>hKL (m+1,some mb,mpE mb es' ck') _ w ⟨hm',JO.push hkl hM' hkeys (fun i m q hm hq=>(hos i m q hm hq).mono fun _ _ hbk=>kC hf hbk rfl) (by simp[JJ]) (Xo hx hm') (by have:=hO60.os (i:=0) hH rfl;simpa[JJ]using this),hI3.mono fun _ _ hbk=>kC hf hbk rfl⟩ (qW hf2 (.inr fun _ h=>h) hf) (hH.2.2.2.2.2.2.back hf2.size (.inr fun _ h=>h)) (by simp only;omega) ⟨rfl,rfl,rfl,rfl,trivial⟩
  ·refine jt (qg (qg (xy (?_))))
   refine vK results85 fun w' hH hf=>⟨⟨.map mo,.map mo2,hH.get (i:=2) rfl rfl,?_,?_⟩,qW hf1 (.inr fun _ h=>h) (qW hf2 (.inr fun _ h=>h) hf)⟩
   ·exact (hI3.mono fun _ _ hbk=>kC hf hbk rfl).done 1 (by simp[Jv];omega) hH rfl
   ·exact (hI2.mono fun _ _ hbk=>kC hf hbk rfl).done 0 (by simp[JJ];omega) hH rfl
theorem JL {α β:Type} {xs:List α} {g:α→List β} (hk:k<xs.length):(xs.take k).flatMap g++g xs[k]=(xs.take (k+1)).flatMap g:=by
 rw[← tG hk,List.flatMap_append];simp
theorem qah {w4:World} {W:List Nat} {j:Nat} {xs:List Value} {maps:List Nat} {l:vP} (hO:Own kq 3 y p j c xs) (hH:Hp ⟨w4,B,W⟩ w' H) (hy:H[i]? =some y) (hs:B≤w4.heap.size):
  ∀rb n c',(KB maps l (.slice p j c))[3]? =some (.slice (some ⟨rb,0,none⟩) n c')→B≤rb:=by
 intro rb n c' e
 simp[KB]at e
 obtain ⟨e1, -, -⟩:=e
 obtain ⟨-, -,q⟩:=hO.sl
 rcases q with ⟨hon,q, -⟩|⟨-,q, -⟩
 ·rw[e1]at q
  cases q
  rcases hH.may (mG hy) hon hO.hw with h|⟨h, -⟩
  ·exact Nat.le_trans hs h
  ·exact h
 ·rw[e1]at q;cases q
-- the profile's own block while it is made
def Kg (b41:Nat) (x:jD) (ty sa ma lo fu co:Value) (per:Nat):Ent:=⟨b41,ju,zz x ty sa ma lo fu co per,true,true,none⟩
set_option maxHeartbeats 4000000 in
theorem qkj (w:World) (cs:List Value) (x:jD) (h:qI w cs x) (hx:vW x):
  Calls Tryz.prog 46 #[.agg cs.toArray] w (Ret fun v w'=>(∃g,v=ptr g.pb∧OfP w.heap.size w' x g∧OfR w.heap.size w' x g)∧Fr 0 [] w w'):=by
 obtain ⟨la,lsa,lm,ll,lf,lcm,rfl,hla,hls,hlm,hll,hlf,hlc, -⟩:=h
 obtain ⟨pt,ct,rfl, -,hxt⟩:=hla.open
 obtain ⟨ps,csm,rfl, -,hxs⟩:=hls.open
 obtain ⟨pm,cm,rfl, -,hxm⟩:=hlm.open
 obtain ⟨pl,cl,rfl, -,hxl⟩:=hll.open
 obtain ⟨pf,cf,rfl, -,hxf⟩:=hlf.open
 obtain ⟨pc,cc,rfl, -, -⟩:=hlc.open
 have hKd:=fun W=>Je (W:=W) (vQ.refl w) (Nat.le_refl _)
 have n1:=hx.ntyp
 have n2:=hx.nsam
 have n3:=hx.ncom
 have n4:=hx.tab.m.2.2
 have n5:=hx.tab.f.2.2
 have n6:=hx.tab.l.2.2
 simp only[List.length_map]at n4 n5 n6
 refine jr (args:=[_]) [(0,_)] w.heap.size [] [] func46 rfl ntmps46 rfl rfl .nil ?_
 refine sQ fun K1=>jb (qA (vs:=[_,_,_,_,_,_,_,_,_,_,_,_,_,_]) rfl rfl fun b1=>jA (k:=K1 ?_))
 refine qP fun K2 hK2=>jC 22 (lts [0,1,3,4,6,7,8,9,10,11,12,13,14,15,16,17]++(2,false)::((5,false)::((18,false)::(lts [19]++(20,false)::lts [21])))) [0] rfl (by kernel_rfl) (by kernel_rfl) (dF [0] 1 kW so9 (k:=dH [0] 0 ag9 (k:=dF [0] 6 kW xH (k:=dH [0] 0 yv (k:=dF [0] 7 kW so9 (k:=dH [0] 0 ag9 (k:=dF [0] 8 kW so9 (k:=dH [0] 0 ag9 (k:=dF [0] 9 kW so2 (k:=dH [0] 0 ag2 (k:=dF [0] 10 kW so2 (k:=dH [0] 0 ag2 (k:=?_)))))))))))))
 refine dF [0] 11 kW so2 (k:=dH [0] 0 ag2 (k:=dF [0] 12 kW zq (k:=?_)))
 refine vV rfl rfl (jd [0] rfl) (fun a w ha hS=>Ju (vs:=[_,_]) 0 rfl rfl XB zq rfl rfl rfl ha hS) (dE (h:=fun Kd=>vw vG so9 rfl fun b23=>Kd (sb [1]) (dE (h:=fun Kd=>?_))))
 refine XU 0 rfl Own.empty vG vG el9 rfl rfl rfl rfl (fun w hH hf w1 k1=>hlc.first1 (g:=.string) (fun _ _ h=>h) w1 ((hKd _ _ hf).trans k1)) (fun _=>rfl) ox rfl fun y26 p26 c26 hO26=>?_
 refine Kd (sb [1]) (dE (h:=fun Kd=>?_))
 refine qev (T:=tVT) (cs:=cVT x.per) call84 rfl rfl (fun w hH hf=>qbM w _ x.per rfl) fun b39=>?_
 refine Kd (sb [2]) (jo rfl rfl (jd [2] rfl) (fun _ _ h=>vb (cs:=[(.slice none 0 0),_,(.slice none 0 0),(.slice none 0 0),(.slice none 0 0),(.slice none 0 0),_,_,_,_,_,_,_,(.slice none 0 0),(.int .i64 0),(.int .i64 0),(.slice none 0 0),(.int .i64 0)]) qkC rfl rfl h) (dE (h:=fun Kd=>qA (vs:=[_,_,_,_,_,_,_,_,_,_,_,_,_,_,_,_,_,_]) rfl rfl fun b41=>Kd (sb [3]) (dA [3] (k:=QZ (ji (hK2 _ _ _ (CJ.t [(1,_),(3,_)] (k:=sQ fun K3=>sQ fun K4=>jb (jF 0 kW Yq (k:=jH 3 ZR (k:=?_))))))))))))
 refine jE KI (k:=jM (k:=K4 (jh ?_)))
 refine jZ (σ:=Nat×Ent×Option Addr×Nat×List Nat) (fun s=>[(1,ptr b1),(3,ptr b41),(43,.slice pt x.types.length ct),(44,.int .i64 (x.types.length:Nat)),(45,.int .i64 (s.1:Nat))])
  (fun s=>[s.2.1,Kg b41 x (.slice s.2.2.1 s.1 s.2.2.2.1) (.slice none 0 0) (.slice none 0 0) (.slice none 0 0) (.slice none 0 0) (.slice p26 (0+x.comments.length) c26) b39,⟨b39,tVT,cVT x.per,false,true,none⟩,ro y26,⟨b1,31,[.slice pt x.types.length ct,.string x.deflt,.slice ps x.samples.length csm,.slice pm x.mappings.length cm,.slice pl x.locs.length cl,.slice pf x.funcs.length cf,.slice pc x.comments.length cc,.string x.drop,.string x.keep,.int .i64 x.time,.int .i64 x.dur,.int .i64 x.period,.string x.per.ty,.string x.per.unit],false,true,none⟩])
  (fun s w'=>s.1≤x.types.length∧Own pVT 1 s.2.1 s.2.2.1 s.1 s.2.2.2.1 (s.2.2.2.2.map ptr)∧yD (b39+1) w' s.2.2.2.2 (x.types.take s.1) φT∧(w.heap.size≤b39∧w.heap.size≤b41∧b39<w'.heap.size))
  (fun s=>x.types.length - s.1) (0,qQ pVT,none,0,[]) sR (fun w' hH hf=>⟨hH.roTail.off,Nat.zero_le _,Own.nil,yD.nil,⟨hH.fresh' (i:=1) rfl rfl,hH.fresh' (i:=0) rfl rfl,(hH.get (i:=1) rfl rfl).lt⟩⟩) ?_
 rintro ⟨kT,yT,pT,cT,bT⟩ w1 ⟨hk,hOT,hpT,hB39⟩ hf1 hH1 KLT hKLT
 have hs1:w.heap.size≤w1.heap.size:=hf1.size
 have hk1:vQ w w1:=hKd _ _ hf1
 have hKd:=fun W=>Je (W:=W) hk1 (Nat.le_refl _)
 have hH:=hH1.again (W:=[ju,pVT,xZ,yq,vD,xS]) (Nat.le_refl _) (yV.own (.row (.ro (.ro (.ro .nil rfl) rfl) rfl) rfl) hOT rfl)
 have hgT:=hH.geT hOT.hw hs1
 refine C.begin ⟨w1,w.heap.size,[ju,pVT,xZ,yq,vD,xS]⟩ [yT,Kg b41 x (.slice pT kT cT) (.slice none 0 0) (.slice none 0 0) (.slice none 0 0) (.slice none 0 0) (.slice p26 (0+x.comments.length) c26) b39,⟨b39,tVT,cVT x.per,false,true,none⟩,ro y26,⟨b1,31,[.slice pt x.types.length ct,.string x.deflt,.slice ps x.samples.length csm,.slice pm x.mappings.length cm,.slice pl x.locs.length cl,.slice pf x.funcs.length cf,.slice pc x.comments.length cc,.string x.drop,.string x.keep,.int .i64 x.time,.int .i64 x.dur,.int .i64 x.period,.string x.per.ty,.string x.per.unit],false,true,none⟩] jx hH ?_
 try dsimp only
 clear hH
 refine sQ fun K5=>jb (jS (k:=K5 (sQ fun K6=>?_)))
 refine jq rfl (fun h46=>?_) (fun h46=>?_)
 ·have hkT:kT<x.types.length:=by omega
  obtain ⟨qb,qo,cs,rfl,hcs,hR,hcell⟩:=hxt kT x.types[kT] (gE hkT)
  unfold xz at hR
  subst hR
  refine jg (K6 (sQ fun K7=>jh (sQ fun K8=>jb (jJ KI zq (k:=?_)))))
  refine jp rfl (fun a w ha hH hf=>kD XB zq rfl rfl (hcell w (hKd _ _ hf)) ha) (jW (zs:=[(.string ⟨#[]⟩),(.string ⟨#[]⟩)]) qkF rfl fun b5=>jB [_,_] [_,_,_,_,_,_] 0 zq (k:=K8 ?_))
  refine jC 11 (lts [0,1,2,3,4,5]++(6,false)::((7,false)::((8,false)::(lts [9,10]++(11,false)::[])))) [0,2] rfl (by kernel_rfl) (by kernel_rfl) (dM [0,2] (k:=dM [0,2] (k:=dN [0,2] (k:=dF [0,2] 0 jz JA (k:=dH [0,2] 1 Qx (k:=?_))))))
  refine vV rfl rfl (jd [0,2] rfl) (fun a w ha hS=>Ju (vs:=[_,_]) 0 rfl rfl XB zq rfl rfl rfl ha hS) (dE (h:=fun Kd=>?_))
  refine qev (T:=tVT) (cs:=cVT x.types[kT]) call84 rfl rfl (fun w hH hf=>qbM w _ x.types[kT] rfl) fun b55=>?_
  refine Kd (sb [1,3]) (dE (h:=fun Kd=>kj zV yO qkd rfl rfl rfl rfl rfl fun b56=>Kd (sb [2,4]) (dE (h:=fun Kd=>?_))))
  refine qY 2 rfl hOT zV qkt rfl rfl rfl rfl rfl ox rfl fun y57 p57 c57 hO57=>?_
  refine Kd (sb [1,3]) (dN [1,3] (k:=dF [1,3] 0 jz JA (k:=dE (h:=fun Kd=>jB [_,_,_,_,_,_,_,_,_,_,_,_,_,_,_,_,_,_] [_,_,_,_,_,_,_] 3 JA (k:=Kd (.inl rfl) (K7 (CJ.t [(1,_),(3,_),(43,_),(44,_),(45,_)] (k:=jb (jI (k:=jM (k:=jw (ji ?_))))))))))))
  exact fun w' hH hf=>hKLT (kT+1,y57,p57,c57,bT++[b55]) _ w' ⟨hkT,by rw[← JS];exact hO57,hpT.push hkT hf.size (fun _ _ h=>kC hf h rfl) (hH.get (i:=0) rfl rfl) (hH.fresh' (i:=0) rfl rfl) hB39.2.2 (hH.get (i:=0) rfl rfl).lt,⟨hB39.1,hB39.2.1,Nat.lt_of_lt_of_le hB39.2.2 hf.size⟩⟩ (qW hf1 (.inl (Nat.le_refl _)) hf) (hH.2.2.2.2.2.2.back hf1.size (.inl (Nat.le_refl _))) (by simp only;omega) sR
 ·have hPT:=hpT.full ox
  refine jt (K3 (sQ fun K9=>sQ fun K10=>jb (jF 3 kW QB (k:=jH 4 Yw (k:=jE JH (k:=jM (k:=K10 (jh ?_))))))))
  refine jZ (σ:=Nat×Ent×Option Addr×Nat×List Nat) (fun s=>[(1,ptr b1),(3,ptr b41),(62,.slice pm x.mappings.length cm),(63,.int .i64 (x.mappings.length:Nat)),(64,.int .i64 (s.1:Nat))])
   (fun s=>[s.2.1,ro yT,Kg b41 x (.slice pT kT cT) (.slice none 0 0) (.slice s.2.2.1 s.1 s.2.2.2.1) (.slice none 0 0) (.slice none 0 0) (.slice p26 (0+x.comments.length) c26) b39,⟨b39,tVT,cVT x.per,false,true,none⟩,ro y26,⟨b1,31,[.slice pt x.types.length ct,.string x.deflt,.slice ps x.samples.length csm,.slice pm x.mappings.length cm,.slice pl x.locs.length cl,.slice pf x.funcs.length cf,.slice pc x.comments.length cc,.string x.drop,.string x.keep,.int .i64 x.time,.int .i64 x.dur,.int .i64 x.period,.string x.per.ty,.string x.per.unit],false,true,none⟩])
   (fun s w'=>s.1≤x.mappings.length∧Own xZ 1 s.2.1 s.2.2.1 s.1 s.2.2.2.1 (s.2.2.2.2.map ptr)∧yD w.heap.size w' s.2.2.2.2 (x.mappings.take s.1) φM∧(w.heap.size≤b39∧w.heap.size≤b41∧b39<w'.heap.size)∧yD (b39+1) w' bT x.types φT)
   (fun s=>x.mappings.length - s.1) (0,qQ xZ,none,0,[]) sR (fun w' hH hf=>⟨Hp.off (hH.roHead),Nat.zero_le _,Own.nil,yD.nil,⟨hB39.1,hB39.2.1,Nat.lt_of_lt_of_le hB39.2.2 hf.size⟩,hPT.mono hf.size (fun _ _ h=>kC hf h rfl)⟩) ?_
  rintro ⟨kM,yM,pM,cM,bM⟩ w2 ⟨hk,hOM,hpM,hB39,hPT⟩ hf2 hH2 KLM hKLM
  have hs2:w.heap.size≤w2.heap.size:=Nat.le_trans hs1 hf2.size
  have hk2:vQ w w2:=hKd _ _ hf2
  have hKd:=fun W=>Je (W:=W) hk2 (Nat.le_refl _)
  have hH:=hH2.again (W:=[ju,pVT,xZ,yq,vD,xS]) hs1 (yV.own (.ro (.row (.ro (.ro (.ro .nil rfl) rfl) rfl) rfl) rfl) hOM rfl)
  have hgM:=hH.geT hOM.hw hs2
  refine C.begin ⟨w2,w.heap.size,[ju,pVT,xZ,yq,vD,xS]⟩ [yM,ro yT,Kg b41 x (.slice pT kT cT) (.slice none 0 0) (.slice pM kM cM) (.slice none 0 0) (.slice none 0 0) (.slice p26 (0+x.comments.length) c26) b39,⟨b39,tVT,cVT x.per,false,true,none⟩,ro y26,⟨b1,31,[.slice pt x.types.length ct,.string x.deflt,.slice ps x.samples.length csm,.slice pm x.mappings.length cm,.slice pl x.locs.length cl,.slice pf x.funcs.length cf,.slice pc x.comments.length cc,.string x.drop,.string x.keep,.int .i64 x.time,.int .i64 x.dur,.int .i64 x.period,.string x.per.ty,.string x.per.unit],false,true,none⟩] jx hH ?_
  try dsimp only
  clear hH
  refine sQ fun K11=>jb (jS (k:=K11 (sQ fun K12=>?_)))
  refine jq rfl (fun h65=>?_) (fun h65=>?_)
  ·have hkM:kM<x.mappings.length:=by omega
   obtain ⟨qb,qo,cs,rfl,hcs,hR,hcell⟩:=hxm kM x.mappings[kM] (gE hkM)
   obtain ⟨rfl, -⟩:=hR
   refine jg (K12 (sQ fun K13=>jh (sQ fun K14=>jb (jJ JH Ky (k:=?_)))))
   refine jp rfl (fun a w ha hH hf=>kD qcU Ky rfl rfl (hcell w (hKd _ _ hf)) ha) (jW (zs:=[(.int .u64 0),(.int .u64 0),(.int .u64 0),(.int .u64 0),(.string ⟨#[]⟩),(.string ⟨#[]⟩),(.bool false),(.bool false),(.bool false),(.bool false)]) qeS rfl fun b7=>jB [_,_,_,_,_,_,_,_,_,_] [_,_,_,_,_,_,_] 0 Ky (k:=K14 ?_))
   refine jC 31 (lts [0,1,2,3,4,5,6,7,8,9,10,11,12,13,14,15,16,17,18,19,20,21,22,23,24,25]++(26,false)::((27,false)::((28,false)::(lts [29,30]++(31,false)::[])))) [0,3] rfl (by kernel_rfl) (by kernel_rfl) (dM [0,3] (k:=dM [0,3] (k:=dN [0,3] (k:=dF [0,3] 3 jz zD (k:=dH [0,3] 1 KX (k:=dF [0,3] 0 Xf kU (k:=dH [0,3] 0 vy (k:=dF [0,3] 1 Xf kU (k:=dH [0,3] 0 vy (k:=dF [0,3] 2 Xf kU (k:=dH [0,3] 0 vy (k:=dF [0,3] 3 Xf kU (k:=dH [0,3] 0 vy (k:=?_))))))))))))))
   refine dF [0,3] 4 Xf so9 (k:=dH [0,3] 0 ag9 (k:=dF [0,3] 5 Xf so9 (k:=dH [0,3] 0 ag9 (k:=dF [0,3] 6 Xf so4 (k:=dH [0,3] 0 ag4 (k:=dF [0,3] 7 Xf so4 (k:=dH [0,3] 0 ag4 (k:=dF [0,3] 8 Xf so4 (k:=dH [0,3] 0 ag4 (k:=dF [0,3] 9 Xf so4 (k:=dH [0,3] 0 ag4 (k:=?_))))))))))))
   refine jo rfl rfl (jd [0,3] rfl) (fun _ _ h=>vb (cs:=[_,_,_,_,_,_,_,_,_,_,(.int .i64 0),(.int .i64 0)]) bt130 rfl rfl h) (dE (h:=fun Kd=>qA (vs:=[_,_,_,_,_,_,_,_,_,_,_,_]) rfl rfl fun b94=>Kd (sb [1,4]) (dE (h:=fun Kd=>kj zn zT qbH rfl rfl rfl rfl rfl fun b95=>Kd (sb [2,5]) (dE (h:=fun Kd=>?_))))))
   refine qY 2 rfl hOM zn qhZ rfl rfl rfl rfl rfl ox rfl fun y96 p96 c96 hO96=>?_
   refine Kd (sb [1,4]) (dN [1,4] (k:=dF [1,4] 3 jz zD (k:=dE (h:=fun Kd=>jB [_,_,_,_,_,_,_,_,_,_,_,_,_,_,_,_,_,_] [_,_,_,_,_,_,_,_] 4 zD (k:=Kd (.inl rfl) (K13 (CJ.t [(1,_),(3,_),(62,_),(63,_),(64,_)] (k:=jb (jI (k:=jM (k:=jw (ji ?_))))))))))))
   exact fun w' hH hf=>hKLM (kM+1,y96,p96,c96,bM++[b94]) _ w' ⟨hkM,by rw[← JS];exact hO96,hpM.push hkM hf.size (fun _ _ h=>kC hf h rfl) (hH.get (i:=0) rfl rfl) (hH.fresh' (i:=0) rfl rfl) hs2 (hH.get (i:=0) rfl rfl).lt,⟨hB39.1,hB39.2.1,Nat.lt_of_lt_of_le hB39.2.2 hf.size⟩,hPT.mono hf.size (fun _ _ h=>kC hf h rfl)⟩ (qW hf2 (.inr fun _ h=>h) hf) (hH.2.2.2.2.2.2.back hf2.size (.inr fun _ h=>h)) (by simp only;omega) sR
  ·have hPM:=hpM.full ox
   refine jt (K9 (sQ fun K15=>sQ fun K16=>jb (jF 5 kW Qz (k:=jH 5 Yu (k:=jE JF (k:=jM (k:=K16 (jh ?_))))))))
   refine jZ (σ:=Nat×Ent×Option Addr×Nat×List Nat) (fun s=>[(1,ptr b1),(3,ptr b41),(101,.slice pf x.funcs.length cf),(102,.int .i64 (x.funcs.length:Nat)),(103,.int .i64 (s.1:Nat))])
    (fun s=>[s.2.1,ro yM,ro yT,Kg b41 x (.slice pT kT cT) (.slice none 0 0) (.slice pM kM cM) (.slice none 0 0) (.slice s.2.2.1 s.1 s.2.2.2.1) (.slice p26 (0+x.comments.length) c26) b39,⟨b39,tVT,cVT x.per,false,true,none⟩,ro y26,⟨b1,31,[.slice pt x.types.length ct,.string x.deflt,.slice ps x.samples.length csm,.slice pm x.mappings.length cm,.slice pl x.locs.length cl,.slice pf x.funcs.length cf,.slice pc x.comments.length cc,.string x.drop,.string x.keep,.int .i64 x.time,.int .i64 x.dur,.int .i64 x.period,.string x.per.ty,.string x.per.unit],false,true,none⟩])
    (fun s w'=>s.1≤x.funcs.length∧Own yq 1 s.2.1 s.2.2.1 s.1 s.2.2.2.1 (s.2.2.2.2.map ptr)∧yD w.heap.size w' s.2.2.2.2 (x.funcs.take s.1) φF∧(w.heap.size≤b39∧w.heap.size≤b41∧b39<w'.heap.size)∧yD (b39+1) w' bT x.types φT∧yD w.heap.size w' bM x.mappings φM)
    (fun s=>x.funcs.length - s.1) (0,qQ yq,none,0,[]) sR (fun w' hH hf=>⟨Hp.off (hH.roHead),Nat.zero_le _,Own.nil,yD.nil,⟨hB39.1,hB39.2.1,Nat.lt_of_lt_of_le hB39.2.2 hf.size⟩,hPT.mono hf.size (fun _ _ h=>kC hf h rfl),hPM.mono hf.size (fun _ _ h=>kC hf h rfl)⟩) ?_
   rintro ⟨kF,yF,pF,cF,bF⟩ w3 ⟨hk,hOF,hpF,hB39,hPT,hPM⟩ hf3 hH3 KLF hKLF
   have hs3:w.heap.size≤w3.heap.size:=Nat.le_trans hs2 hf3.size
   have hk3:vQ w w3:=hKd _ _ hf3
   have hKd:=fun W=>Je (W:=W) hk3 (Nat.le_refl _)
   have hH:=hH3.again (W:=[ju,pVT,xZ,yq,vD,xS]) hs2 (yV.own (.ro (.ro (.row (.ro (.ro (.ro .nil rfl) rfl) rfl) rfl) rfl) rfl) hOF rfl)
   have hgF:=hH.geT hOF.hw hs3
   refine C.begin ⟨w3,w.heap.size,[ju,pVT,xZ,yq,vD,xS]⟩ [yF,ro yM,ro yT,Kg b41 x (.slice pT kT cT) (.slice none 0 0) (.slice pM kM cM) (.slice none 0 0) (.slice pF kF cF) (.slice p26 (0+x.comments.length) c26) b39,⟨b39,tVT,cVT x.per,false,true,none⟩,ro y26,⟨b1,31,[.slice pt x.types.length ct,.string x.deflt,.slice ps x.samples.length csm,.slice pm x.mappings.length cm,.slice pl x.locs.length cl,.slice pf x.funcs.length cf,.slice pc x.comments.length cc,.string x.drop,.string x.keep,.int .i64 x.time,.int .i64 x.dur,.int .i64 x.period,.string x.per.ty,.string x.per.unit],false,true,none⟩] jx hH ?_
   try dsimp only
   clear hH
   refine sQ fun K17=>jb (jS (k:=K17 (sQ fun K18=>?_)))
   refine jq rfl (fun h104=>?_) (fun h104=>?_)
   ·have hkF:kF<x.funcs.length:=by omega
    obtain ⟨qb,qo,cs,rfl,hcs,hR,hcell⟩:=hxf kF x.funcs[kF] (gE hkF)
    obtain ⟨rfl, -⟩:=hR
    refine jg (K18 (sQ fun K19=>jh (sQ fun K20=>jb (jJ JF Kx (k:=?_)))))
    refine jp rfl (fun a w ha hH hf=>kD qcT Kx rfl rfl (hcell w (hKd _ _ hf)) ha) (jW (zs:=[(.int .u64 0),(.string ⟨#[]⟩),(.string ⟨#[]⟩),(.string ⟨#[]⟩),(.int .i64 0)]) qeR rfl fun b9=>jB [_,_,_,_,_] [_,_,_,_,_,_,_,_] 0 Kx (k:=K20 ?_))
    refine jC 21 (lts [0,1,2,3,4,5,6,7,8,9,10,11,12,13,14,15]++(16,false)::((17,false)::((18,false)::(lts [19,20]++(21,false)::[])))) [0,4] rfl (by kernel_rfl) (by kernel_rfl) (dM [0,4] (k:=dM [0,4] (k:=dN [0,4] (k:=dF [0,4] 5 jz zw (k:=dH [0,4] 1 Kw (k:=dF [0,4] 0 ZI kU (k:=dH [0,4] 0 vy (k:=dF [0,4] 1 ZI so9 (k:=dH [0,4] 0 ag9 (k:=dF [0,4] 2 ZI so9 (k:=dH [0,4] 0 ag9 (k:=dF [0,4] 3 ZI so9 (k:=dH [0,4] 0 ag9 (k:=?_))))))))))))))
    refine dF [0,4] 4 ZI so2 (k:=dH [0,4] 0 ag2 (k:=?_))
    refine jo rfl rfl (jd [0,4] rfl) (fun _ _ h=>vb (cs:=[_,_,_,_,_,(.int .i64 0),(.int .i64 0),(.int .i64 0)]) bt133 rfl rfl h) (dE (h:=fun Kd=>qA (vs:=[_,_,_,_,_,_,_,_]) rfl rfl fun b123=>Kd (sb [1,5]) (dE (h:=fun Kd=>kj ze zd qbG rfl rfl rfl rfl rfl fun b124=>Kd (sb [2,6]) (dE (h:=fun Kd=>?_))))))
    refine qY 2 rfl hOF ze qhY rfl rfl rfl rfl rfl ox rfl fun y125 p125 c125 hO125=>?_
    refine Kd (sb [1,5]) (dN [1,5] (k:=dF [1,5] 5 jz zw (k:=dE (h:=fun Kd=>jB [_,_,_,_,_,_,_,_,_,_,_,_,_,_,_,_,_,_] [_,_,_,_,_,_,_,_,_] 5 zw (k:=Kd (.inl rfl) (K19 (CJ.t [(1,_),(3,_),(101,_),(102,_),(103,_)] (k:=jb (jI (k:=jM (k:=jw (ji ?_))))))))))))
    exact fun w' hH hf=>hKLF (kF+1,y125,p125,c125,bF++[b123]) _ w' ⟨hkF,by rw[← JS];exact hO125,hpF.push hkF hf.size (fun _ _ h=>kC hf h rfl) (hH.get (i:=0) rfl rfl) (hH.fresh' (i:=0) rfl rfl) hs3 (hH.get (i:=0) rfl rfl).lt,⟨hB39.1,hB39.2.1,Nat.lt_of_lt_of_le hB39.2.2 hf.size⟩,hPT.mono hf.size (fun _ _ h=>kC hf h rfl),hPM.mono hf.size (fun _ _ h=>kC hf h rfl)⟩ (qW hf3 (.inr fun _ h=>h) hf) (hH.2.2.2.2.2.2.back hf3.size (.inr fun _ h=>h)) (by simp only;omega) sR
   ·have hPF:=hpF.full ox
    refine jt (K15 (sQ fun K21=>sQ fun K22=>jb (jF 4 kW QA (k:=jH 6 Yv (k:=jE JG (k:=jM (k:=K22 (jh ?_))))))))
    refine jZ (σ:=Nat×Ent×Option Addr×Nat×List Nat) (fun s=>[(1,ptr b1),(3,ptr b41),(130,.slice pl x.locs.length cl),(131,.int .i64 (x.locs.length:Nat)),(132,.int .i64 (s.1:Nat))])
     (fun s=>[s.2.1,ro yF,ro yM,ro yT,Kg b41 x (.slice pT kT cT) (.slice none 0 0) (.slice pM kM cM) (.slice s.2.2.1 s.1 s.2.2.2.1) (.slice pF kF cF) (.slice p26 (0+x.comments.length) c26) b39,⟨b39,tVT,cVT x.per,false,true,none⟩,ro y26,⟨b1,31,[.slice pt x.types.length ct,.string x.deflt,.slice ps x.samples.length csm,.slice pm x.mappings.length cm,.slice pl x.locs.length cl,.slice pf x.funcs.length cf,.slice pc x.comments.length cc,.string x.drop,.string x.keep,.int .i64 x.time,.int .i64 x.dur,.int .i64 x.period,.string x.per.ty,.string x.per.unit],false,true,none⟩])
     (fun s w'=>s.1≤x.locs.length∧(Own vD 1 s.2.1 s.2.2.1 s.1 s.2.2.2.1 (s.2.2.2.2.map ptr)∧(s.2.1.on=true→0<s.1))∧yD w.heap.size w' s.2.2.2.2 (x.locs.take s.1) (fun v b l=>ZS v bM bF b l∧KZ w.heap.size v b)∧(w.heap.size≤b39∧w.heap.size≤b41∧b39<w'.heap.size)∧yD (b39+1) w' bT x.types φT∧yD w.heap.size w' bM x.mappings φM∧yD w.heap.size w' bF x.funcs φF)
     (fun s=>x.locs.length - s.1) (0,qQ vD,none,0,[]) sR (fun w' hH hf=>⟨Hp.off (hH.roHead),Nat.zero_le _,⟨Own.nil,fun h=>by cases h⟩,yD.nil,⟨hB39.1,hB39.2.1,Nat.lt_of_lt_of_le hB39.2.2 hf.size⟩,hPT.mono hf.size (fun _ _ h=>kC hf h rfl),hPM.mono hf.size (fun _ _ h=>kC hf h rfl),hPF.mono hf.size (fun _ _ h=>kC hf h rfl)⟩) ?_
    rintro ⟨kL,yL,pL,cL,bL⟩ w4 ⟨hk,⟨hOL,hnL⟩,hpL,hB39,hPT,hPM,hPF⟩ hf4 hH4 KLL hKLL
    have hs4:w.heap.size≤w4.heap.size:=Nat.le_trans hs3 hf4.size
    have hk4:vQ w w4:=hKd _ _ hf4
    have hKd:=fun W=>Je (W:=W) hk4 (Nat.le_refl _)
    have hH:=hH4.again (W:=[ju,pVT,xZ,yq,vD,xS]) hs3 (yV.own (.ro (.ro (.ro (.row (.ro (.ro (.ro .nil rfl) rfl) rfl) rfl) rfl) rfl) rfl) hOL rfl)
    have hgL:=hH.geT hOL.hw hs4
    refine C.begin ⟨w4,w.heap.size,[ju,pVT,xZ,yq,vD,xS]⟩ [yL,ro yF,ro yM,ro yT,Kg b41 x (.slice pT kT cT) (.slice none 0 0) (.slice pM kM cM) (.slice pL kL cL) (.slice pF kF cF) (.slice p26 (0+x.comments.length) c26) b39,⟨b39,tVT,cVT x.per,false,true,none⟩,ro y26,⟨b1,31,[.slice pt x.types.length ct,.string x.deflt,.slice ps x.samples.length csm,.slice pm x.mappings.length cm,.slice pl x.locs.length cl,.slice pf x.funcs.length cf,.slice pc x.comments.length cc,.string x.drop,.string x.keep,.int .i64 x.time,.int .i64 x.dur,.int .i64 x.period,.string x.per.ty,.string x.per.unit],false,true,none⟩] jx hH ?_
    try dsimp only
    clear hH
    refine sQ fun K23=>jb (jS (k:=K23 (sQ fun K24=>?_)))
    refine jq rfl (fun h133=>?_) (fun h133=>?_)
    ·have hkL:kL<x.locs.length:=by omega
     obtain ⟨qb,qo,cs,rfl,hcs,hR,hcell⟩:=hxl kL x.locs[kL] (gE hkL)
     obtain ⟨l1,rfl, -, -, -,hl1⟩:=hR
     obtain ⟨p1,c1,rfl, -,hx1⟩:=hl1.open
     obtain ⟨hmap,n7,hlin⟩:=hx.tab.locs x.locs[kL] (List.getElem_mem hkL)
     have hlM:kM=bM.length:=by have:=hOM.sl.1;simp at this;omega
     have hlF:kF=bF.length:=by have:=hOF.sl.1;simp at this;omega
     have hlM2:=hPM.each.1
     have hlF2:=hPF.each.1
     refine jg (K24 (sQ fun K25=>jh (sQ fun K26=>jb (jJ JG zg (k:=?_)))))
     refine jp rfl (fun a w ha hH hf=>kD XA zg rfl rfl (hcell w (hKd _ _ hf)) ha) (jW (zs:=[(.int .u64 0),(.int .i64 0),(.int .u64 0),(.slice none 0 0)]) YL rfl fun b11=>jB [_,_,_,_] [_,_,_,_,_,_,_,_,_] 0 zg (k:=K26 (sQ fun K27=>jb (jF 0 zr kU (k:=jH 0 vy (k:=jF 2 zr kU (k:=jH 0 vy (k:=?_))))))))
     refine jn rfl (fun _ _ h=>vb (cs:=[_,(.pointer none),_,(.slice none 0 0),(.bool false),(.int .u64 0)]) bt137 rfl rfl h) (qA (vs:=[_,_,_,_,_,_]) rfl rfl fun b141=>jA (k:=K27 (CJ.t [(1,_),(3,_),(11,_),(12,_),(130,_),(131,_),(132,_)] (k:=sQ fun K28=>sQ fun K29=>jb (jF 1 zr so3 (k:=jH 1 ag3 (k:=?_)))))))
     refine jn rfl (fun _ _ h=>Jl rfl rfl h) (K29 ?_)
     refine jq rfl (fun h144=>?_) (fun h144=>?_)
     ·have hzM:x.locs[kL].mapping=((x.locs[kL].mapping.toNat:Nat):Int):=by omega
      have hltM:x.locs[kL].mapping.toNat<kM:=by omega
      obtain ⟨honM,hpeM⟩:=hOM.pos ox
      refine jC 11 (lts [0,1,2,3,4,5,6,7,8,9,10]++(11,false)::[]) [1,6,4] rfl (by kernel_rfl) (by kernel_rfl) (dM [1,6,4] (k:=dM [1,6,4] (k:=dN [1,6,4] (k:=dF [1,6,4] 3 jz zD (k:=dH [1,6,4] 1 KX (k:=dF [1,6,4] 1 zr so3 (k:=dH [1,6,4] 0 ag3 (k:=?_))))))))
      refine jo rfl rfl (jd [1,6,4] rfl) (fun _ _ h=>zZ _ zn zT rfl hpeM rfl hzM hltM h) (vV rfl rfl (jd [1,6,4] rfl) (fun a w ha hS=>kP Qw rfl (hOM.cell (hS.1 (ro yM) zp honM) (Vh h144 (hlM▸hltM))) ha) (dN [1,6,4] (k:=dF [1,6,4] 1 vc zT (k:=dE (h:=fun Kd=>jB [_,_,_,_,_,_] [_,_,_,_,_,_,_,_,_,_] 0 zT (k:=Kd (.inl rfl) (K28 (CJ.t [(1,_),(3,_),(11,_),(12,_),(130,_),(131,_),(132,_)] (k:=sQ fun K30=>sQ fun K31=>jb (jF 3 zr Vx (k:=jH 1 Yt (k:=?_))))))))))))
      refine jE Kz (k:=jM (k:=K31 (jh ?_)))
      refine jZ (σ:=Nat×Ent×Option Addr×Nat) (fun s=>[(1,ptr b1),(3,ptr b41),(12,ptr b141),(130,.slice (some ⟨qb,qo,none⟩) x.locs.length cl),(131,.int .i64 (x.locs.length:Nat)),(132,.int .i64 (kL:Nat)),(157,.slice p1 x.locs[kL].lines.length c1),(158,.int .i64 (x.locs[kL].lines.length:Nat)),(159,.int .i64 (s.1:Nat))])
       (fun s=>[s.2.1,⟨b141,qH,KB bM x.locs[kL] (.slice s.2.2.1 s.1 s.2.2.2),true,true,none⟩,yL,ro yF,ro yM,ro yT,Kg b41 x (.slice pT kT cT) (.slice none 0 0) (.slice pM kM cM) (.slice pL kL cL) (.slice pF kF cF) (.slice p26 (0+x.comments.length) c26) b39,⟨b39,tVT,cVT x.per,false,true,none⟩,ro y26,⟨b1,31,[.slice pt x.types.length ct,.string x.deflt,.slice ps x.samples.length csm,.slice pm x.mappings.length cm,.slice (some ⟨qb,qo,none⟩) x.locs.length cl,.slice pf x.funcs.length cf,.slice pc x.comments.length cc,.string x.drop,.string x.keep,.int .i64 x.time,.int .i64 x.dur,.int .i64 x.period,.string x.per.ty,.string x.per.unit],false,true,none⟩])
       (fun s w'=>s.1≤x.locs[kL].lines.length∧Own kq 3 s.2.1 s.2.2.1 s.1 s.2.2.2 ((x.locs[kL].lines.take s.1).flatMap (qk bF)))
       (fun s=>x.locs[kL].lines.length - s.1) (0,qQ kq,none,0) sR (fun w' hH hf=>⟨(hH.drop 1).off,Nat.zero_le _,Own.nil⟩) ?_
      rintro ⟨j,yN,pN,cN⟩ wN ⟨hj,hON⟩ hfN hHN KN hKN
      refine C.begin _ _ hfN hHN ?_
      try dsimp only
      refine sQ fun K32=>jb (jS (k:=K32 (sQ fun K33=>?_)))
      refine jq rfl (fun h160=>?_) (fun h160=>?_)
      ·have hj':j<x.locs[kL].lines.length:=by omega
       obtain ⟨qb2,qo2,cs2,rfl, -,hR2,hcell2⟩:=hx1 j x.locs[kL].lines[j] (gE hj')
       obtain ⟨rfl, -, -⟩:=hR2
       have hfn:=hlin x.locs[kL].lines[j] (List.getElem_mem hj')
       refine jg (K33 (sQ fun K34=>jh (sQ fun K35=>jb (jJ Kz zU (k:=?_)))))
       refine jp rfl (fun a w ha hH hf=>kD qcW zU rfl rfl (hcell2 w (hKd _ _ hf)) ha) (jW (zs:=[(.int .i64 0),(.int .i64 0)]) qdU rfl fun b14=>jB [_,_] [_,_,_,_,_,_,_,_,_,_,_] 0 zU (k:=K35 (sQ fun K36=>jb (jF 1 QP so2 (k:=jH 0 ag2 (k:=?_))))))
       refine jn rfl (fun _ _ h=>vb (cs:=[(.pointer none),_,(.int .u64 0)]) qih rfl rfl h) (jW (zs:=[(.pointer none),(.int .i64 0),(.int .u64 0)]) QH rfl fun b15=>jB [_,_,_] [_,_,_,_,_,_,_,_,_,_,_,_] 0 xE (k:=K36 (sQ fun K37=>sQ fun K38=>jb (jF 0 QP so3 (k:=jH 1 ag3 (k:=?_))))))
       refine jn rfl (fun _ _ h=>Jl rfl rfl h) (K38 (CJ.t [(1,_),(3,_),(12,_),(14,_),(15,_),(130,_),(131,_),(132,_),(157,_),(158,_),(159,_),(168,_)] (k:=?_)))
       refine jq rfl (fun h168=>?_) (fun h168=>?_)
       ·have hzF:x.locs[kL].lines[j].fn=((x.locs[kL].lines[j].fn.toNat:Nat):Int):=by omega
        have hltF:x.locs[kL].lines[j].fn.toNat<kF:=by omega
        obtain ⟨honF,hpeF⟩:=hOF.pos ox
        refine jC 9 (lts [0,1,2,3,4,5,6,7,8]++(9,false)::[]) [1,8,5] rfl (by kernel_rfl) (by kernel_rfl) (dM [1,8,5] (k:=dN [1,8,5] (k:=dF [1,8,5] 5 jz zw (k:=dH [1,8,5] 1 Kw (k:=dF [1,8,5] 0 QP so3 (k:=dH [1,8,5] 0 ag3 (k:=?_)))))))
        refine jo rfl rfl (jd [1,8,5] rfl) (fun _ _ h=>zZ _ ze zd rfl hpeF rfl hzF hltF h) (vV rfl rfl (jd [1,8,5] rfl) (fun a w ha hS=>kP Kv rfl (hOF.cell (hS.1 (ro yF) zp honF) (Vh h168 (hlF▸hltF))) ha) (dF [1,8,5] 0 Jj zd (k:=dE (h:=fun Kd=>jB [_,_,_] [_,_,_,_,_,_,_,_,_,_,_,_] 0 zd (k:=Kd (.inl rfl) (K37 ?_))))))
        refine jC 10 (lts [0,1,2,3,4,5]++(6,false)::((7,false)::(lts [8,9]++(10,false)::[]))) [0,3] rfl (by kernel_rfl) (by kernel_rfl) (dM [0,3] (k:=dM [0,3] (k:=dN [0,3] (k:=dF [0,3] 3 vc xW (k:=dH [0,3] 1 zX (k:=?_))))))
        refine vV rfl rfl (jd [0,3] rfl) (fun a w ha hS=>Ju (vs:=[_,_,_]) 0 rfl rfl Yo xE rfl rfl rfl ha hS) (dE (h:=fun Kd=>kj xX xE QH rfl rfl rfl rfl rfl fun b184=>Kd (sb [1,4]) (dE (h:=fun Kd=>?_))))
        refine qY 2 rfl hON xX qcK rfl rfl rfl rfl rfl ox rfl fun y185 p185 c185 hO185=>?_
        refine Kd (sb [0,3]) (dN [0,3] (k:=dF [0,3] 3 vc xW (k:=dE (h:=fun Kd=>jB [_,_,_,_,_,_] [_,_,_,_,_,_,_,_,_,_,_,_] 3 xW (k:=Kd (.inl rfl) (K34 (CJ.t [(1,_),(3,_),(12,_),(130,_),(131,_),(132,_),(157,_),(158,_),(159,_)] (k:=jb (jI (k:=jM (k:=jw (ji ?_))))))))))))
        have hfm:Own kq 3 y185 p185 (j+1) c185 ((x.locs[kL].lines.take (j+1)).flatMap (qk bF)):=by
         rw[← JL hj']
         first
         |exact hO185
         |(rw[show qk bF x.locs[kL].lines[j]=[.pointer none,.int .i64 x.locs[kL].lines[j].line,.int .u64 0] from by simp[qk,Ja h168]];exact hO185)
        exact fun w' hH hf=>hKN (j+1,y185,p185,c185) _ w' ⟨hj',hfm⟩ hf hH.2.2.2.2.2.2 (by simp only;omega) ⟨rfl,rfl,rfl,rfl,rfl,rfl,rfl,rfl,rfl,trivial⟩
       ·refine jg (K37 (jC 10 (lts [0,1,2,3,4,5]++(6,false)::((7,false)::(lts [8,9]++(10,false)::[]))) [0,3] rfl (by kernel_rfl) (by kernel_rfl) (dM [0,3] (k:=dM [0,3] (k:=dN [0,3] (k:=dF [0,3] 3 vc xW (k:=dH [0,3] 1 zX (k:=?_))))))))
        refine vV rfl rfl (jd [0,3] rfl) (fun a w ha hS=>Ju (vs:=[_,_,_]) 0 rfl rfl Yo xE rfl rfl rfl ha hS) (dE (h:=fun Kd=>kj xX xE QH rfl rfl rfl rfl rfl fun b184=>Kd (sb [1,4]) (dE (h:=fun Kd=>?_))))
        refine qY 2 rfl hON xX qcK rfl rfl rfl rfl rfl ox rfl fun y185 p185 c185 hO185=>?_
        refine Kd (sb [0,3]) (dN [0,3] (k:=dF [0,3] 3 vc xW (k:=dE (h:=fun Kd=>jB [_,_,_,_,_,_] [_,_,_,_,_,_,_,_,_,_,_,_] 3 xW (k:=Kd (.inl rfl) (K34 (CJ.t [(1,_),(3,_),(12,_),(130,_),(131,_),(132,_),(157,_),(158,_),(159,_)] (k:=jb (jI (k:=jM (k:=jw (ji ?_))))))))))))
        have hfm:Own kq 3 y185 p185 (j+1) c185 ((x.locs[kL].lines.take (j+1)).flatMap (qk bF)):=by
         rw[← JL hj']
         first
         |exact hO185
         |(rw[show qk bF x.locs[kL].lines[j]=[.pointer none,.int .i64 x.locs[kL].lines[j].line,.int .u64 0] from by simp[qk,Ja h168]];exact hO185)
        exact fun w' hH hf=>hKN (j+1,y185,p185,c185) _ w' ⟨hj',hfm⟩ hf hH.2.2.2.2.2.2 (by simp only;omega) ⟨rfl,rfl,rfl,rfl,rfl,rfl,rfl,rfl,rfl,trivial⟩
      ·have hON':Own kq 3 yN pN j cN (x.locs[kL].lines.flatMap (qk bF)):=by rw[tL ox]at hON;exact hON
       refine jt (K30 (jb (jM (k:=jM (k:=jN (k:=jF 4 jz xq (k:=jH 6 zY (k:=jM (k:=?_)))))))))
       refine kj xw JW YM rfl rfl rfl rfl rfl fun b195=>?_
       refine qY 2 rfl hOL xw qay rfl rfl rfl rfl rfl ox rfl fun y196 p196 c196 hO196=>?_
       refine jN (k:=jF 4 jz xq (k:=jB [_,_,_,_,_,_,_,_,_,_,_,_,_,_,_,_,_,_] [_,_,_,_,_,_,_,_,_,_] 6 xq (k:=K25 (CJ.t [(1,_),(3,_),(130,_),(131,_),(132,_)] (k:=jb (jI (k:=jM (k:=jw (ji ?_)))))))))
       exact fun w' hH hf=>hKLL (kL+1,y196,p196,c196,bL++[b141]) _ w' ⟨hkL,⟨by rw[← JS];exact hO196,fun _=>Nat.succ_pos _⟩,hpL.push hkL hf.size (fun _ _ h=>⟨h.1.mono (fun _ _ h=>kC hf h rfl) (fun _ _ h=>kC hf h rfl),h.2.mono fun _ _ h=>kC hf h rfl⟩) ⟨⟨_,hH.get (i:=1) rfl rfl,hON'.os (i:=0) hH rfl⟩,⟨_,hH.get (i:=1) rfl rfl,qah hON' hH (i:=0) rfl hs4⟩⟩ (hH.fresh' (i:=1) rfl rfl) hs4 (hH.get (i:=1) rfl rfl).lt,⟨hB39.1,hB39.2.1,Nat.lt_of_lt_of_le hB39.2.2 hf.size⟩,hPT.mono hf.size (fun _ _ h=>kC hf h rfl),hPM.mono hf.size (fun _ _ h=>kC hf h rfl),hPF.mono hf.size (fun _ _ h=>kC hf h rfl)⟩ (qW hf4 (.inr fun _ h=>h) hf) (hH.2.2.2.2.2.2.back hf4.size (.inr fun _ h=>h)) (by simp only;omega) sR
     ·refine jg (K28 (sQ fun K39=>sQ fun K40=>jb (jF 3 zr Vx (k:=jH 1 Yt (k:=jE Kz (k:=jM (k:=K40 (jh ?_))))))))
      refine jZ (σ:=Nat×Ent×Option Addr×Nat) (fun s=>[(1,ptr b1),(3,ptr b41),(12,ptr b141),(130,.slice (some ⟨qb,qo,none⟩) x.locs.length cl),(131,.int .i64 (x.locs.length:Nat)),(132,.int .i64 (kL:Nat)),(157,.slice p1 x.locs[kL].lines.length c1),(158,.int .i64 (x.locs[kL].lines.length:Nat)),(159,.int .i64 (s.1:Nat))])
       (fun s=>[s.2.1,⟨b141,qH,KB bM x.locs[kL] (.slice s.2.2.1 s.1 s.2.2.2),true,true,none⟩,yL,ro yF,ro yM,ro yT,Kg b41 x (.slice pT kT cT) (.slice none 0 0) (.slice pM kM cM) (.slice pL kL cL) (.slice pF kF cF) (.slice p26 (0+x.comments.length) c26) b39,⟨b39,tVT,cVT x.per,false,true,none⟩,ro y26,⟨b1,31,[.slice pt x.types.length ct,.string x.deflt,.slice ps x.samples.length csm,.slice pm x.mappings.length cm,.slice (some ⟨qb,qo,none⟩) x.locs.length cl,.slice pf x.funcs.length cf,.slice pc x.comments.length cc,.string x.drop,.string x.keep,.int .i64 x.time,.int .i64 x.dur,.int .i64 x.period,.string x.per.ty,.string x.per.unit],false,true,none⟩])
       (fun s w'=>s.1≤x.locs[kL].lines.length∧Own kq 3 s.2.1 s.2.2.1 s.1 s.2.2.2 ((x.locs[kL].lines.take s.1).flatMap (qk bF)))
       (fun s=>x.locs[kL].lines.length - s.1) (0,qQ kq,none,0) sR (fun w' hH hf=>⟨by
       have e:KB bM x.locs[kL] (.slice none 0 0)=[.int .u64 x.locs[kL].id,.pointer none,.int .u64 x.locs[kL].addr,.slice none 0 0,.bool false,.int .u64 0]:=by simp[KB,Ja h144]
       show Hp _ _ (_::⟨b141,qH,KB bM x.locs[kL] (.slice none 0 0),true,true,none⟩::_)
       rw[e]
       exact (hH.drop 1).off,Nat.zero_le _,Own.nil⟩) ?_
      rintro ⟨j,yN,pN,cN⟩ wN ⟨hj,hON⟩ hfN hHN KN hKN
      refine C.begin _ _ hfN hHN ?_
      try dsimp only
      refine sQ fun K41=>jb (jS (k:=K41 (sQ fun K42=>?_)))
      refine jq rfl (fun h160=>?_) (fun h160=>?_)
      ·have hj':j<x.locs[kL].lines.length:=by omega
       obtain ⟨qb2,qo2,cs2,rfl, -,hR2,hcell2⟩:=hx1 j x.locs[kL].lines[j] (gE hj')
       obtain ⟨rfl, -, -⟩:=hR2
       have hfn:=hlin x.locs[kL].lines[j] (List.getElem_mem hj')
       refine jg (K42 (sQ fun K43=>jh (sQ fun K44=>jb (jJ Kz zU (k:=?_)))))
       refine jp rfl (fun a w ha hH hf=>kD qcW zU rfl rfl (hcell2 w (hKd _ _ hf)) ha) (jW (zs:=[(.int .i64 0),(.int .i64 0)]) qdU rfl fun b14=>jB [_,_] [_,_,_,_,_,_,_,_,_,_,_] 0 zU (k:=K44 (sQ fun K45=>jb (jF 1 QP so2 (k:=jH 0 ag2 (k:=?_))))))
       refine jn rfl (fun _ _ h=>vb (cs:=[(.pointer none),_,(.int .u64 0)]) qih rfl rfl h) (jW (zs:=[(.pointer none),(.int .i64 0),(.int .u64 0)]) QH rfl fun b15=>jB [_,_,_] [_,_,_,_,_,_,_,_,_,_,_,_] 0 xE (k:=K45 (sQ fun K46=>sQ fun K47=>jb (jF 0 QP so3 (k:=jH 1 ag3 (k:=?_))))))
       refine jn rfl (fun _ _ h=>Jl rfl rfl h) (K47 (CJ.t [(1,_),(3,_),(12,_),(14,_),(15,_),(130,_),(131,_),(132,_),(157,_),(158,_),(159,_),(168,_)] (k:=?_)))
       refine jq rfl (fun h168=>?_) (fun h168=>?_)
       ·have hzF:x.locs[kL].lines[j].fn=((x.locs[kL].lines[j].fn.toNat:Nat):Int):=by omega
        have hltF:x.locs[kL].lines[j].fn.toNat<kF:=by omega
        obtain ⟨honF,hpeF⟩:=hOF.pos ox
        refine jC 9 (lts [0,1,2,3,4,5,6,7,8]++(9,false)::[]) [1,8,5] rfl (by kernel_rfl) (by kernel_rfl) (dM [1,8,5] (k:=dN [1,8,5] (k:=dF [1,8,5] 5 jz zw (k:=dH [1,8,5] 1 Kw (k:=dF [1,8,5] 0 QP so3 (k:=dH [1,8,5] 0 ag3 (k:=?_)))))))
        refine jo rfl rfl (jd [1,8,5] rfl) (fun _ _ h=>zZ _ ze zd rfl hpeF rfl hzF hltF h) (vV rfl rfl (jd [1,8,5] rfl) (fun a w ha hS=>kP Kv rfl (hOF.cell (hS.1 (ro yF) zp honF) (Vh h168 (hlF▸hltF))) ha) (dF [1,8,5] 0 Jj zd (k:=dE (h:=fun Kd=>jB [_,_,_] [_,_,_,_,_,_,_,_,_,_,_,_] 0 zd (k:=Kd (.inl rfl) (K46 ?_))))))
        refine jC 10 (lts [0,1,2,3,4,5]++(6,false)::((7,false)::(lts [8,9]++(10,false)::[]))) [0,3] rfl (by kernel_rfl) (by kernel_rfl) (dM [0,3] (k:=dM [0,3] (k:=dN [0,3] (k:=dF [0,3] 3 vc xW (k:=dH [0,3] 1 zX (k:=?_))))))
        refine vV rfl rfl (jd [0,3] rfl) (fun a w ha hS=>Ju (vs:=[_,_,_]) 0 rfl rfl Yo xE rfl rfl rfl ha hS) (dE (h:=fun Kd=>kj xX xE QH rfl rfl rfl rfl rfl fun b184=>Kd (sb [1,4]) (dE (h:=fun Kd=>?_))))
        refine qY 2 rfl hON xX qcK rfl rfl rfl rfl rfl ox rfl fun y185 p185 c185 hO185=>?_
        refine Kd (sb [0,3]) (dN [0,3] (k:=dF [0,3] 3 vc xW (k:=dE (h:=fun Kd=>jB [_,_,_,_,_,_] [_,_,_,_,_,_,_,_,_,_,_,_] 3 xW (k:=Kd (.inl rfl) (K43 (CJ.t [(1,_),(3,_),(12,_),(130,_),(131,_),(132,_),(157,_),(158,_),(159,_)] (k:=jb (jI (k:=jM (k:=jw (ji ?_))))))))))))
        have hfm:Own kq 3 y185 p185 (j+1) c185 ((x.locs[kL].lines.take (j+1)).flatMap (qk bF)):=by
         rw[← JL hj']
         first
         |exact hO185
         |(rw[show qk bF x.locs[kL].lines[j]=[.pointer none,.int .i64 x.locs[kL].lines[j].line,.int .u64 0] from by simp[qk,Ja h168]];exact hO185)
        exact fun w' hH hf=>hKN (j+1,y185,p185,c185) _ w' ⟨hj',hfm⟩ hf hH.2.2.2.2.2.2 (by simp only;omega) ⟨rfl,rfl,rfl,rfl,rfl,rfl,rfl,rfl,rfl,trivial⟩
       ·refine jg (K46 (jC 10 (lts [0,1,2,3,4,5]++(6,false)::((7,false)::(lts [8,9]++(10,false)::[]))) [0,3] rfl (by kernel_rfl) (by kernel_rfl) (dM [0,3] (k:=dM [0,3] (k:=dN [0,3] (k:=dF [0,3] 3 vc xW (k:=dH [0,3] 1 zX (k:=?_))))))))
        refine vV rfl rfl (jd [0,3] rfl) (fun a w ha hS=>Ju (vs:=[_,_,_]) 0 rfl rfl Yo xE rfl rfl rfl ha hS) (dE (h:=fun Kd=>kj xX xE QH rfl rfl rfl rfl rfl fun b184=>Kd (sb [1,4]) (dE (h:=fun Kd=>?_))))
        refine qY 2 rfl hON xX qcK rfl rfl rfl rfl rfl ox rfl fun y185 p185 c185 hO185=>?_
        refine Kd (sb [0,3]) (dN [0,3] (k:=dF [0,3] 3 vc xW (k:=dE (h:=fun Kd=>jB [_,_,_,_,_,_] [_,_,_,_,_,_,_,_,_,_,_,_] 3 xW (k:=Kd (.inl rfl) (K43 (CJ.t [(1,_),(3,_),(12,_),(130,_),(131,_),(132,_),(157,_),(158,_),(159,_)] (k:=jb (jI (k:=jM (k:=jw (ji ?_))))))))))))
        have hfm:Own kq 3 y185 p185 (j+1) c185 ((x.locs[kL].lines.take (j+1)).flatMap (qk bF)):=by
         rw[← JL hj']
         first
         |exact hO185
         |(rw[show qk bF x.locs[kL].lines[j]=[.pointer none,.int .i64 x.locs[kL].lines[j].line,.int .u64 0] from by simp[qk,Ja h168]];exact hO185)
        exact fun w' hH hf=>hKN (j+1,y185,p185,c185) _ w' ⟨hj',hfm⟩ hf hH.2.2.2.2.2.2 (by simp only;omega) ⟨rfl,rfl,rfl,rfl,rfl,rfl,rfl,rfl,rfl,trivial⟩
      ·have hON':Own kq 3 yN pN j cN (x.locs[kL].lines.flatMap (qk bF)):=by rw[tL ox]at hON;exact hON
       refine jt (K39 (jb (jM (k:=jM (k:=jN (k:=jF 4 jz xq (k:=jH 6 zY (k:=jM (k:=?_)))))))))
       refine kj xw JW YM rfl rfl rfl rfl rfl fun b195=>?_
       refine qY 2 rfl hOL xw qay rfl rfl rfl rfl rfl ox rfl fun y196 p196 c196 hO196=>?_
       refine jN (k:=jF 4 jz xq (k:=jB [_,_,_,_,_,_,_,_,_,_,_,_,_,_,_,_,_,_] [_,_,_,_,_,_,_,_,_,_] 6 xq (k:=K25 (CJ.t [(1,_),(3,_),(130,_),(131,_),(132,_)] (k:=jb (jI (k:=jM (k:=jw (ji ?_)))))))))
       exact fun w' hH hf=>hKLL (kL+1,y196,p196,c196,bL++[b141]) _ w' ⟨hkL,⟨by rw[← JS];exact hO196,fun _=>Nat.succ_pos _⟩,hpL.push hkL hf.size (fun _ _ h=>⟨h.1.mono (fun _ _ h=>kC hf h rfl) (fun _ _ h=>kC hf h rfl),h.2.mono fun _ _ h=>kC hf h rfl⟩) ⟨⟨_,hH.get (i:=1) rfl rfl,hON'.os (i:=0) hH rfl⟩,⟨_,hH.get (i:=1) rfl rfl,qah hON' hH (i:=0) rfl hs4⟩⟩ (hH.fresh' (i:=1) rfl rfl) hs4 (hH.get (i:=1) rfl rfl).lt,⟨hB39.1,hB39.2.1,Nat.lt_of_lt_of_le hB39.2.2 hf.size⟩,hPT.mono hf.size (fun _ _ h=>kC hf h rfl),hPM.mono hf.size (fun _ _ h=>kC hf h rfl),hPF.mono hf.size (fun _ _ h=>kC hf h rfl)⟩ (qW hf4 (.inr fun _ h=>h) hf) (hH.2.2.2.2.2.2.back hf4.size (.inr fun _ h=>h)) (by simp only;omega) sR
    ·have hPL:=hpL.full ox
     refine jt (K21 (sQ fun K48=>sQ fun K49=>jb (jF 2 kW Vy (k:=jH 7 ZQ (k:=jE KA (k:=jM (k:=K49 (jh ?_))))))))
     refine jZ (σ:=Nat×Ent×Option Addr×Nat×List Nat) (fun s=>[(3,ptr b41),(201,.slice ps x.samples.length csm),(202,.int .i64 (x.samples.length:Nat)),(203,.int .i64 (s.1:Nat))])
      (fun s=>[s.2.1,ro yL,ro yF,ro yM,ro yT,Kg b41 x (.slice pT kT cT) (.slice s.2.2.1 s.1 s.2.2.2.1) (.slice pM kM cM) (.slice pL kL cL) (.slice pF kF cF) (.slice p26 (0+x.comments.length) c26) b39,⟨b39,tVT,cVT x.per,false,true,none⟩,ro y26,⟨b1,31,[.slice pt x.types.length ct,.string x.deflt,.slice ps x.samples.length csm,.slice pm x.mappings.length cm,.slice pl x.locs.length cl,.slice pf x.funcs.length cf,.slice pc x.comments.length cc,.string x.drop,.string x.keep,.int .i64 x.time,.int .i64 x.dur,.int .i64 x.period,.string x.per.ty,.string x.per.unit],false,true,none⟩])
      (fun s w'=>s.1≤x.samples.length∧Own xS 1 s.2.1 s.2.2.1 s.1 s.2.2.2.1 (s.2.2.2.2.map ptr)∧yD w.heap.size w' s.2.2.2.2 (x.samples.take s.1) (fun v b s=>qdT v bL b s∧XE yL v b)∧(w.heap.size≤b39∧w.heap.size≤b41∧b39<w'.heap.size)∧yD (b39+1) w' bT x.types φT∧yD w.heap.size w' bM x.mappings φM∧yD w.heap.size w' bF x.funcs φF∧yD w.heap.size w' bL x.locs (fun v b l=>ZS v bM bF b l∧KZ w.heap.size v b))
      (fun s=>x.samples.length - s.1) (0,qQ xS,none,0,[]) sR (fun w' hH hf=>⟨Hp.off (hH.roHead),Nat.zero_le _,Own.nil,yD.nil,⟨hB39.1,hB39.2.1,Nat.lt_of_lt_of_le hB39.2.2 hf.size⟩,hPT.mono hf.size (fun _ _ h=>kC hf h rfl),hPM.mono hf.size (fun _ _ h=>kC hf h rfl),hPF.mono hf.size (fun _ _ h=>kC hf h rfl),hPL.mono hf.size (fun _ _ h=>⟨h.1.mono (fun _ _ h=>kC hf h rfl) (fun _ _ h=>kC hf h rfl),h.2.mono fun _ _ h=>kC hf h rfl⟩)⟩) ?_
     rintro ⟨kS,yS,pS,cS,bS⟩ w5 ⟨hk,hOS,hpS,hB39,hPT,hPM,hPF,hPL⟩ hf5 hH5 KLS hKLS
     have hs5:w.heap.size≤w5.heap.size:=Nat.le_trans hs4 hf5.size
     have hk5:vQ w w5:=hKd _ _ hf5
     have hKd:=fun W=>Je (W:=W) hk5 (Nat.le_refl _)
     have hH:=hH5.again (W:=[ju,xS]) hs4 (yV.own (.ro (.ro (.ro (.ro (.row (.ro (.ro (.ro .nil rfl) rfl) rfl) rfl) rfl) rfl) rfl) rfl) hOS rfl)
     have hgS:=hH.geT hOS.hw hs5
     refine C.begin ⟨w5,w.heap.size,[ju,xS]⟩ [yS,ro yL,ro yF,ro yM,ro yT,Kg b41 x (.slice pT kT cT) (.slice pS kS cS) (.slice pM kM cM) (.slice pL kL cL) (.slice pF kF cF) (.slice p26 (0+x.comments.length) c26) b39,⟨b39,tVT,cVT x.per,false,true,none⟩,ro y26,⟨b1,31,[.slice pt x.types.length ct,.string x.deflt,.slice ps x.samples.length csm,.slice pm x.mappings.length cm,.slice pl x.locs.length cl,.slice pf x.funcs.length cf,.slice pc x.comments.length cc,.string x.drop,.string x.keep,.int .i64 x.time,.int .i64 x.dur,.int .i64 x.period,.string x.per.ty,.string x.per.unit],false,true,none⟩] jx hH ?_
     try dsimp only
     clear hH
     refine sQ fun K50=>jb (jS (k:=K50 (sQ fun K51=>?_)))
     refine jq rfl (fun h204=>?_) (fun h204=>?_)
     ·have hkS:kS<x.samples.length:=by omega
      obtain ⟨qb,qo,cs,rfl,hcs,hR,hcell⟩:=hxs kS x.samples[kS] (gE hkS)
      have hR':=hR
      obtain ⟨l1,l2,l3,l4,rfl,hl1,hl2,hl3,hl4⟩:=hR
      obtain ⟨p1,c1,rfl, -,hx1⟩:=hl1.open
      obtain ⟨p2,c2,rfl, -, -⟩:=hl2.open
      obtain ⟨p3,c3,rfl, -, -⟩:=hl3.open
      obtain ⟨p4,c4,rfl, -, -⟩:=hl4.open
      obtain ⟨m1,m2,m3,m4,m5⟩:=hx.samples x.samples[kS] (List.getElem_mem hkS)
      have hlL:kL=bL.length:=by have:=hOL.sl.1;simp at this;omega
      have hlL2:=hPL.each.1
      refine jg (K51 (sQ fun K52=>jh (sQ fun K53=>jb (jJ KA zC (k:=?_)))))
      refine jp rfl (fun a w ha hH hf=>kD XY zC rfl rfl (hcell w (hKd _ _ hf)) ha) (jW (zs:=[(.slice none 0 0),(.slice none 0 0),(.slice none 0 0),(.slice none 0 0)]) qaK rfl fun b17=>jB [_,_,_,_] [_,_,_,_,_,_,_,_,_,_] 0 zC (k:=K53 (sQ fun K54=>jb ?_)))
      refine vw xI so2 rfl fun b207=>jF 1 zh Jt (k:=jH 1 KC (k:=?_))
      refine XU 0 rfl Own.empty xI xI el2 rfl rfl rfl rfl (fun w hH hf w1 k1=>hl2.first1 (g:=.int .i64) (fun _ _ h=>h.1) w1 ((hKd _ _ hf).trans k1)) (fun _=>rfl) ox rfl fun y210 p210 c210 hO210=>?_
      refine jn rfl (fun _ _ h=>vb (cs:=[(.slice none 0 0),_,(.map none),(.map none),(.map none),(.slice none 0 0),(.slice none 0 0)]) bt147 rfl rfl h) (qA (vs:=[_,_,_,_,_,_,_]) rfl rfl fun b212=>jA (k:=K54 (CJ.t [(3,_),(17,_),(18,_),(201,_),(202,_),(203,_)] (k:=sQ fun K55=>sQ fun K56=>jb (jF 0 zh Xe (k:=jH 2 ZP (k:=jE QC (k:=jM (k:=K56 (jh ?_))))))))))
      refine jZ (σ:=Nat×Ent×Option Addr×Nat) (fun s=>[(3,ptr b41),(17,ptr b17),(18,ptr b212),(201,.slice (some ⟨qb,qo,none⟩) x.samples.length csm),(202,.int .i64 (x.samples.length:Nat)),(203,.int .i64 (kS:Nat)),(214,.slice p1 x.samples[kS].stack.length c1),(215,.int .i64 (x.samples[kS].stack.length:Nat)),(216,.int .i64 (s.1:Nat))])
       (fun s=>[s.2.1,⟨b212,kY,Xx (.slice s.2.2.1 s.1 s.2.2.2) (.slice p210 (0+x.samples[kS].values.length) c210) (.map none) (.map none),true,true,none⟩,y210,⟨b17,57,[.slice p1 x.samples[kS].stack.length c1,.slice p2 x.samples[kS].values.length c2,.slice p3 x.samples[kS].texts.length c3,.slice p4 x.samples[kS].nums.length c4],true,true,none⟩,yS,ro yL,ro yF,ro yM,ro yT,Kg b41 x (.slice pT kT cT) (.slice pS kS cS) (.slice pM kM cM) (.slice pL kL cL) (.slice pF kF cF) (.slice p26 (0+x.comments.length) c26) b39,⟨b39,tVT,cVT x.per,false,true,none⟩,ro y26,⟨b1,31,[.slice pt x.types.length ct,.string x.deflt,.slice (some ⟨qb,qo,none⟩) x.samples.length csm,.slice pm x.mappings.length cm,.slice pl x.locs.length cl,.slice pf x.funcs.length cf,.slice pc x.comments.length cc,.string x.drop,.string x.keep,.int .i64 x.time,.int .i64 x.dur,.int .i64 x.period,.string x.per.ty,.string x.per.unit],false,true,none⟩])
       (fun s w'=>s.1≤x.samples[kS].stack.length∧Own vD 1 s.2.1 s.2.2.1 s.1 s.2.2.2 ((x.samples[kS].stack.take s.1).map (qe bL)))
       (fun s=>x.samples[kS].stack.length - s.1) (0,qQ vD,none,0) sR (fun w' hH hf=>⟨hH.off,Nat.zero_le _,Own.nil⟩) ?_
      rintro ⟨j,yK,pK,cK⟩ wK ⟨hj,hOK⟩ hfK hHK KK hKK
      refine C.begin _ _ hfK hHK ?_
      try dsimp only
      refine sQ fun K57=>jb (jS (k:=K57 (sQ fun K58=>?_)))
      refine jq rfl (fun h217=>?_) (fun h217=>?_)
      ·have hj':j<x.samples[kS].stack.length:=by omega
       obtain ⟨qb2,qo2,cs2,rfl, -,hR2,hcell2⟩:=hx1 j x.samples[kS].stack[j] (gE hj')
       obtain ⟨rfl, -⟩:=hR2
       obtain ⟨hz0,hz1⟩:=m5 x.samples[kS].stack[j] (List.getElem_mem hj')
       have hzL:x.samples[kS].stack[j]=((x.samples[kS].stack[j].toNat:Nat):Int):=by omega
       have hltL:x.samples[kS].stack[j].toNat<kL:=by omega
       obtain ⟨honL,hpeL⟩:=hOL.pos ox
       refine jg (K58 (sQ fun K59=>jh (sQ fun K60=>jb (jJ QC so3 (k:=?_)))))
       refine jp rfl (fun a w ha hH hf=>kP ag3 rfl (hcell2 w (hKd _ _ hf) 0 _ rfl) ha) (jA (k:=K60 ?_))
       refine jC 16 (lts [0,1,2,3,4,5,6,7,8,9,10,11]++(12,false)::((13,false)::(lts [14,15]++(16,false)::[]))) [1,9,5] rfl (by kernel_rfl) (by kernel_rfl) (dM [1,9,5] (k:=dM [1,9,5] (k:=dN [1,9,5] (k:=dF [1,9,5] 0 vl xq (k:=dH [1,9,5] 0 zY (k:=dM [1,9,5] (k:=dN [1,9,5] (k:=dF [1,9,5] 4 jz xq (k:=dH [1,9,5] 1 zY (k:=dM [1,9,5] (k:=?_)))))))))))
       refine jo rfl rfl (jd [1,9,5] rfl) (fun _ _ h=>zZ _ xw JW rfl hpeL rfl hzL hltL h) (vV rfl rfl (jd [1,9,5] rfl) (fun a w ha hS=>kP VO rfl (hOL.cell (hS.1 (ro yL) zp honL) (Vh hz0 (hlL▸hltL))) ha) (dE (h:=fun Kd=>kj xw JW YM rfl rfl rfl rfl rfl fun b232=>Kd (sb [2,10,6]) (dE (h:=fun Kd=>?_)))))
       refine qY 0 rfl hOK xw qay rfl rfl rfl rfl rfl ox rfl fun y233 p233 c233 hO233=>?_
       refine Kd (sb [1,9,5]) (dN [1,9,5] (k:=dF [1,9,5] 0 vl xq (k:=dE (h:=fun Kd=>jB [_,_,_,_,_,_,_] [_,_,_,_,_,_,_,_,_,_,_,_,_] 1 xq (k:=Kd (.inl rfl) (K59 (CJ.t [(3,_),(17,_),(18,_),(201,_),(202,_),(203,_),(214,_),(215,_),(216,_)] (k:=jb (jI (k:=jM (k:=jw (ji ?_))))))))))))
       exact fun w' hH hf=>hKK (j+1,y233,p233,c233) _ w' ⟨hj',by rw[← Xs (g:=qe bL) hj'];exact hO233⟩ hf hH (by simp only;omega) ⟨rfl,rfl,rfl,rfl,rfl,rfl,rfl,rfl,rfl,trivial⟩
      ·have hOK':Own vD 1 yK pK j cK (x.samples[kS].stack.map (qe bL)):=by rw[tL ox]at hOK;exact hOK
       refine jt (K55 (sQ fun K61=>jb (jM (k:=?_))))
       refine jp rfl (fun a w ha hH hf=>vo (vs:=[_,_,_,_]) 3 rfl rfl XY zC rfl rfl rfl ha hH) ?_
       refine kQ (R:=fun w1 _ w'=>(∃lm nm,Blk w' b212 kY (Xx (.slice pK j cK) (.slice p210 (0+x.samples[kS].values.length) c210) lm nm)∧QF qc w' lm (Jv x.samples[kS])∧QF qd w' nm (JJ x.samples[kS]))∧Fr b212 [kY,1000000] w1 w') call85 rfl rfl (fun w' hH hf=>ZL w w' b212 _ _ _ x.samples[kS] hR' (hKd _ _ hf) (Nat.le_trans hs5 (hH.fresh' (i:=1) rfl rfl)) m4 (hH.get (i:=1) rfl rfl)) fun w0 v w2 hH hf hRet=>?_
       obtain ⟨⟨lm,nm,hbx,hlm2,hnm2⟩,hfr⟩:=hRet
       have hb212:w5.heap.size≤b212:=hH.fresh' (i:=1) rfl rfl
       have hno:Qr [kY,1000000] b212 [yK,⟨b212,kY,Xx (.slice pK j cK) (.slice p210 (0+x.samples[kS].values.length) c210) (.map none) (.map none),true,true,none⟩,y210,⟨b17,57,[.slice p1 x.samples[kS].stack.length c1,.slice p2 x.samples[kS].values.length c2,.slice p3 x.samples[kS].texts.length c3,.slice p4 x.samples[kS].nums.length c4],true,true,none⟩,yS,ro yL,ro yF,ro yM,ro yT,Kg b41 x (.slice pT kT cT) (.slice pS kS cS) (.slice pM kM cM) (.slice pL kL cL) (.slice pF kF cF) (.slice p26 (0+x.comments.length) c26) b39,⟨b39,tVT,cVT x.per,false,true,none⟩,ro y26,⟨b1,31,[.slice pt x.types.length ct,.string x.deflt,.slice (some ⟨qb,qo,none⟩) x.samples.length csm,.slice pm x.mappings.length cm,.slice pl x.locs.length cl,.slice pf x.funcs.length cf,.slice pc x.comments.length cc,.string x.drop,.string x.keep,.int .i64 x.time,.int .i64 x.dur,.int .i64 x.period,.string x.per.ty,.string x.per.unit],false,true,none⟩]:=.own (.self (.of (.own (.row (.own (.ownR (.ownR (.ownR (.ownR (.row (.row (.ownR (.row .nil rfl) hO26 rfl) rfl) rfl) hOT rfl) hOM rfl) hOF rfl) hOL rfl) hOS rfl) rfl) hO210 rfl))) hOK rfl
       have hH2:=hH.putK (w':=w2) (i:=1) (y':=⟨b212,kY,Xx (.slice pK j cK) (.slice p210 (0+x.samples[kS].values.length) c210) lm nm,true,true,none⟩) rfl rfl rfl (fun _ _=>.inl hb212) (fun z hz he hne o ho=>hfr.keep _ _ ho (.inr (by rw[(hH.has hz).tag he ho];exact hno z hz he hne))) ⟨fun _=>hbx,fun _ h=>by cases h⟩
       have hf2:Fm.ok ⟨w5,w.heap.size,[ju,xS]⟩ w2:=Fr.trans hf hfr (.inl hb212)
       have hK2:=hKd _ _ hf2
       have hKd:=fun W=>Je (W:=W) hK2 (Nat.le_refl _)
       refine J.begin ⟨w2,w.heap.size,[ju,xS]⟩ [ro yK,⟨b212,kY,Xx (.slice pK j cK) (.slice p210 (0+x.samples[kS].values.length) c210) lm nm,false,true,none⟩,ro y210,⟨b17,57,[.slice p1 x.samples[kS].stack.length c1,.slice p2 x.samples[kS].values.length c2,.slice p3 x.samples[kS].texts.length c3,.slice p4 x.samples[kS].nums.length c4],false,true,none⟩,yS,ro yL,ro yF,ro yM,ro yT,Kg b41 x (.slice pT kT cT) (.slice pS kS cS) (.slice pM kM cM) (.slice pL kL cL) (.slice pF kF cF) (.slice p26 (0+x.comments.length) c26) b39,⟨b39,tVT,cVT x.per,false,true,none⟩,ro y26,⟨b1,31,[.slice pt x.types.length ct,.string x.deflt,.slice (some ⟨qb,qo,none⟩) x.samples.length csm,.slice pm x.mappings.length cm,.slice pl x.locs.length cl,.slice pf x.funcs.length cf,.slice pc x.comments.length cc,.string x.drop,.string x.keep,.int .i64 x.time,.int .i64 x.dur,.int .i64 x.period,.string x.per.ty,.string x.per.unit],false,true,none⟩] jx ((hH2.roN (n:=4)).again hs5 (yV.ro (.ro (.ro (.ro (.own (.ro (.ro (.ro (.ro (.row (.ro (.ro (.ro .nil rfl) rfl) rfl) rfl) rfl) rfl) rfl) rfl) hOS rfl) rfl) rfl) rfl) rfl)) ?_
       refine K61 (jb (jM (k:=jM (k:=jN (k:=jF 2 jz Jz (k:=jH 9 VP (k:=jM (k:=?_))))))))
       refine kj JB YT qkb rfl rfl rfl rfl rfl fun b246=>?_
       refine qY 4 rfl hOS JB qhX rfl rfl rfl rfl rfl ox rfl fun y247 p247 c247 hO247=>?_
       refine jN (k:=jF 2 jz Jz (k:=jB [_,_,_,_,_,_,_,_,_,_,_,_,_,_,_,_,_,_] [_,_,_,_,_,_,_,_,_,_,_,_,_] 9 Jz (k:=K52 (CJ.t [(3,_),(201,_),(202,_),(203,_)] (k:=jb (jI (k:=jM (k:=jw (ji ?_)))))))))
       exact fun w' hH hf0=>by
        have hf:=qW hf2 (.inr fun _ h=>h) hf0
        exact hKLS (kS+1,y247,p247,c247,bS++[b212]) _ w' ⟨hkS,by rw[← JS];exact hO247,hpS.push hkS hf.size (fun _ _ h=>⟨h.1.mono (fun _ _ h=>kC hf h rfl) (fun _ _ h=>kC hf h rfl) (fun _ _ h=>kC hf h rfl) (fun _ _ h=>kC hf h rfl) (fun _ _ _ h=>qbe hf h rfl),h.2.mono fun _ h=>kC hf h rfl⟩) ⟨⟨_,_,lm,nm,hH.get (i:=1) rfl rfl,hOK'.osR (i:=0) hH rfl,by simpa using hO210.osR (i:=2) hH rfl,hlm2.mono (fun _ _ h=>kC hf0 h rfl) (fun _ _ _ h=>qbe hf0 h rfl),hnm2.mono (fun _ _ h=>kC hf0 h rfl) (fun _ _ _ h=>qbe hf0 h rfl)⟩,⟨_,hH.get (i:=1) rfl rfl,qfe hOK' hH (.tail _ (.tail _ (.tail _ (.tail _ (.head _)))))⟩⟩ hb212 hs5 (hH.get (i:=1) rfl rfl).lt,⟨hB39.1,hB39.2.1,Nat.lt_of_lt_of_le hB39.2.2 hf.size⟩,hPT.mono hf.size (fun _ _ h=>kC hf h rfl),hPM.mono hf.size (fun _ _ h=>kC hf h rfl),hPF.mono hf.size (fun _ _ h=>kC hf h rfl),hPL.mono hf.size (fun _ _ h=>⟨h.1.mono (fun _ _ h=>kC hf h rfl) (fun _ _ h=>kC hf h rfl),h.2.mono fun _ _ h=>kC hf h rfl⟩)⟩ (qW hf5 (.inr zp) hf) (hH.2.2.2.2.2.2.2.2.2.2.2.2.back (Nat.le_trans hf5.size hf2.size) (.inr zp)) (by simp only;omega) sR
     ·have hPS:=hpS.full ox
      refine jt (K48 (sQ fun K62=>jb (jM (k:=jA (k:=K62 (jj ?_))))))
      exact je results46 rfl fun w' hH hf=>by
       have hfr:=qW hf1 (.inl (Nat.le_refl _)) (qW hf2 (.inr fun _ h=>h) (qW hf3 (.inr fun _ h=>h) (qW hf4 (.inr fun _ h=>h) (qW hf5 (.inr zp) hf))))
       have hfr:Fr w.heap.size [] w w':=hfr
       have qT:=hPT.mono hf.size (fun _ _ h=>kC hf h rfl)
       have qM:=hPM.mono hf.size (fun _ _ h=>kC hf h rfl)
       have qF:=hPF.mono hf.size (fun _ _ h=>kC hf h rfl)
       have qL:=hPL.mono hf.size (fun _ _ h=>⟨h.1.mono (fun _ _ h=>kC hf h rfl) (fun _ _ h=>kC hf h rfl),h.2.mono fun _ _ h=>kC hf h rfl⟩)
       have qS:=hPS.mono hf.size (fun _ _ h=>⟨h.1.mono (fun _ _ h=>kC hf h rfl) (fun _ _ h=>kC hf h rfl) (fun _ _ h=>kC hf h rfl) (fun _ _ h=>kC hf h rfl) (fun _ _ _ h=>qbe hf h rfl),h.2.mono fun _ h=>kC hf h rfl⟩)
       refine ⟨⟨⟨b41,b39,bT,bM,bF,bL,bS⟩,rfl,?_,⟨_,_,_,_,_,_,_,_,_,hH.get (i:=5) rfl rfl,hOS.osn (i:=0) hH rfl hgS,hOM.osnR (i:=3) hH rfl hgM,hOF.osnR (i:=2) hH rfl hgF,hOL,fun ho=>⟨⟨by have h1:Blk w' yL.b yL.T yL.cs:=hH.get (x:=ro yL) (i:=1) rfl ho;rwa [hOL.hT]at h1,hgL ho⟩,hnL ho⟩,(qS.each.mono (ψ:=fun b _=>XE yL w' b) fun _ _ h=>h.2).all⟩⟩,hfr.mono (.inl (Nat.le_refl _))⟩
       exact { prof:=⟨_,_,_,_,_,_,hH.get (i:=5) rfl rfl,hOT.osR (i:=4) hH rfl,hOS.os (i:=0) hH rfl,hOM.osR (i:=3) hH rfl,hOL.osR (i:=1) hH rfl,hOF.osR (i:=2) hH rfl,by simpa using hO26.osR (i:=7) hH rfl⟩
               per:=hH.get (i:=6) rfl rfl
               types:=qT.each
               maps:=qM.each
               funs:=qF.each
               locs:=qL.each.mono fun _ _ h=>h.1
               rows:=(qL.each.mono (ψ:=fun b _=>KZ w.heap.size w' b) fun _ _ h=>h.2).all
               sams:=qS.each.mono fun _ _ h=>h.1
               ntypes:=List.nodup_cons.2 ⟨fun h=>by have h2:b39+1≤b39:=hPT.ge _ h;omega,qT.nodup⟩
               nmaps:=qM.nodup
               nfuns:=qF.nodup
               nlocs:=qL.nodup
               nsams:=qS.nodup
               fresh:=⟨hB39.2.1,hB39.1,fun b h=>by have:=hPT.ge _ h;have:=hB39.1;omega,qM.ge,qF.ge,qL.ge,qS.ge⟩ }
theorem of_c (w:World) (cs:List Value) (x:jD) (h:qI w cs x) (hx:vW x):
  Calls Tryz.prog 46 #[.agg cs.toArray] w (Ret fun v w'=>(∃g,v=ptr g.pb∧OfP w.heap.size w' x g)∧Fr 0 [] w w'):=
 (qkj w cs x h hx).mono (Ret.mono fun _ _ ⟨⟨g,h1,h2,_⟩,h3⟩=>⟨⟨g,h1,h2⟩,h3⟩)
open Go Go.Fw Go.Proofs Go.Sort
theorem XP (x y:ByteArray):ltB x y=decide (x.data.toList<y.data.toList):=by
 rw[ltB,bytesLess_eq,Lib.toList_data,Lib.toList_data]
theorem qdm {ks rs:List ByteArray} (hn:ks.Nodup) (hm:∀k,k∈ks↔k∈rs) (ha:rs.Pairwise fun x y=>ltB x y=true):
  (ks.map fun k=>k.data.toList).mergeSort (fun x y=>decide (x≤y))=rs.map fun k=>k.data.toList:=by
 have tr:∀a b c:List UInt8,decide (a≤b)=true→decide (b≤c)=true→decide (a≤c)=true:=fun a b c h1 h2=>by simp only[decide_eq_true_eq]at*;exact List.le_trans h1 h2
 have to:∀a b:List UInt8,(decide (a≤b)||decide (b≤a))=true:=fun a b=>by simp only[Bool.or_eq_true,decide_eq_true_eq];exact List.le_total a b
 have han:rs.Nodup:=ha.imp fun {a b} h e=>by subst e;rw[zv]at h;cases h
 have hp:ks.Perm rs:=(List.perm_ext_iff_of_nodup hn han).2 hm
 refine List.Perm.eq_of_pairwise (le:=fun a b=>decide (a≤b)=true) (fun a b _ _ h1 h2=>?_) (List.pairwise_mergeSort tr to _) ?_ ((List.mergeSort_perm _ _).trans (hp.map _))
 ·simp only[decide_eq_true_eq]at h1 h2
  exact List.le_antisymm h1 h2
 ·refine List.pairwise_map.2 (ha.imp fun {a b} h=>?_)
  rw[XP]at h
  simp only[decide_eq_true_eq]at h⊢
  exact List.le_of_lt h
theorem qax (ks:List ByteArray):(ks.map fun k=>k.data.toList).map encStr=ks.map .string:=by
 rw[List.map_map]
 refine List.map_congr_left fun k _=>?_
 simp[encStr]
theorem JR:∀{H:ko} {i:Nat} {y:Ent},H[i]? =some y→yn H i y=H
 |[],_,_,h=>by simp at h
 |x::r,0,y,h=>by simp at h;subst h;rfl
 |x::r,i+1,y,h=>by simp at h;simp[yn,JR h]
theorem qeZ (w:World) (y:Ent) (p:Option Addr) (l c:Nat) (ks rs:List ByteArray) (hO:Own qc 1 y p l c (ks.map .string)) (hb:y.on=true→Blk w y.b qc y.cs) (hn:ks.Nodup) (hm:∀k,k∈ks↔k∈rs) (ha:rs.Pairwise fun x y=>ltB x y=true) (hl:l≤1000000):
  Calls Tryz.prog 104 #[.slice p l c] w (Ret fun _ w'=>(w'=w∧Own qc 1 y p l c (rs.map .string))∨y.on=true∧∃cs',Own qc 1 { y with cs:=cs' } p l c (rs.map .string)∧Blk w' y.b qc cs'∧jv [y.b] w w'):=by
 have hlen:ks.length=l:=by have:=hO.sl.1;simpa using this
 have hp:rs.Perm ks:=((List.perm_ext_iff_of_nodup hn (ha.imp fun {a b} h e=>by subst e;rw[zv]at h;cases h)).2 hm).symm
 have hal:rs.length=l:=by rw[hp.length_eq,hlen]
 by_cases h0:l=0
 ·subst h0
  have e1:ks=[]:=List.eq_nil_of_length_eq_zero hlen
  have e2:rs=[]:=List.eq_nil_of_length_eq_zero hal
  refine (Tryz.sort_Strings_none p c w).mono ?_
  rintro e w' ⟨rfl,rfl⟩
  refine .inl ⟨rfl,?_⟩
  rw[e2, ← e1];exact hO
 obtain ⟨hon,hpp⟩:=hO.pos ox
 subst hpp
 have hb:=hb hon
 obtain ⟨h1,h2,h3⟩:=hO.sl
 rcases h3 with ⟨-, -,⟨ex,h4⟩,h5⟩|⟨h3, -⟩
 case inr=>rw[hon]at h3;cases h3
 have hb':w.heap[y.b]? =some (.cells y.cs.toArray qc (0,0)):=hb
 have hH:Holds encStr w y.b 0 (ks.map fun k=>k.data.toList).toArray:=holds_of_block hb' (by
  rw[qax,List.length_map]
  show y.cs.take ks.length=ks.map .string
  rw[h4,List.take_append_of_le_length zp,tL zp])
 have hc:=Tryz.sort_Strings y.b 0 c (ks.map fun k=>k.data.toList) w hH hb.lt (by simp;omega)
 rw[List.length_map,hlen]at hc
 refine hc.mono ?_
 rintro e w' ⟨rfl,n,os,rfl⟩
 rw[qdm hn hm ha]
 have hs:=heap_sorted (n:=n) (os:=os) (rs.map fun k=>k.data.toList).toArray hb'
 have hg:=grownBy_sorted (w:=w) (g:=y.b) (n:=n) (os:=os) (rs.map fun k=>k.data.toList).toArray
 have htk:=take_putCells y.cs.toArray (rs.map fun k=>k.data.toList) (by simp;omega)
 rw[qax,List.length_map,hal]at htk
 refine .inr ⟨hon,(putCells encStr 0 (rs.map fun k=>k.data.toList).toArray y.cs.toArray).toList,⟨hO.hT,hO.hw,hO.ho,?_⟩,by simpa[Blk]using hs,?_⟩
 ·refine ⟨by simp[hal],h2,.inl ⟨hon,rfl,⟨(putCells encStr 0 (rs.map fun k=>k.data.toList).toArray y.cs.toArray).toList.drop l,?_⟩,?_⟩⟩
  ·rw[← htk,List.take_append_drop]
  ·have:(putCells encStr 0 (rs.map fun k=>k.data.toList).toArray y.cs.toArray).size=y.cs.length:=by simp[putCells]
   simp only[Array.length_toList,this];exact h5
 ·obtain ⟨g1,g2,g3,g4,g5⟩:=hg
  exact ⟨g1,g2,g3,g4,fun b o ho hne=>by
   rw[g5 b (Array.getElem?_eq_some_iff.1 ho).1 (by simp at hne⊢;exact fun e=>hne e)];exact ho⟩
section
variable {Q:Exit→Act→World→Prop} {n:Nat} {f:Fm} {e:Env} {H:ko} {ops:Array Oper} {rest:List Oper} {d ty:Nat} {pos:String} {af:Array Edge}
theorem qhB {l:Nat} {ks rs:List ByteArray} {args:Array Operand} {tys:Array TypeId} (i:Nat) (hi:H[i]? =some y) (hO:Own qc 1 y p l c (ks.map .string)) (hn:ks.Nodup) (hm:∀k,k∈ks↔k∈rs) (ha:rs.Pairwise fun x y=>ltB x y=true) (hl:l≤1000000)
  (hargs:evL e args.toList=some [.slice p l c]) (hd:Nat.blt d n=true)
  (k:∀v y',Own qc 1 y' p l c (rs.map .string)→J Tryz.prog ops Q n f ((d,v)::e) (yn H i y') rest):
  J Tryz.prog ops Q n f e H (⟨some d,.call ⟨.value (.func 104),args,tys⟩,ty,pos,af,none⟩::rest):=
 kQ (R:=fun w _ w'=>(w'=w∧Own qc 1 y p l c (rs.map .string))∨y.on=true∧∃cs',Own qc 1 { y with cs:=cs' } p l c (rs.map .string)∧Blk w' y.b qc cs'∧jv [y.b] w w') Tryz.call104 hargs hd (fun w hH _=>qeZ w y p l c ks rs hO (fun ho=>by have:=hH.get hi ho;rwa [hO.hT]at this) hn hm ha hl) fun w v w' hH hf hR=>by
  rcases hR with ⟨rfl,h1⟩|⟨hon,cs',h1,h2,h3⟩
  ·have h2:=k v y h1 w' (by rw[JR hi];exact hH) hf
   exact h2
  ·have hm:=hH.may (mG hi) hon hO.hw
   have hex:y.ex=true:=by simp[Ent.ex,hon]
   rw[hO.hT]at hm
   refine k v _ h1 w' (hH.putX hi hex rfl (fun _ _=>by rw[h1.tag];exact hm) h3 ⟨fun _=>by simp only[hO.hT];exact h2,fun o ho=>by simp only[hO.ho]at ho;cases ho⟩) (okK hf h3 hm fun o ho=>?_)
   have h4:=hH.get hi hon
   rw[hO.hT]at h4
   have h5:w.heap[y.b]? =some (.cells y.cs.toArray qc (0,0)):=h4
   rw[ho]at h5;cases h5;rfl
end
theorem qam:∀{l m:List Nat},l.Nodup→(∀x∈l,x∈m)→l.length≤m.length
 |[],_,_,_=>Nat.zero_le _
 |a::r,m,h,hs=>by
    have h1:=List.nodup_cons.1 h
    have ha:a∈m:=hs a zp
    have:=qam (l:=r) (m:=m.erase a) h1.2 fun x hx=>(List.mem_erase_of_ne (by rintro rfl;exact h1.1 hx)).2 (hs x (by simp[hx]))
    rw[List.length_erase_of_mem ha]at this
    have:=List.length_pos_of_mem ha
    simp only[List.length_cons]
    omega
structure Vis (es xs:List MapEntry) (seen:List Nat):Prop where
 sn:xs.map (·.born)=seen
 nd:seen.Nodup
 sub:∀x∈xs,x∈es
theorem Vis.nil:Vis es [] []:=⟨rfl,by simp,by simp⟩
theorem Vis.push {xs:List MapEntry} {seen:List Nat} {x:MapEntry} (h:Vis es xs seen) (hx:x∈es) (hn:x.born∉seen):Vis es (xs++[x]) (seen++[x.born]):=
 ⟨by simp[h.sn],by rw[List.nodup_append];exact ⟨h.nd,by simp,by simp;intro a ha he;subst he;exact hn ha⟩,fun y hy=>by
  rcases mA hy with hy|hy
  ·exact h.sub y hy
  ·simp at hy;subst hy;exact hx⟩
theorem Vis.len {xs:List MapEntry} {seen:List Nat} (h:Vis es xs seen) (hb:(es.map (·.born)).Nodup):seen.length≤es.length:=by
 have h1:seen ⊆ es.map (·.born):=by
  intro b hb'
  rw[← h.sn]at hb'
  obtain ⟨x,hx,rfl⟩:=List.mem_map.1 hb'
  exact List.mem_map.2 ⟨x,h.sub x hx,rfl⟩
 have:=qam h.nd fun x hx=>h1 hx
 simpa using this
theorem qii (hb:(es.map (·.born)).Nodup) {x y:MapEntry} (hx:x∈es) (hy:y∈es) (h:x.born=y.born):x=y:=by
 induction es with
 |nil=>cases hx
 |cons a r ih=>
  simp only[List.map_cons,List.nodup_cons]at hb
  rcases mC hx with hxa|hx
  ·rcases mC hy with hya|hy
   ·rw[hxa,hya]
   ·exact absurd (List.mem_map.2 ⟨y,hy,by rw[← h,hxa]⟩) hb.1
  ·rcases mC hy with hya|hy
   ·exact absurd (List.mem_map.2 ⟨x,hx,by rw[h,hya]⟩) hb.1
   ·exact ih hb.2 hx hy
theorem Vis.all {xs:List MapEntry} {seen:List Nat} (h:Vis es xs seen) (hb:(es.map (·.born)).Nodup) (ha:∀x∈es,x.born∈seen):∀x∈es,x∈xs:=by
 intro x hx
 have:=ha x hx
 rw[← h.sn]at this
 obtain ⟨y,hy,he⟩:=List.mem_map.1 this
 rw[← qii hb (h.sub y hy) hx he];exact hy
theorem Jc {κ:Type} [DecidableEq κ] {enc:κ→Value} {ms:List (κ×Value)} (h:vA enc ms es ck) {x:MapEntry} (hx:x∈es):∃p∈ms,x.key=enc p.1∧x.val=p.2:=by
 have h1:(x.key,x.val)∈es.map (fun x=>(x.key,x.val)):=List.mem_map.2 ⟨x,hx,rfl⟩
 rw[h.kv]at h1
 obtain ⟨p,hp,he⟩:=List.mem_map.1 h1
 injection he with e1 e2
 exact ⟨p,hp,e1.symm,e2.symm⟩
theorem Kc:∀{a b:List ByteArray},a.map Value.string=b.map Value.string→a=b
 |[],[],_=>rfl
 |[],_::_,h=>by simp at h
 |_::_,[],h=>by simp at h
 |x::r,y::s,h=>by
    simp only[List.map_cons,List.cons.injEq,Value.string.injEq]at h
    rw[h.1,Kc h.2]
theorem VK {α β:Type} {g:α→β}:∀{es:List α},(es.map g).Nodup→∀{x y:α},x∈es→y∈es→g x=g y→x=y
 |[],_,_,_,hx,_,_=>by cases hx
 |a::r,hb,x,y,hx,hy,h=>by
    simp only[List.map_cons,List.nodup_cons]at hb
    rcases mC hx with hxa|hx
    ·rcases mC hy with hya|hy
     ·rw[hxa,hya]
     ·exact absurd (List.mem_map.2 ⟨y,hy,by rw[← h,hxa]⟩) hb.1
    ·rcases mC hy with hya|hy
     ·exact absurd (List.mem_map.2 ⟨x,hx,by rw[h,hya]⟩) hb.1
     ·exact VK hb.2 hx hy h
theorem VJ {α β:Type} {g:α→β}:∀{xs:List α},xs.Nodup→(∀x∈xs,∀y∈xs,g x=g y→x=y)→(xs.map g).Nodup
 |[],_,_=>by simp
 |a::r,h,hi=>by
    have h1:=List.nodup_cons.1 h
    simp only[List.map_cons,List.nodup_cons]
    refine ⟨fun hm=>?_,VJ h1.2 fun x hx y hy=>hi x (by simp[hx]) y (by simp[hy])⟩
    obtain ⟨y,hy,he⟩:=List.mem_map.1 hm
    rw[hi y (by simp[hy]) a zp he]at hy
    exact h1.1 hy
theorem VI {α β:Type} {g:α→β}:∀{xs:List α},(xs.map g).Nodup→xs.Nodup
 |[],_=>by simp
 |a::r,h=>by
    simp only[List.map_cons,List.nodup_cons]at h⊢
    exact ⟨fun hm=>h.1 (List.mem_map.2 ⟨a,hm,rfl⟩),VI h.2⟩
theorem Vis.keys {ms:List (ByteArray×Value)} {xs:List MapEntry} {seen:List Nat} (h:Vis es xs seen) (hM:vA Value.string ms es ck) (ha:∀x∈es,x.born∈seen):∃ks:List ByteArray,xs.map (·.key)=ks.map .string∧ks.Nodup∧∀k,k∈ks↔k∈ms.map (·.1):=by
 have hall:=h.all hM.born ha
 have hkey:∀x∈es,∃k,x.key=.string k∧k∈ms.map (·.1):=fun x hx=>by
  obtain ⟨p,hp,h1, -⟩:=Jc hM hx
  exact ⟨p.1,h1,List.mem_map.2 ⟨p,hp,rfl⟩⟩
 let kof:MapEntry→ByteArray:=fun x=>match x.key with
  | .string k=>k
  |_=>⟨#[]⟩
 have hk:∀x∈es,x.key=.string (kof x):=fun x hx=>by
  obtain ⟨k,h1, -⟩:=hkey x hx
  simp only[kof,h1]
 have hxn:xs.Nodup:=by
  have:=h.nd
  rw[← h.sn]at this
  exact VI this
 have hen:(es.map kof).Nodup:=by
  have h1:es.map (fun x=>x.key)=ms.map fun p=>Value.string p.1:=by
   have:=congrArg (List.map Prod.fst) hM.kv
   simpa[List.map_map,Function.comp_def]using this
  have h2:es.map (fun x=>x.key)=(es.map kof).map Value.string:=by
   rw[List.map_map]
   exact List.map_congr_left fun x hx=>hk x hx
  have h3:es.map kof=ms.map (·.1):=by
   have h4:(es.map kof).map Value.string=(ms.map (·.1)).map Value.string:=by rw[← h2,h1,List.map_map];rfl
   exact Kc h4
  rw[h3];exact hM.keys
 refine ⟨xs.map kof,?_,?_,fun k=>⟨fun hm=>?_,fun hm=>?_⟩⟩
 ·rw[List.map_map]
  exact List.map_congr_left fun x hx=>hk x (h.sub x hx)
 ·exact VJ hxn fun x hx y hy he=>VK hen (h.sub x hx) (h.sub y hy) he
 ·obtain ⟨x,hx,rfl⟩:=List.mem_map.1 hm
  obtain ⟨k,h1,h2⟩:=hkey x (h.sub x hx)
  have:=hk x (h.sub x hx)
  rw[h1]at this
  cases this
  exact h2
 ·obtain ⟨p,hp,rfl⟩:=List.mem_map.1 hm
  have h1:(Value.string p.1,p.2)∈ms.map fun p=>(Value.string p.1,p.2):=List.mem_map.2 ⟨p,hp,rfl⟩
  rw[← hM.kv]at h1
  obtain ⟨x,hx,he⟩:=List.mem_map.1 h1
  refine List.mem_map.2 ⟨x,hall x hx,?_⟩
  have h2:=hk x hx
  injection he with e1 e2
  rw[e1]at h2
  exact (Value.string.inj h2).symm
structure qmk (T:Nat) (w:World) (mo:Option Nat) (ks:List (ByteArray×List Value)) (es:List MapEntry) (ck:Nat) (ms:List (ByteArray×Value)):Prop where
 enc:vA Value.string ms es ck
 at_:Jq w mo es ck
 keys:ms.map (·.1)=ks.map (·.1)
 os:∀(i:Nat) m k,ms[i]? =some m→ks[i]? =some k→OS T 1 w m.2 k.2
theorem QF.x {ks:List (ByteArray×List Value)} (h:QF T w v ks):∃mo es ck ms,v=.map mo∧qmk T w mo ks es ck ms:=by
 rcases h with ⟨rfl,rfl⟩|⟨b,es,ck,ms,rfl,h2,h3,h4,h5⟩
 ·exact ⟨none,[],0,[],rfl,vA.nil',.inl ⟨rfl,rfl,rfl⟩,rfl,by simp⟩
 ·exact ⟨some b,es,ck,ms,rfl,h3,.inr ⟨b,rfl,h2⟩,h4,h5⟩
theorem qmk.get {ks:List (ByteArray×List Value)} {ms:List (ByteArray×Value)} (h:qmk T w mo ks es ck ms) {k:ByteArray×List Value} (hk:ks[i]? =some k) (z:Value):∃v,(xK ms k.1).getD z=v∧OS T 1 w v k.2:=by
 have hl:ms.length=ks.length:=by have:=congrArg List.length h.keys;simpa using this
 have hi:=(List.getElem?_eq_some_iff.1 hk).1
 have hm:ms[i]? =some ms[i]:=gE ox
 have he:ms[i].1=k.1:=by
  have h1:(ms.map (·.1))[i]? =(ks.map (·.1))[i]? :=by rw[h.keys]
  rw[List.getElem?_map,List.getElem?_map,hm,hk]at h1
  exact Option.some.inj h1
 refine ⟨ms[i].2,?_,h.os i _ _ hm hk⟩
 have:(k.1,ms[i].2)∈ms:=by rw[← he];exact List.getElem_mem ox
 rw[qcp h.enc.keys this];rfl
theorem qim {ks:List ByteArray} (h:∀(i:Nat) t u,ks[i]? =some t→ks[i+1]? =some u→ltB t u=true):ks.Pairwise fun x y=>ltB x y=true:=by
 rw[List.pairwise_iff_getElem]
 intro i j hi hj hij
 exact qdO h (j - i - 1) i _ _ (gE hi) (by rw[show i+(j - i - 1)+1=j by omega];exact gE hj)
theorem zQ.tpw (h:zQ s):(s.texts.map (·.key)).Pairwise fun x y=>ltB x y=true:=qim fun i t u ht hu=>by
 rw[List.getElem?_map]at ht hu
 obtain ⟨a,ha,rfl⟩:=Option.map_eq_some_iff.1 ht
 obtain ⟨c,hc,rfl⟩:=Option.map_eq_some_iff.1 hu
 exact h.tasc i a c ha hc
theorem zQ.npw (h:zQ s):(s.nums.map (·.key)).Pairwise fun x y=>ltB x y=true:=qim fun i t u ht hu=>by
 rw[List.getElem?_map]at ht hu
 obtain ⟨a,ha,rfl⟩:=Option.map_eq_some_iff.1 ht
 obtain ⟨c,hc,rfl⟩:=Option.map_eq_some_iff.1 hu
 exact h.nasc i a c ha hc
theorem yR {u:World} {f:Fm} {l:List Nat} (h:Jq u mo es ck) (hl:∀c,mo=some c→c∉l) (hH:Hp f w H) (hs:∀x∈vh u l,x∈H):Jq w mo es ck:=by
 rcases h with h|⟨c,rfl,hc⟩
 ·exact .inl h
 ·refine .inr ⟨c,rfl,?_⟩
  have hlt:=(Array.getElem?_eq_some_iff.1 hc).1
  have hm:(⟨c,0,[],false,false,u.heap[c]?⟩:Ent)∈vh u l:=List.mem_map.2 ⟨c,by simp[hlt,hl c rfl],rfl⟩
  exact (hH.has (hs _ hm)).obj _ hc
abbrev eB:ByteArray:=⟨#[]⟩
def YV (s:ku):List ByteArray:=(s.texts.flatMap fun t=>t.key::t.list)++s.nums.map (·.key)
def yz (x:jD):List ByteArray:=[eB,x.drop,x.keep,x.per.ty,x.per.unit]++((x.types.flatMap fun t=>[t.ty,t.unit])++((x.samples.flatMap YV)++((x.mappings.flatMap fun m=>[m.file,m.build])++x.funcs.flatMap fun f=>[f.name,f.system,f.file])))
theorem qio {x:jD} {t:xn} (h:t∈x.types) {s:ByteArray} (hs:s∈[t.ty,t.unit]):s∈yz x:=by
 simp only[yz,List.mem_append]
 exact .inr (.inl (List.mem_flatMap.2 ⟨t,h,hs⟩))
theorem qdP {x:jD} {t:ku} (h:t∈x.samples) {s:ByteArray} (hs:s∈YV t):s∈yz x:=by
 simp only[yz,List.mem_append]
 exact .inr (.inr (.inl (List.mem_flatMap.2 ⟨t,h,hs⟩)))
theorem qip {x:jD} {t:qK} (h:t∈x.mappings) {s:ByteArray} (hs:s∈[t.file,t.build]):s∈yz x:=by
 simp only[yz,List.mem_append]
 exact .inr (.inr (.inr (.inl (List.mem_flatMap.2 ⟨t,h,hs⟩))))
theorem qdQ {x:jD} {t:yl} (h:t∈x.funcs) {s:ByteArray} (hs:s∈[t.name,t.system,t.file]):s∈yz x:=by
 simp only[yz,List.mem_append]
 exact .inr (.inr (.inr (.inr (List.mem_flatMap.2 ⟨t,h,hs⟩))))
theorem qgF {t:xB} (h:t∈s.texts):t.key∈YV s:=by
 simp only[YV,List.mem_append]
 exact .inl (List.mem_flatMap.2 ⟨t,h,by simp⟩)
theorem qgD {t:xB} (h:t∈s.texts) {v:ByteArray} (hv:v∈t.list):v∈YV s:=by
 simp only[YV,List.mem_append]
 exact .inl (List.mem_flatMap.2 ⟨t,h,by simp[hv]⟩)
theorem qgE {t:zf} (h:t∈s.nums):t.key∈YV s:=by
 simp only[YV,List.mem_append]
 exact .inr (List.mem_map.2 ⟨t,h,rfl⟩)
def VB (ids:List Int) (z:Int):Int:=if 0≤z then ids.getD z.toNat 0 else 0
abbrev mid (x:jD) (z:Int):Int:=VB (x.mappings.map (·.id)) z
abbrev fnid (x:jD) (z:Int):Int:=VB (x.funcs.map (·.id)) z
abbrev lid (x:jD) (z:Int):Int:=VB (x.locs.map (·.id)) z
def Qn (x:jD) (g:G):Value→Int
 | .pointer (some a)=>(x.funcs.map (·.id)).getD (g.funs.idxOf a.block) 0
 |_=>0
theorem qfA {l:List Nat} (hn:l.Nodup) (h:l[i]? =some b):l.idxOf b=i:=by
 have hl:=(List.getElem?_eq_some_iff.1 h).1
 have hb:l[i]=b:=by rw[gE hl]at h;exact Option.some.inj h
 have hm:b∈l:=mG h
 have h1:l.idxOf b<l.length:=List.idxOf_lt_length_iff.2 hm
 have h2:l[l.idxOf b]=b:=List.getElem_idxOf h1
 exact zN hn h1 hl (by rw[h2,hb])
theorem Zp {x:jD} (hn:g.funs.Nodup) (hl:g.funs.length=x.funcs.length) {z:Int} (hz:0≤z→z.toNat<x.funcs.length):Qn x g (qe g.funs z)=fnid x z:=by
 unfold qe fnid VB
 by_cases h:0≤z
 ·have hlt:=hz h
  have hg:g.funs[z.toNat]? =some g.funs[z.toNat]:=gE ox
  simp only[h,if_true,hg,Option.map_some,Qn]
  rw[qfA hn hg]
 ·simp[h,Qn]
def xG (t:xB):List (ByteArray×Option ByteArray×Int):=t.list.map fun v=>(t.key,some v,0)
def yr (t:zf):List (ByteArray×Option ByteArray×Int):=t.list.map fun v=>(t.key,none,v)
def QE (s:ku):List (ByteArray×Option ByteArray×Int):=s.texts.flatMap xG++s.nums.flatMap yr
def qgh (T:List ByteArray) (q:Int×Int×Int) (e:ByteArray×Option ByteArray×Int):Prop:=At T q.1 e.1∧match e.2.1 with
 |some v=>At T q.2.1 v∧q.2.2=0
 |none=>q.2.1=0∧q.2.2=e.2.2
theorem qgh.mono {T:List ByteArray} {q:Int×Int×Int} {e:ByteArray×Option ByteArray×Int} (h:qgh T q e) (p:T<+:T'):qgh T' q e:=by
 obtain ⟨h1,h2⟩:=h
 refine ⟨h1.mono p,?_⟩
 obtain ⟨k,v,z⟩:=e
 cases v with
 |some v=>exact ⟨h2.1.mono p,h2.2⟩
 |none=>exact h2
def LbR (T:List ByteArray) (lbs:List (Int×Int×Int)) (es:List (ByteArray×Option ByteArray×Int)):Prop:=lbs.length=es.length∧∀(i:Nat) q e,lbs[i]? =some q→es[i]? =some e→qgh T q e
theorem LbR.nil {T:List ByteArray}:LbR T [] []:=⟨rfl,by simp⟩
theorem LbR.mono {T:List ByteArray} {lbs:List (Int×Int×Int)} {es:List (ByteArray×Option ByteArray×Int)} (h:LbR T lbs es) (p:T<+:T'):LbR T' lbs es:=⟨h.1,fun i q e hq he=>(h.2 i q e hq he).mono p⟩
theorem LbR.push {T:List ByteArray} {lbs:List (Int×Int×Int)} {es:List (ByteArray×Option ByteArray×Int)} {q:Int×Int×Int} {e:ByteArray×Option ByteArray×Int} (h:LbR T lbs es) (p:T<+:T') (hq:qgh T' q e):LbR T' (lbs++[q]) (es++[e]):=by
 refine ⟨by simp[h.1],fun i q' e' hq' he'=>?_⟩
 by_cases hi:i<lbs.length
 ·rw[aq hi]at hq'
  rw[aq (by rw[← h.1];exact hi)]at he'
  exact (h.2 i q' e' hq' he').mono p
 ·have hlt:=(List.getElem?_eq_some_iff.1 hq').1
  simp at hlt
  have e1:i=lbs.length:=by omega
  subst e1
  rw[List.getElem?_append_right ox]at hq'
  rw[List.getElem?_append_right (by rw[h.1];omega)]at he'
  simp at hq'
  simp[h.1]at he'
  subst hq';subst he';exact hq
def φ1 (T:List ByteArray) (w:World) (b:Nat) (t:xn):Prop:=∃n m,Blk w b tVT [.string t.ty,.string t.unit,.int .i64 n,.int .i64 m]∧At T n t.ty∧At T m t.unit
def φ3 (T:List ByteArray) (w:World) (b:Nat) (m:qK):Prop:=∃n k,Blk w b vO [.int .u64 m.id,.int .u64 m.start,.int .u64 m.limit,.int .u64 m.offset,.string m.file,.string m.build,.bool m.fu,.bool m.fi,.bool m.li,.bool m.inl,.int .i64 n,.int .i64 k]∧At T n m.file∧At T k m.build
def φ5 (T:List ByteArray) (w:World) (b:Nat) (f:yl):Prop:=∃n k i,Blk w b xi [.int .u64 f.id,.string f.name,.string f.system,.string f.file,.int .i64 f.start,.int .i64 n,.int .i64 k,.int .i64 i]∧At T n f.name∧At T k f.system∧At T i f.file
def φ2 (w0:World) (T:List ByteArray) (x:jD) (w:World) (b:Nat) (s:ku):Prop:=∃ls vs lm nm iv xv lbs,Blk w b kY [ls,vs,lm,nm,.map none,iv,xv]∧OS qd 1 w0 vs (s.values.map (.int .i64))∧
 OS vR 1 w iv (s.stack.map fun z=>.int .u64 (lid x z))∧OS vq 3 w xv (lbs.flatMap cLb)∧LbR T lbs (QE s)
def ψ2 (w0:World) (locs:List Nat) (w:World) (b:Nat) (s:ku):Prop:=∃ls vs lm nm,Blk w b kY (Xx ls vs lm nm)∧OS vD 1 w0 ls (s.stack.map (qe locs))∧OS qd 1 w0 vs (s.values.map (.int .i64))∧QF qc w0 lm (Jv s)∧QF qd w0 nm (JJ s)
def ψ4 (B:Nat) (w0:World) (g:G) (w:World) (b:Nat) (l:vP):Prop:=∃ls,Blk w b qH (KB g.maps l ls)∧OS kq 3 w0 ls (l.lines.flatMap (qk g.funs))∧∀rb n c,ls=.slice (some ⟨rb,0,none⟩) n c→B≤rb
def Yc (x:jD) (w:World) (v:Value) (lines:List vz):Prop:=∀p l c rb,v=.slice p l c→p=some ⟨rb,0,none⟩→∀(i:Nat) n,lines[i]? =some n→w.cell? ⟨rb,i*3+2,none⟩=some (.int .u64 (fnid x n.fn))
def φ4 (w0:World) (x:jD) (g:G) (w:World) (b:Nat) (l:vP):Prop:=∃ls,Blk w b qH [.int .u64 l.id,qe g.maps l.mapping,.int .u64 l.addr,ls,.bool false,.int .u64 (mid x l.mapping)]∧OS kq 3 w0 ls (l.lines.flatMap (qk g.funs))∧Yc x w ls l.lines
theorem φ1.mono {T:List ByteArray} {t:xn} (h:φ1 T w b t) (p:T<+:T') (k:∀cs,Blk w b tVT cs→Blk w' b tVT cs):φ1 T' w' b t:=by
 obtain ⟨n,m,h1,h2,h3⟩:=h
 exact ⟨n,m,k _ h1,h2.mono p,h3.mono p⟩
theorem φ3.mono {T:List ByteArray} {t:qK} (h:φ3 T w b t) (p:T<+:T') (k:∀cs,Blk w b vO cs→Blk w' b vO cs):φ3 T' w' b t:=by
 obtain ⟨n,m,h1,h2,h3⟩:=h
 exact ⟨n,m,k _ h1,h2.mono p,h3.mono p⟩
theorem φ5.mono {T:List ByteArray} {t:yl} (h:φ5 T w b t) (p:T<+:T') (k:∀cs,Blk w b xi cs→Blk w' b xi cs):φ5 T' w' b t:=by
 obtain ⟨n,m,i,h1,h2,h3,h4⟩:=h
 exact ⟨n,m,i,k _ h1,h2.mono p,h3.mono p,h4.mono p⟩
theorem φ2.mono {T:List ByteArray} {x:jD} (h:φ2 w0 T x w b s) (p:T<+:T') (k:∀cs,Blk w b kY cs→Blk w' b kY cs) (k2:∀c cs,Blk w c vR cs→Blk w' c vR cs) (k3:∀c cs,Blk w c vq cs→Blk w' c vq cs):φ2 w0 T' x w' b s:=by
 obtain ⟨ls,vs,lm,nm,iv,xv,lbs,h1,h2,h3,h4,h5⟩:=h
 exact ⟨ls,vs,lm,nm,iv,xv,lbs,k _ h1,h2,h3.mono k2,h4.mono k3,h5.mono p⟩
theorem ψ2.mono {locs:List Nat} (h:ψ2 w0 locs w b s) (k:∀cs,Blk w b kY cs→Blk w' b kY cs):ψ2 w0 locs w' b s:=by
 obtain ⟨ls,vs,lm,nm,h1,h2⟩:=h
 exact ⟨ls,vs,lm,nm,k _ h1,h2⟩
theorem ψ4.mono {l:vP} (h:ψ4 B w0 g w b l) (k:∀cs,Blk w b qH cs→Blk w' b qH cs):ψ4 B w0 g w' b l:=by
 obtain ⟨ls,h1,h2⟩:=h
 exact ⟨ls,k _ h1,h2⟩
theorem φ4.mono {x:jD} {l:vP} (h:φ4 w0 x g w b l) (k:∀cs,Blk w b qH cs→Blk w' b qH cs) (k2:∀v,OS kq 3 w0 v (l.lines.flatMap (qk g.funs))→Yc x w v l.lines→Yc x w' v l.lines):φ4 w0 x g w' b l:=by
 obtain ⟨ls,h1,h2,h3⟩:=h
 exact ⟨ls,k _ h1,h2,k2 _ h2 h3⟩
def LC (fid:Value→Int) (cs cs':List Value):Prop:=cs'.length=cs.length∧∀(j:Nat),(j%3≠2→cs'[j]? =cs[j]?)∧(j%3=2→cs'[j]? =cs[j]? ∨∃v,cs[j - 2]? =some v∧cs'[j]? =some (.int .u64 (fid v)))
theorem LC.refl {fid:Value→Int}:LC fid cs cs:=⟨rfl,fun _=>⟨fun _=>rfl,fun _=>.inl rfl⟩⟩
theorem LC.set {fid:Value→Int} {cs':List Value} (h:LC fid cs cs') (hv:cs[i*3]? =some v) (hl:i*3+2<cs.length):LC fid cs (cs'.set (i*3+2) (.int .u64 (fid v))):=by
 refine ⟨by simp[h.1],fun j=>⟨fun hj=>?_,fun hj=>?_⟩⟩
 ·rw[List.getElem?_set_ne ox];exact (h.2 j).1 hj
 ·by_cases he:i*3+2=j
  ·subst he
   exact .inr ⟨v,by simpa using hv,by rw[List.getElem?_set_self (by rw[h.1];exact hl)]⟩
  ·rw[List.getElem?_set_ne he];exact (h.2 j).2 hj
def Ya (fid:Value→Int) (w0 w:World):Prop:=∀b cs,Blk w0 b kq cs→∃cs',Blk w b kq cs'∧LC fid cs cs'
theorem Ya.keep {fid:Value→Int} (h:Ya fid w0 w) (k:∀b cs,Blk w b kq cs→Blk w' b kq cs):Ya fid w0 w':=fun b cs hb=>by
 obtain ⟨cs',h1,h2⟩:=h b cs hb
 exact ⟨cs',k _ _ h1,h2⟩
abbrev wP:List Nat:=[tVT,kY,vO,qH,kq,xi]
structure PS (B:Nat) (w0:World) (mb:Nat) (x:jD) (g:G) (n1 n2 n3 n4 n5:Nat) (T:List ByteArray) (w:World):Prop where
 tab:Tab w mb (yz x) T
 zero:T[0]? =some eB
 fr:Fr B wP w0 w
 pt:Pg n1 g.types x.types (φ1 T w) (φT w)
 ps:Pg n2 g.sams x.samples (φ2 w0 T x w) (ψ2 w0 g.locs w)
 pm:Pg n3 g.maps x.mappings (φ3 T w) (φM w)
 pl:Pg n4 g.locs x.locs (φ4 w0 x g w) (ψ4 B w0 g w)
 pf:Pg n5 g.funs x.funcs (φ5 T w) (φF w)
 per:Blk w g.per tVT (cVT x.per)
 lines:Ya (Qn x g) w0 w
theorem Yc.keep {x:jD} {lines:List vz} (h:Yc x w v lines) (k:∀b cs,Blk w b kq cs→Blk w' b kq cs) {fid:Value→Int} (hL:Ya fid w0 w) (hv:OS kq 3 w0 v cs) (hl:lines.length*3≤cs.length):Yc x w' v lines:=by
 intro p l c rb e1 e2 i n hn
 have h1:=h p l c rb e1 e2 i n hn
 obtain ⟨y,p',l',c',e3,hO,hy⟩:=hv
 rw[e1]at e3
 cases e3
 have hll:0<l:=by
  have:=hO.sl.1
  have:=(List.getElem?_eq_some_iff.1 hn).1
  omega
 obtain ⟨hon,hp⟩:=hO.pos hll
 rw[e2]at hp
 obtain rfl:rb=y.b:=by cases hp;rfl
 obtain ⟨cs',h2, -⟩:=hL _ _ (hy hon)
 rw[h2.cell]at h1
 rw[(k _ _ h2).cell]
 exact h1
theorem PS.keep {x:jD} {n1 n2 n3 n4 n5:Nat} {T:List ByteArray} (h:PS B w0 mb x g n1 n2 n3 n4 n5 T w) (k:Fr 0 [] w w'):PS B w0 mb x g n1 n2 n3 n4 n5 T w':=by
 have kr:=fun (b:Nat) (T:Nat) (cs:List Value) (hb:Blk w b T cs)=>k.blk hb (.inr zp)
 exact ⟨h.tab.keep fun es ck hm=>k.keep _ _ hm (.inr zp),h.zero,h.fr.trans (k.quiet B wP) (.inr ⟨Nat.le_refl _,fun _ h=>h⟩),
  h.pt.mono (fun b x hh=>hh.mono (List.prefix_refl _) fun cs=>kr _ _ cs) (fun b x hh=>kr _ _ _ hh),
  h.ps.mono (fun b x hh=>hh.mono (List.prefix_refl _) (fun cs=>kr _ _ cs) (fun c cs=>kr _ _ cs) (fun c cs=>kr _ _ cs)) (fun b x hh=>hh.mono fun cs=>kr _ _ cs),
  h.pm.mono (fun b x hh=>hh.mono (List.prefix_refl _) fun cs=>kr _ _ cs) (fun b x hh=>kr _ _ _ hh),
  h.pl.mono (fun b x hh=>hh.mono (fun cs=>kr _ _ cs) fun v hv hf=>hf.keep (fun b cs=>kr _ _ cs) h.lines hv (by rw[qw (sz:=3) (fun _=>rfl)];exact Nat.le_refl _)) (fun b x hh=>hh.mono fun cs=>kr _ _ cs),
  h.pf.mono (fun b x hh=>hh.mono (List.prefix_refl _) fun cs=>kr _ _ cs) (fun b x hh=>kr _ _ _ hh),kr _ _ _ h.per,h.lines.keep fun b cs=>kr _ _ cs⟩
abbrev LE:=ByteArray×Option ByteArray×Int
def kn:Fld→Nat
 | .num k _=>k
 | .bys k _=>k
def qfC:Fld→Nat
 | .num _ n=>n
 | .bys _ _=>0
def qn:Fld→List Nat
 | .num _ _=>[]
 | .bys _ B=>B
def jP (k s:Nat) (fs:List Fld):Nat:=fs.foldl (fun a f=>if kn f=k then qfC f else a) s
abbrev kE (k:Nat) (fs:List Fld):Nat:=jP k 0 fs
theorem kz (k s:Nat) (a b:List Fld):jP k s (a++b)=jP k (jP k s a) b:=List.foldl_append ..
def cnt (k:Nat) (fs:List Fld):Nat:=(fs.filter fun f=>kn f=k).length
theorem qbB (k:Nat) (a b:List Fld):cnt k (a++b)=cnt k a+cnt k b:=by simp[cnt,List.filter_append]
theorem qeD (k:Nat) (f:Fld):cnt k [f]=if kn f=k then 1 else 0:=by unfold cnt;by_cases h:kn f=k<;>simp[h]
theorem zP {a:List Fld} {f:Fld} (h:kn f=k):cnt k (a++[f])=cnt k a+1:=by rw[qbB,qeD,if_pos h]
theorem jR {a:List Fld} {f:Fld} (h:kn f≠k):cnt k (a++[f])=cnt k a:=by rw[qbB,qeD,if_neg h];rfl
theorem JI {s:Nat} {a:List Fld} {f:Fld} (h:kn f=k):jP k s (a++[f])=qfC f:=by rw[kz];simp[jP,h]
theorem jY {s:Nat} {a:List Fld} {f:Fld} (h:kn f≠k):jP k s (a++[f])=jP k s a:=by rw[kz];simp[jP,h]
abbrev Msg:=List (GFld×List Nat)
def mB (m:Msg):List Nat:=m.flatMap (·.2)
def qmh (tb:Nat→Nat) (g:GFld):Prop:=match g with
 | .fld (.num k _)=>tb k≠2
 | .fld (.bys k _)=>tb k≠1
 | .fix8 k _=>tb k=0
 | .fix4 k _=>tb k=0
structure MOK (tb:Nat→Nat) (m:Msg):Prop where
 enc:MEnc2 m
 wire:∀g∈m,qmh tb g.1
 len:(mB m).length≤2000000000
def tb2 (k:Nat):Nat:=if 1≤k∧k≤2 then 1 else 0
def tb3 (k:Nat):Nat:=if 1≤k∧k≤3 then 1 else 0
def tb5 (k:Nat):Nat:=if 1≤k∧k≤5 then 1 else 0
def qdj (k:Nat):Nat:=if 1≤k∧k≤10 then 1 else 0
def qdi (k:Nat):Nat:=if 1≤k∧k≤3 then 1 else if k=4 then 2 else 0
def qgs (k:Nat):Nat:=if 1≤k∧k≤2 then 3 else if k=3 then 2 else 0
def qaR (k:Nat):Nat:=if 1≤k∧k≤6∨k=11 then 2 else if k=13 then 3 else if 7≤k∧k≤14 then 1 else 0
structure Kk (k:Nat) (fs:List Fld) (ms:List Msg) (φ:Nat→Msg→Prop):Prop where
 eq:(fs.filter fun f=>kn f=k).map qn=ms.map mB
 ok:∀(i:Nat) m,ms[i]? =some m→φ i m
theorem Kk.at_ {ms:List Msg} {φ:Nat→Msg→Prop} (h:Kk k fs ms φ) {pre:List Fld} {f:Fld} (hp:pre++[f]<+:fs) (hk:kn f=k):∃m,mB m=qn f∧φ (cnt k pre) m:=by
 obtain ⟨r,rfl⟩:=hp
 have h1:(((pre++[f]++r).filter fun f=>kn f=k).map qn)[cnt k pre]? =some (qn f):=by
  rw[List.filter_append,List.filter_append,List.append_assoc,List.map_append,List.getElem?_append_right (by simp[cnt]),show cnt k pre - ((pre.filter fun f=>decide (kn f=k)).map qn).length=0 by simp[cnt]]
  simp[hk]
 rw[h.eq,List.getElem?_map]at h1
 obtain ⟨m,h2,h3⟩:=Option.map_eq_some_iff.1 h1
 exact ⟨m,h3,h.ok _ m h2⟩
theorem Kk.cnt {ms:List Msg} {φ:Nat→Msg→Prop} (h:Kk k fs ms φ):cnt k fs=ms.length:=by
 have:=congrArg List.length h.eq
 simpa[Go.Proofs.YtifdadlhmlhfiaaGreatDoor.cnt]using this
def Vs:List Nat→List Nat→Prop
 |[],B=>B=[]
 |n::r,B=>∃b B',B=b++B'∧yh n b∧n<18446744073709551616∧Vs r B'
theorem Vs.len:∀{ns B:List Nat},Vs ns B→ns.length≤B.length
 |[],_,_=>Nat.zero_le _
 |_::r,_,⟨b,B',rfl,h1,_,h3⟩=>by have:=h1.pos;have:=Vs.len h3;simp;omega
def GV (f:Fld) (ns:List Nat):Prop:=match f with
 | .num _ n=>ns=[n]∧n<18446744073709551616
 | .bys _ B=>Vs ns B
structure zR (k:Nat) (fs:List Fld) (nss:List (List Nat)):Prop where
 len:nss.length=fs.length
 at_:∀(i:Nat) f ns,fs[i]? =some f→nss[i]? =some ns→if kn f=k then GV f ns else ns=[]
def gv (nss:List (List Nat)) (pre:List Fld):List Nat:=(nss.take pre.length).flatten
theorem zR.all {nss:List (List Nat)} (h:zR k fs nss):gv nss fs=nss.flatten:=by rw[gv, ← h.len,List.take_length]
theorem qlf {pre:List Fld} {f:Fld} (hp:pre++[f]<+:fs):fs[pre.length]? =some f:=by
 obtain ⟨r,rfl⟩:=hp
 rw[List.append_assoc,List.getElem?_append_right (Nat.le_refl _),Nat.sub_self];rfl
theorem zR.step {pre:List Fld} {nss:List (List Nat)} {f:Fld} (h:zR k fs nss) (hp:pre++[f]<+:fs):∃ns,gv nss (pre++[f])=gv nss pre++ns∧if kn f=k then GV f ns else ns=[]:=by
 have h1:=qlf hp
 have hl:=(List.getElem?_eq_some_iff.1 h1).1
 have hl2:pre.length<nss.length:=by rw[h.len];exact hl
 refine ⟨nss[pre.length],?_,h.at_ _ f _ h1 (gE hl2)⟩
 rw[gv,gv,lA,List.length_singleton, ← tG hl2,List.flatten_append];simp
def Al2 {α β:Type} (xs:List α) (ys:List β) (R:α→β→Prop):Prop:=ys.length=xs.length∧∀(i:Nat) a b,xs[i]? =some a→ys[i]? =some b→R a b
structure TyM (T:List ByteArray) (t:xn) (m:Msg):Prop where
 ok:MOK tb2 m
 h1:T[kE 1 (kV m)]? =some t.ty
 h2:T[kE 2 (kV m)]? =some t.unit
structure MpM (T:List ByteArray) (t:qK) (m:Msg):Prop where
 ok:MOK qdj m
 id:(kE 1 (kV m):Int)=t.id
 st:(kE 2 (kV m):Int)=t.start
 li:(kE 3 (kV m):Int)=t.limit
 off:(kE 4 (kV m):Int)=t.offset
 file:T[kE 5 (kV m)]? =some t.file
 build:T[kE 6 (kV m)]? =some t.build
 fu:decide (kE 7 (kV m)≠0)=t.fu
 fi:decide (kE 8 (kV m)≠0)=t.fi
 ln:decide (kE 9 (kV m)≠0)=t.li
 inl:decide (kE 10 (kV m)≠0)=t.inl
structure FnM (T:List ByteArray) (f:yl) (m:Msg):Prop where
 ok:MOK tb5 m
 id:(kE 1 (kV m):Int)=f.id
 name:T[kE 2 (kV m)]? =some f.name
 sys:T[kE 3 (kV m)]? =some f.system
 file:T[kE 4 (kV m)]? =some f.file
 st:IntKind.i64.wrap (kE 5 (kV m):Nat)=f.start
structure LnM (x:jD) (n:vz) (m:Msg):Prop where
 ok:MOK tb2 m
 fn:(kE 1 (kV m):Int)=fnid x n.fn
 line:IntKind.i64.wrap (kE 2 (kV m):Nat)=n.line
structure LcM (x:jD) (l:vP) (m:Msg):Prop where
 ok:MOK qdi m
 id:(kE 1 (kV m):Int)=l.id
 mp:(kE 2 (kV m):Int)=mid x l.mapping
 ad:(kE 3 (kV m):Int)=l.addr
 lns:∃g,g.length=l.lines.length∧Kk 4 (kV m) g fun i q=>∀n,l.lines[i]? =some n→LnM x n q
structure LbM (T:List ByteArray) (e:LE) (m:Msg):Prop where
 ok:MOK tb3 m
 key:T[kE 1 (kV m)]? =some e.1
 val:match e.2.1 with
  |some t=>kE 2 (kV m)≠0∧T[kE 2 (kV m)]? =some t
  |none=>kE 2 (kV m)=0∧IntKind.i64.wrap (kE 3 (kV m):Nat)=e.2.2
def Jw (es:List LE) (k:ByteArray):List ByteArray:=es.filterMap fun e=>if e.1=k then e.2.1 else none
def Jx (es:List LE) (k:ByteArray):List Int:=es.filterMap fun e=>if e.1=k∧e.2.1=none then some e.2.2 else none
structure ZE (es:List LE) (s:ku):Prop where
 t:∀t∈s.texts,Jw es t.key=t.list
 n:∀t∈s.nums,Jx es t.key=t.list
 tk:∀e∈es,∀v,e.2.1=some v→e.1∈s.texts.map (·.key)
 nk:∀e∈es,e.2.1=none→e.1∈s.nums.map (·.key)
structure SmM (x:jD) (T:List ByteArray) (s:ku) (m:Msg):Prop where
 ok:MOK qgs m
 st:∃nss,zR 1 (kV m) nss∧nss.flatten.map (fun n:Nat=>(n:Int))=s.stack.map (lid x)
 vs:∃nss,zR 2 (kV m) nss∧nss.flatten.map (fun n:Nat=>IntKind.i64.wrap (n:Nat))=s.values
 lb:∃(g:List Msg) (es:List LE),g.length=es.length∧(Kk 3 (kV m) g fun i q=>∀e,es[i]? =some e→LbM T e q)∧ZE es s∧es.length≤1000000
structure UIn (x:jD) (T:List ByteArray) (m:Msg):Prop where
 ok:MOK qaR m
 tab:((kV m).filter fun f=>kn f=6).map qn=T.map sB
 z0:T[0]? =some eB
 tl:T.length≤1000000000
 drop:T[kE 7 (kV m)]? =some x.drop
 keep:T[kE 8 (kV m)]? =some x.keep
 time:IntKind.i64.wrap (kE 9 (kV m):Nat)=x.time
 dur:IntKind.i64.wrap (kE 10 (kV m):Nat)=x.dur
 period:IntKind.i64.wrap (kE 12 (kV m):Nat)=x.period
 dfl:T[kE 14 (kV m)]? =some x.deflt
 ty:∃g,g.length=x.types.length∧Kk 1 (kV m) g fun i q=>∀t,x.types[i]? =some t→TyM T t q
 sm:∃g,g.length=x.samples.length∧Kk 2 (kV m) g fun i q=>∀t,x.samples[i]? =some t→SmM x T t q
 mp:∃g,g.length=x.mappings.length∧Kk 3 (kV m) g fun i q=>∀t,x.mappings[i]? =some t→MpM T t q
 lc:∃g,g.length=x.locs.length∧Kk 4 (kV m) g fun i q=>∀t,x.locs[i]? =some t→LcM x t q
 fn:∃g,g.length=x.funcs.length∧Kk 5 (kV m) g fun i q=>∀t,x.funcs[i]? =some t→FnM T t q
 pe:∃g,g.length≤1∧(g=[]→x.per=⟨eB,eB⟩)∧Kk 11 (kV m) g fun _ q=>TyM T x.per q
 cm:∃nss,zR 13 (kV m) nss∧Al2 x.comments nss.flatten fun s n=>T[n]? =some s
end Go.Proofs.YtifdadlhmlhfiaaGreatDoor
namespace Go.Fw
open Go
variable {a:Act} {kd:IntKind} {W:List Nat} {cs vs xs:List Value} {B T b by_ c i l m sT sz t t':Nat} {φ:Nat→Prop} {x:Operand} {p:Option Addr} {v:Value} {w w':World}
section
variable {P:Program} {ops:Array Oper} {Q:Exit→Act→World→Prop} {S:World→Prop} {nt al:Nat}
def rmS (al:Nat) (s:xr):xr:=s.filter fun p=> !Nat.beq p.1 al
def goF (ops:Array Oper) (nt al:Nat):Array Bool→xr→Bool
 |_,[]=>false
 |listed,(i,true)::r=>Nat.blt i nt&&(Region.ready .any ops listed).contains i&&Region.free .any ops listed i
  &&(List.range ops.size).all (fun t=>Nat.blt t nt|| !listed.getD t true)&&goF ops nt al (listed.setIfInBounds i true) r
 |listed,(i,false)::r=>bif Nat.beq i al then (match Region.ready .any ops listed with|[j]=>Nat.beq j al|_=>false)&&goB ops nt (listed.setIfInBounds al true) r
  else (Region.ready .any ops listed).contains i&&(Region.ready .any ops listed).all (fun j=>Nat.beq j i||Nat.beq j al)&&Nat.beq ((rmS al r).length+1) r.length
    &&goF ops nt al (listed.setIfInBounds i true) r&&(!(Region.ready .any ops listed).contains al||goB ops nt (listed.setIfInBounds al true) ((i,false)::rmS al r))
def qdo (ops:Array Oper) (nt al:Nat) (s:xr):Bool:=YQ ops nt&&Region.noSelect ops&&Nat.beq s.length ops.size&&goF ops nt al (Array.replicate ops.size false) s
def wpF (P:Program) (ops:Array Oper) (Q:Exit→Act→World→Prop) (S:World→Prop) (nt al:Nat):xr→Act→World→Prop
 |[],_,_=>False
 |(i,true)::r,a,w=>∃o v,ops[i]? =some o∧YieldsIf P ops S o v a∧S w∧wpF P ops Q S nt al r (a.put o.dst v) w
 |(i,false)::r,a,w=>bif Nat.beq i al then wpOp P ops Q al (fun a' w'=>(al<nt→S w')∧wpS P ops Q S nt r a' w') a w
    else wpOp P ops Q i (fun a' w'=>(i<nt→S w')∧wpF P ops Q S nt al r a' w') a w∧wpOp P ops Q al (fun a' w'=>(al<nt→S w')∧wpS P ops Q S nt ((i,false)::rmS al r) a' w') a w
theorem qgi (ht:YQ ops nt=true) (hsel:Region.noSelect ops=true) (hQ:∀c a a' w,Q (.panic c) a w→Q (.panic c) a' w):
  ∀(s:xr) (listed:Array Bool) (a:Act) (w:World),Clo ops listed→goF ops nt al listed s=true→wpF P ops Q S nt al s a w→wpG P ops Q S nt s.length listed a w:=by
 intro s
 induction s with
 |nil=>intro listed a w _ hg;cases hg
 |cons p r ih=>
  obtain ⟨i,t⟩:=p
  intro listed a w inv hg h
  cases t with
  |true=>
   simp only[goF,Bool.and_eq_true,Nat.blt_eq]at hg
   obtain ⟨⟨⟨⟨h1,h2⟩,h3⟩,h4⟩,h5⟩:=hg
   obtain ⟨o,v,ho,hy,hS,hrest⟩:=h
   have hmem:i∈Region.ready .any ops listed:=by simpa using h2
   refine ZZ ho (Region.noSelect_spec hsel) (fun c a w hq=>hQ c _ _ w hq) ht h1 r.length listed a w inv ?_ (Region.free_spec ho h3) hmem hy hS ?_
   ·intro t h6 h7
    have:=List.all_eq_true.1 h4 t (List.mem_range.2 h7)
    simp only[Bool.or_eq_true,Nat.blt_eq,Bool.not_eq_true']at this
    rcases this with h8|h8
    ·omega
    ·exact h8
   ·exact ih _ _ _ (inv.set hmem) h5 hrest
  |false=>
   by_cases hial:Nat.beq i al=true
   ·simp only[goF,wpF,hial,cond_true,Bool.and_eq_true]at hg h
    obtain ⟨h1,h2⟩:=hg
    have hrd:Region.ready .any ops listed=[al]:=by
       split at h1
       ·rename_i j hj
        rw[hj,Nat.eq_of_beq_eq_true h1]
       ·exact absurd h1 zp
    refine ⟨fun h0=>(by rw[hrd]at h0;cases h0),fun j hj=>?_⟩
    rw[hrd]at hj
    simp at hj
    subst hj
    exact wpOp_mono (fun a' w' h3=>⟨h3.1,YN ht hsel hQ _ _ _ _ (inv.set (by rw[hrd];simp)) h2 h3.2⟩) h
   ·have hia:Nat.beq i al=false:=by
       cases h:Nat.beq i al with
       |true=>exact absurd h hial
       |false=>rfl
    simp only[goF,wpF,hia,cond_false,Bool.and_eq_true,Bool.or_eq_true,Bool.not_eq_true']at hg h
    obtain ⟨⟨⟨⟨h1,h2⟩,h3⟩,h4⟩,h5⟩:=hg
    have hmem:i∈Region.ready .any ops listed:=by simpa using h1
    refine ⟨fun h0=>(by rw[h0]at hmem;cases hmem),fun j hj=>?_⟩
    have h6:=List.all_eq_true.1 h2 j hj
    simp only[Bool.or_eq_true]at h6
    rcases h6 with h6|h6
    ·obtain rfl:=Nat.eq_of_beq_eq_true h6
     exact wpOp_mono (fun a' w' h3=>⟨h3.1,ih _ _ _ (inv.set hj) h4 h3.2⟩) h.1
    ·obtain rfl:=Nat.eq_of_beq_eq_true h6
     have h7:goB ops nt (listed.setIfInBounds j true) ((i,false)::rmS j r)=true:=by
        rcases h5 with h5|h5
        ·have:(Region.ready .any ops listed).contains j=true:=by simpa using hj
         rw[this]at h5;cases h5
        ·exact h5
     refine wpOp_mono (fun a' w' h3=>⟨h3.1,?_⟩) h.2
     have h8:=YN (P:=P) (Q:=Q) (S:=S) ht hsel hQ _ _ a' w' (inv.set hj) h7 h3.2
     rw[List.length_cons,Nat.eq_of_beq_eq_true (by assumption:Nat.beq ((rmS j r).length+1) r.length=true)]at h8
     exact h8
def DSF (P:Program) (ops:Array Oper) (Q:Exit→Act→World→Prop) (S:World→Prop) (nt al:Nat) (n:Nat) (e:Env) (s:xr) (w:World):Prop:=∀a,Sat n e a→wpF P ops Q S nt al s a w
variable {n:Nat} {e:Env} {w:World}
theorem qjQ {id:Nat} {l:List Oper} (nt al:Nat) (s:xr) (hm:P.follows .mixedOrders=true) (hs:qdo l.toArray nt al s=true)
  (h:∀w1,Dr w w1→∃S:World→Prop,DSF P l.toArray (NoP Q) S nt al n e s w1):C P (.region id l.toArray true) Q n e w:=fun a ha=>by
 simp only[qdo,Bool.and_eq_true]at hs
 obtain ⟨⟨⟨h1,h2⟩,h3⟩,h4⟩:=hs
 obtain ⟨S,hS⟩:=h { w with drawn:=w.drawn+1 } ⟨rfl,rfl,rfl,rfl⟩
 have h5:(Code.region id l.toArray true).wp P (NoP Q) a w:=by
  have h6:=qgi (P:=P) (Q:=NoP Q) h1 h2 (fun _ _ _ _ hq=>hq) s _ a _ ⟨by simp,by
   intro j oj _ hl
   rw[getD_replicate_false]at hl
   cases hl⟩ h4 (hS a ha)
  rw[Nat.eq_of_beq_eq_true h3]at h6
  exact wp_region_any hm (qaL _ _ _ _ h6)
 exact Code.wp_mono (fun x a w hq=>by cases x<;>first|exact hq|exact hq.elim) h5
theorem qbd {o:Oper} {K:Act→World→Prop} (hi:ops[i]? =some o) (h1:L P ops (Exit.then K Q) n e [o] w) (ha:Sat n e a):wpOp P ops Q i K a w:=by
 have h1:=h1 a ha
 unfold wpOp
 simp only[hi]
 simp only[wpList]at h1
 split
 ·rename_i hw
  rw[if_pos hw]at h1
  rcases h1 with h1|⟨h1,h2⟩
  ·left
   unfold Oper.wp at h1⊢
   generalize (execOp a.eval o).run P w=x at h1⊢
   cases x with
   |ok nx w'=>
    cases nx<;>simp only[Oper.upon]at h1⊢ <;>first
      |exact h1
      |exact Calls.mono h1 (fun x w'' hx=>by cases x<;>first|exact hx|(obtain ⟨a,w,hq⟩:=hx;exact ⟨a,w,hq⟩))
      |exact Rows.mono h1 (fun _ _ hx=>hx)
   |halt y w'=>cases y<;>simp only[Oper.upon]at h1⊢ <;>exact h1
  ·right
   obtain ⟨a',w',hq⟩:=h2
   exact ⟨h1,a',w',hq⟩
 ·rename_i hw
  rw[if_neg hw]at h1
  exact h1
end
section
variable {P:Program} {Q:Exit→Act→World→Prop} {n:Nat} {f:Fm} {e:Env} {H:ko} {ops:Array Oper} {nt al:Nat} {HS:ko} {r:xr} {d ty:Nat} {pos:String} {af:Array Edge}
def DF (P:Program) (ops:Array Oper) (Q:Exit→Act→World→Prop) (f:Fm) (HS:ko) (nt al n:Nat) (e:Env) (H:ko) (s:xr):Prop:=
 ∀w,Hp f w H→f.ok w→DSF P ops Q (Sx f HS) nt al n e s w
theorem qcO {id:Nat} {l:List Oper} {HS:ko} (nt al:Nat) (s:xr) (idx:List Nat) (_:Kp H idx=some HS) (hm:P.follows .mixedOrders=true) (hs:qdo l.toArray nt al s=true)
  (h:DF P l.toArray (NoP Q) f HS nt al n e H s):CJ P (.region id l.toArray true) Q n f e H:=fun w hH hf=>
 qjQ nt al s hm hs fun w1 hD=>⟨_,h w1 (hH.mono fun _ _ _ o hb=>by rw[hD.heap];exact hb) (Fr.dr hf hD)⟩
theorem vf {op:Op} (hi:ops[i]? =some ⟨some d,op,ty,pos,af,none⟩) (hd:Nat.blt d n=true) (hS:∀x∈HS,x∈H)
  (hr:∀a w,Sat n e a→(execOp a.eval ⟨some d,op,ty,pos,af,none⟩).run P w=.ok (.value v) w) (k:DF P ops Q f HS nt al n ((d,v)::e) H r):DF P ops Q f HS nt al n e H ((i,true)::r):=fun w hH hf a ha=>
 ⟨_,v,hi,.inl ⟨by simp[Region.wanted],fun w _=>hr a w ha⟩,⟨fun x hx ho=>hH.blk (hS x hx) ho,hf⟩,k w hH hf _ (ha.put hd)⟩
theorem Va {op:Op} (hi:ops[i]? =some ⟨some d,op,ty,pos,af,none⟩) (hd:Nat.blt d n=true) (hS:∀x∈HS,x∈H)
  (hr:∀a w,Sat n e a→Sx f HS w→(execOp a.eval ⟨some d,op,ty,pos,af,none⟩).run P w=.ok (.value v) w) (k:DF P ops Q f HS nt al n ((d,v)::e) H r):DF P ops Q f HS nt al n e H ((i,true)::r):=fun w hH hf a ha=>
 ⟨_,v,hi,.inl ⟨by simp[Region.wanted],fun w hw=>hr a w ha hw⟩,⟨fun x hx ho=>hH.blk (hS x hx) ho,hf⟩,k w hH hf _ (ha.put hd)⟩
theorem qdK {u:Value} (hp:v=u) (k:DF P ops Q f HS nt al n ((d,u)::e) H r):DF P ops Q f HS nt al n ((d,v)::e) H r:=by rw[hp];exact k
theorem qbz {o oa:Oper} (hi:ops[i]? =some o) (hal:ops[al]? =some oa) (hne:Nat.beq i al=false)
  (h2:∀K:Act→World→Prop,(∀e H,(∀x∈HS,x∈H)→DJ P ops Q f HS nt n e H ((i,false)::rmS al r)→NJ K n f e H)→J P ops (Exit.then K Q) n f e H [oa])
  (h1:∀K:Act→World→Prop,(∀e H,(∀x∈HS,x∈H)→DF P ops Q f HS nt al n e H r→NJ K n f e H)→J P ops (Exit.then K Q) n f e H [o]):DF P ops Q f HS nt al n e H ((i,false)::r):=fun w hH hf a ha=>by
 unfold wpF
 rw[hne]
 exact ⟨qbd hi (h1 _ (fun e H hs hd w hH hf a ha=>⟨fun _=>⟨fun x hx ho=>hH.blk (hs x hx) ho,hf⟩,hd w hH hf a ha⟩) w hH hf) ha,qbd hal (h2 _ (fun e H hs hd w hH hf a ha=>⟨fun _=>⟨fun x hx ho=>hH.blk (hs x hx) ho,hf⟩,hd w hH hf a ha⟩) w hH hf) ha⟩
theorem qkv {oa:Oper} (hal:ops[al]? =some oa)
  (h:∀K:Act→World→Prop,(∀e H,(∀x∈HS,x∈H)→DJ P ops Q f HS nt n e H r→NJ K n f e H)→J P ops (Exit.then K Q) n f e H [oa]):DF P ops Q f HS nt al n e H ((al,false)::r):=fun w hH hf a ha=>by
 unfold wpF
 rw[Nat.beq_refl,cond_true]
 exact qbd hal (h _ (fun e H hs hd w hH hf a ha=>⟨fun _=>⟨fun x hx ho=>hH.blk (hs x hx) ho,hf⟩,hd w hH hf a ha⟩) w hH hf) ha
theorem qeF {ι:Type} {x y:Code} (en:ι→Env) (hp:ι→ko) (h1:∀K:Act→World→Prop,(∀i e H,Sub e (en i)→(∀w,Hp f w H→Hp f w (hp i))→NJ K n f e H)→CJ P x (Exit.then K Q) n f e H) (h2:∀i,CJ P y Q n f (en i) (hp i)):CJ P (.seq x y) Q n f e H:=
 qP fun K hK=>h1 K fun i e H hs hH w hw hf=>N.sub' (hK f (en i) (hp i) (h2 i) w (hH w hw) hf) hs
end
section
variable {P:Program} {n:Nat} {e:Env} {d ty:Nat} {pos:String} {af:Array Edge}
theorem xM {xT az te:Nat} (hu:∀w,(underlying az).run P w=.ok (.pointer te) w) (hx:ev e x=some (.iface az v)) (ha:Sat n e a):
  (execOp a.eval ⟨some d,.typeAssert x xT az false,ty,pos,af,none⟩).run P w=.ok (.value v) w:=by
 simp only[execOp,ha.ev hx]
 simp[Instr.typeAssert,hu]
theorem qbU (dd t:Nat) {ps rs:Array TypeId} {va:Bool} {g:Fn} {us vs:Array Value} (hu:P.underlying t=some (.func ps rs va)) (w:World):(Op.equalIn (dd+1) t (.func g us vs) .nilFunc).run P w=.ok false w:=by
 simp[Op.equalIn,run_underlying hu]
theorem qaX (dd t:Nat) {ps rs:Array TypeId} {va:Bool} (hu:P.underlying t=some (.func ps rs va)) (w:World):(Op.equalIn (dd+1) t .nilFunc .nilFunc).run P w=.ok true w:=by
 simp[Op.equalIn,run_underlying hu]
theorem qlc {ps rs:Array TypeId} {va:Bool} {g:Fn} {us vs:Array Value} (hu:P.underlying t=some (.func ps rs va)) (hx:ev e x=some (.func g us vs)) (ha:Sat n e a):
  (execOp a.eval ⟨some d,.binOp .eql t x (.const .nilFunc) t',ty,pos,af,none⟩).run P w=.ok (.value (.bool false)) w:=by
 have h:(binOp .eql t (.func g us vs) .nilFunc).run P w=.ok (.bool false) w:=by
  simp only[binOp]
  simp[Op.equal,Op.maxDepth,qbU 9999 t hu]
 simp only[execOp,ha.ev hx,yU]
 simp[eqGuard,h]
theorem qiI {ps rs:Array TypeId} {va:Bool} (hu:P.underlying t=some (.func ps rs va)) (hx:ev e x=some .nilFunc) (ha:Sat n e a):
  (execOp a.eval ⟨some d,.binOp .eql t x (.const .nilFunc) t',ty,pos,af,none⟩).run P w=.ok (.value (.bool true)) w:=by
 have h:(binOp .eql t .nilFunc .nilFunc).run P w=.ok (.bool true) w:=by
  simp only[binOp]
  simp[Op.equal,Op.maxDepth,qaX 9999 t hu]
 simp only[execOp,ha.ev hx,yU]
 simp[eqGuard,h]
theorem qbT (dd t:Nat) {ms:Array (String×TypeId)} (hu:P.underlying t=some (.interface ms)) (w:World):(Op.equalIn (dd+1) t .nilIface .nilIface).run P w=.ok true w:=by
 simp[Op.equalIn,run_underlying hu]
theorem xl {ms:Array (String×TypeId)} (hu:P.underlying t=some (.interface ms)) (hx:ev e x=some .nilIface) (ha:Sat n e a):
  (execOp a.eval ⟨some d,.binOp .neq t x (.const .nilIface) t',ty,pos,af,none⟩).run P w=.ok (.value (.bool false)) w:=by
 have h:(binOp .neq t .nilIface .nilIface).run P w=.ok (.bool false) w:=by
  simp only[binOp]
  simp[Op.equal,Op.maxDepth,qbT 9999 t hu]
 simp only[execOp,ha.ev hx,yU]
 simp[eqGuard,h]
end
section
variable {P:Program} {Q:Exit→Act→World→Prop} {n:Nat} {f:Fm} {e:Env} {H:ko} {ops:Array Oper} {rest:List Oper} {d ty:Nat} {pos:String} {af:Array Edge}
theorem zy {len:Nat} {parts:Array (Nat×Operand)} {vals:List (Nat×Value)} {z:Value} {cells:Array Value} (hu:∀w,(underlying t).run P w=.ok (.slice T) w) (hsz:∀w,(sizeOf T).run P w=.ok 1 w) (hz:∀w,(zeroValue T).run P w=.ok z w)
  (hp:evP e parts.toList=some vals) (hb:Nat.ble len 1000=true) (h0:Nat.blt 0 len=true) (hfill:Instr.fill (fun i=>some (i*1,1)) ((Array.range (len*1)).map (z.cells[· %z.cells.size]!)) vals=some cells) (hd:Nat.blt d n=true)
  (k:∀b,J P ops Q n f ((d,.slice (some ⟨b,0,none⟩) len len)::e) (⟨b,T,cells.toList,true,true,none⟩::H) rest):J P ops Q n f e H (⟨some d,.buildSlice t len parts,ty,pos,af,none⟩::rest):=fun w hH hf=>by
 have hn:New w { w with heap:=w.heap.push (.cells cells T) } w.heap.size (.cells cells T (0,0)):=⟨rfl,rfl,rfl,rfl,rfl⟩
 have hb':len≤1000:=Nat.le_of_ble_eq_true hb
 have h0':0<len:=by simpa using h0
 have hr:∀(vals':Array (Nat×Value)),vals'.toList=vals→(Instr.buildSlice t len vals').run P w=.ok (.slice (some ⟨w.heap.size,0,none⟩) len len) { w with heap:=w.heap.push (.cells cells T) }:=fun vals' hv=>by
  have hgt:¬(2^24<len*1):=by omega
  have hne:¬(len*1=0):=by omega
  unfold Instr.buildSlice
  subst hv
  simp only[Nat.mul_one]at hfill hgt hne⊢
  simp[hu,hsz,hz,hgt,hne,hfill,Qe]
 refine L.valw hd (fun a ha=>?_) (k w.heap.size _ (by simpa using hH.new hf hn) (hf.new hn))
 have hm:(parts.map fun p=>(p.1,a.eval p.2)).toList=vals:=by rw[Array.toList_map];exact qbu ha hp
 simp only[execOp]
 have:=hr _ hm
 simp[this]
end
section
variable {P:Program}
theorem qbV {xT rt n:Nat} {y:Ent} (hu:∀w,(underlying sT).run P w=.ok (.slice T) w) (hux:∀w,(underlying xT).run P w=.ok (.int kd) w)
  (hT:ElT P T 1 by_) (hby:by_≤1000) (hy:y.on=true→Blk w y.b T y.cs) (hS:(y.on=true∧p=some ⟨y.b,0,none⟩∧y.cs.length=c)∨(y.on=false∧p=none∧c=0)) (hn:0<n) (hbig:c+n≤100000000000):
  ∃b cs' c' w',(Builtin.append_ #[sT,xT] rt #[.slice p c c,.int .i64 (n:Nat)]).run P w=.ok (.slice (some ⟨b,0,none⟩) (c+n) c') w'∧New w w' b (.cells cs' T (0,0))∧cs'.size=c'∧c+n≤c'∧c'<9223372036854775808∧
   ∀(j:Nat) u,y.on=true→y.cs[j]? =some u→cs'[j]? =some u:=by
 obtain ⟨ti,hti,hby'⟩:=hT.hinf
 obtain ⟨z,hz,hzs⟩:=hT.hz
 have hroom:¬(c+n≤c):=by omega
 have hcap:¬(Builtin.nextslicecap (c+n) c*by_>2^48):=by
  have h1:=Zd (c+n) c ox
  have h2:Builtin.nextslicecap (c+n) c*by_≤(2*(c+n)+1000)*1000:=Nat.mul_le_mul h1 hby
  have:(2*(c+n)+1000)*1000≤2^48:=by omega
  omega
 let q:=Question.appendCap (c+n) c T
 let c':=q.cut (w.tape w.drawn q)
 have hc':c+n≤c':=by simp[c',q,Question.cut]
 have hc9:c'<9223372036854775808:=by
  have:=Nat.mod_lt (w.tape w.drawn q) (show 0<2^63 - (c+n) by omega)
  show (c+n)+w.tape w.drawn q%(2^63 - (c+n))<9223372036854775808
  omega
 let w1:World:={ w with drawn:=w.drawn+1 }
 have hold:∃old:List Value,(Builtin.firstCells 1 c (.slice p c c)).run P w1=.ok old.toArray w1∧old.length=c∧(y.on=true→old=y.cs):=by
  rcases hS with ⟨hon,rfl,hl⟩|⟨hoff,rfl,rfl⟩
  ·refine ⟨y.cs,?_,hl,fun _=>rfl⟩
   simp only[Builtin.firstCells]
   rw[show c*1=y.cs.length by omega]
   refine vX w1 y.cs 0 fun j v hj=>?_
   have hb:Blk w1 y.b T y.cs:=hy hon
   rw[Nat.zero_add,hb.cell];exact hj
  ·exact ⟨[],by simp[Builtin.firstCells],rfl,fun h=>by rw[hoff]at h;cases h⟩
 obtain ⟨old,hold,holdl,holdc⟩:=hold
 let cells:Array Value:=old.toArray++Builtin.zeroCells z.cells n++Builtin.zeroCells z.cells (c' - (c+n))
 let w2:World:={ w1 with heap:=w1.heap.push (.cells cells T) }
 refine ⟨w.heap.size,cells,c',w2,?_,⟨rfl,rfl,rfl,rfl,rfl⟩,?_,hc',hc9,fun j u ho hj=>?_⟩
 ·have hcap':¬(2^48<Builtin.nextslicecap (c+n) c*ti.bytes):=by rw[hby'];exact hcap
  have hold':(Builtin.firstCells 1 c (.slice p c c)).run P w.drew=.ok old.toArray w.drew:=hold
  have hrow:∀(cells:Array Value) (w0:World),(newRow T cells).run P w0=.ok ⟨w0.heap.size,0,none⟩ (w0.alloc (.cells cells T)):=fun cells w0=>rfl
  have hfo:(Question.appendCap (c+n) c T).forced=false:=rfl
  have hi1:IntKind.i64.wrap (n:Int)=(n:Int):=by simp[IntKind.wrap,IntKind.bits,IntKind.signed];omega
  have hi2:¬((n:Int)<0):=by omega
  have hi3:¬((281474976710656:Int)<(n:Int)*(ti.bytes:Int)):=by
   rw[hby']
   have h1:n*by_≤100000000000*1000:=Nat.mul_le_mul ox hby
   have h2:((n*by_:Nat):Int)=(n:Int)*(by_:Int):=by simp
   have h3:((n*by_:Nat):Int)≤100000000000000:=by omega
   omega
  have hi4:¬((9223372036854775807:Int)<(c:Int)+(n:Int)):=by omega
  have hn0:¬n=0:=by omega
  simp only[Builtin.append_]
  simp[hu,hux,hT.hsz,hroom,hti,hcap',hz,hold',hfo,hi1,hi2,hi3,hi4,hn0,w1,w2,c',q,hrow,asInt,asIntOf,cells]
 ·simp[cells,QI,hzs,holdl]
  omega
 ·have h1:=holdc ho
  have hj':=(List.getElem?_eq_some_iff.1 hj).1
  rw[h1]at holdl
  simp only[cells,h1]
  rw[Array.append_assoc,Array.getElem?_append_left (by simpa using hj')]
  simpa using hj
end
section
variable {P:Program} {Q:Exit→Act→World→Prop} {n:Nat} {f:Fm} {e:Env} {H:ko} {ops:Array Oper} {rest:List Oper} {d ty:Nat} {pos:String} {af:Array Edge}
theorem qek {elem:Nat} (hu:∀w,(underlying t).run P w=.ok (.slice elem) w) (hx:ev e x=some (.slice p l c)) (ha:Sat n e a):
  (execOp a.eval ⟨some d,.call ⟨.builtin .cap, #[x], #[t]⟩,ty,pos,af,none⟩).run P w=.ok (.value (.int .i64 (c:Nat))) w:=by
 simp only[execOp,resolve]
 simp[invoke,builtin,Builtin.cap_,ha.ev hx,hu,goInt]
theorem qdn (h:vs.length=cs.length):kH cs 0 vs=vs:=by
 have:=Kl vs [] cs ox
 simp only[List.nil_append,List.length_nil]at this
 rw[this,h,List.drop_length,List.append_nil]
theorem yt {z:Operand} {y:Ent} (i:Nat) (hy:H[i]? =some y) (ho:y.on=true) (hob:y.ob=none) (hwr:y.wr=true) (hsz:∀w,(sizeOf t).run P w=.ok m w) (hx:ev e x=some (.pointer (some ⟨y.b,0,none⟩))) (hz:ev e z=some (.agg vs.toArray))
  (hm:Nat.beq vs.length m=true) (hs:vs.all scal=true) (hl:Nat.beq vs.length y.cs.length=true) (k:J P ops Q n f e (yn H i ⟨y.b,y.T,vs,true,true,none⟩) rest):J P ops Q n f e H (⟨none,.store t x z,ty,pos,af,none⟩::rest):=by
 have hc:(Value.agg vs.toArray).cells.toList=vs:=by simp[Value.cells]
 have hc2:(Value.agg vs.toArray).cells.size=vs.length:=by rw[← Array.length_toList,hc]
 refine vj i hy ho hob hwr hsz hx hz (by rw[hc2];exact hm) (by rw[hc];exact hs) (by rw[hc2];exact Nat.ble_eq_true_of_le (by have:=Nat.eq_of_beq_eq_true hl;omega)) ?_
 rw[hc,qdn (Nat.eq_of_beq_eq_true hl),QL hy,hwr,ho,hob]
 exact k
theorem qhD {xT:Nat} {s:Operand} {y:Ent} (hu:∀w,(underlying sT).run P w=.ok (.slice T) w) (hux:∀w,(underlying xT).run P w=.ok (.int kd) w) (hT:ElT P T 1 by_) (hby:Nat.ble by_ 1000=true)
  (hs:ev e s=some (.slice p c c)) (hx:ev e x=some (.int .i64 (m:Nat))) (hy:∀w,Hp f w H→f.ok w→y.on=true→Blk w y.b T y.cs) (hS:(y.on=true∧p=some ⟨y.b,0,none⟩∧y.cs.length=c)∨(y.on=false∧p=none∧c=0)) (hm:0<m) (hbig:c+m≤100000000000) (hd:Nat.blt d n=true)
  (k:∀b cs' c',cs'.length=c'→c+m≤c'→c'<9223372036854775808→(∀(j:Nat) u,y.on=true→y.cs[j]? =some u→cs'[j]? =some u)→J P ops Q n f ((d,.slice (some ⟨b,0,none⟩) (c+m) c')::e) (⟨b,T,cs',true,true,none⟩::H) rest):
  J P ops Q n f e H (⟨some d,.call ⟨.builtin .append, #[s,x], #[sT,xT]⟩,ty,pos,af,none⟩::rest):=fun w hH hf=>by
 obtain ⟨b,cs',c',w',hr,hn,h1,h2,h3,h4⟩:=qbV (rt:=ty) hu hux hT (by simpa using hby) (hy w hH hf) hS hm hbig
 refine L.valw hd (fun a ha=>?_) (k b cs'.toList c' (by simpa using h1) h2 h3 (fun j u ho hj=>by rw[Array.getElem?_toList];exact h4 j u ho hj) w' (hH.new hf hn) (hf.new hn))
 simp only[execOp,resolve]
 simp[invoke,builtin,ha.ev hs,ha.ev hx,hr]
theorem qbo {s:Operand} {y:Ent} {ys:List Value} {bz Tz:Nat} (i:Nat) (hy:H[i]? =some y) (hO:Own T sz y p l c xs)
  (hu:∀w,(underlying sT).run P w=.ok (.slice T) w) (hT:ElT P T sz by_) (hby:Nat.ble by_ 1000=true)
  (hs:ev e s=some (.slice p l c)) (hxv:ev e x=some (.slice (some ⟨bz,0,none⟩) 1 1)) (hys:Nat.beq ys.length sz=true) (hsc:ys.all scal=true) (h0:0<sz) (hbig:l+1≤100000000000) (hd:Nat.blt d n=true)
  (k:∀y' p' c',Own T sz y' p' (l+1) c' (xs++ys)→(c'=c∨c'<9223372036854775808)→(y.on=true∧y'.b=y.b∨f.ws.heap.size≤y'.b)→J P ops Q n f ((d,.slice p' (l+1) c')::e) (yn H i y') rest):
  J P ops Q n f e (⟨bz,Tz,ys,true,true,none⟩::H) (⟨some d,.call ⟨.builtin .append, #[s,x], #[sT,sT]⟩,ty,pos,af,none⟩::rest):=fun w hH0 hf=>by
 have hH:=hH0.2.2.2
 have hbz:Blk w bz Tz ys:=hH0.1.row rfl
 have hyl:ys.length=sz:=Nat.eq_of_beq_eq_true hys
 obtain ⟨y',p',c',w',hr,h1,h2,h3,h4,h9⟩:=Yh (P:=P) (rt:=ty) (m:=1) (x:=.slice (some ⟨bz,0,none⟩) 1 1) (ys:=ys) hu hu (.inl ⟨_,rfl⟩) hT (by simpa using hby) hO.hT (fun ho=>hH.get hy ho) hO.hw hO.sl (vJ _ _ _)
  (fun w1 hk=>Zq (show Blk w1 bz Tz ys from hk _ _ hbz) (by rw[List.drop_zero];exact tL ox) ox) ox hsc ox
 obtain ⟨h5,h6⟩:=hH.app hf hy hO.ho hO.hw h4
 have h7:y.on=true∧y'.b=y.b∨f.ws.heap.size≤y'.b:=by
  cases h4 with
  |same a b c=>rw[c]at hyl;simp at hyl;omega
  |inplace hon hb hu hs'=>exact .inl ⟨hon,by rw[hb]⟩
  |fresh hy' hn=>right;have:=hn.num;have:=hf.size;omega
 refine L.valw hd (fun a ha=>?_) (k y' p' c' ⟨h1,h2,by cases h4 with|same h _ _=>rw[h];exact hO.ho|inplace _ h _ _=>rw[h]|fresh h _=>rw[h],h3⟩ h9 h7 w' h5 h6)
 simp only[execOp,resolve]
 simp[invoke,builtin,ha.ev hs,ha.ev hxv,hr]
theorem zo {s:Operand} {y:Ent} {bz Tz:Nat} (i:Nat) (hy:H[i]? =some y) (hO:Own T 1 y p l c xs)
  (hu:∀w,(underlying sT).run P w=.ok (.slice T) w) (hT:ElT P T 1 by_) (hby:Nat.ble by_ 1000=true)
  (hs:ev e s=some (.slice p l c)) (hxv:ev e x=some (.slice (some ⟨bz,0,none⟩) 1 1)) (hsc:scal v=true) (hbig:l+1≤100000000000) (hd:Nat.blt d n=true)
  (k:∀y' p' c',Own T 1 y' p' (l+1) c' (xs++[v])→(c'=c∨c'<9223372036854775808)→(y.on=true∧y'.b=y.b∨f.ws.heap.size≤y'.b)→J P ops Q n f ((d,.slice p' (l+1) c')::e) (yn H i y') rest):
  J P ops Q n f e (⟨bz,Tz,[v],true,true,none⟩::H) (⟨some d,.call ⟨.builtin .append, #[s,x], #[sT,sT]⟩,ty,pos,af,none⟩::rest):=
 qbo i hy hO hu hT hby hs hxv rfl (by simp[hsc]) ox hbig hd k
end
structure Vd (B:Nat) (W l:List Nat) (w w':World):Prop where
 os:w'.os=w.os
 tape:w'.tape=w.tape
 output:w'.output=w.output
 size:w.heap.size≤w'.heap.size
 keep:∀(b:Nat) (o:Obj),w.heap[b]? =some o→b∉l→(b<B∨KE o∉W)→w'.heap[b]? =some o
theorem Vd.refl {l:List Nat}:Vd B W l w w:=⟨rfl,rfl,rfl,Nat.le_refl _,fun _ _ h _ _=>h⟩
theorem jv.y {l:List Nat} (h:jv l w w') {m:List Nat} (hm:∀b∈l,b∈m):Vd B W m w w':=⟨h.os,h.tape,h.output,h.size,fun b o hb hn _=>h.keep b o hb fun hl=>hn (hm b hl)⟩
theorem Fr.y (h:Fr 0 [] w w') {l:List Nat}:Vd B W l w w':=⟨h.os,h.tape,h.output,h.size,fun b o hb _ _=>h.keep b o hb (.inr zp)⟩
theorem Vd.trans {B':Nat} {W' l l':List Nat} {a b c:World} (h:Vd B W l a b) (k:Vd B' W' l' b c) (hl:∀x∈l',x∈l∨a.heap.size≤x) (hB:a.heap.size≤B'∨(B≤B'∧∀x∈W',x∈W)):Vd B W l a c:=
 ⟨k.os.trans h.os,k.tape.trans h.tape,k.output.trans h.output,Nat.le_trans h.size k.size,fun x o hx hn hc=>by
  have hlt:=(Array.getElem?_eq_some_iff.1 hx).1
  refine k.keep x o (h.keep x o hx hn hc) (fun hm=>?_) ?_
  ·rcases hl x hm with h1|h1
   ·exact hn h1
   ·omega
  ·rcases hB with hB|⟨hB,hW⟩
   ·left;omega
   ·rcases hc with hc|hc
    ·left;omega
    ·right;exact fun hm=>hc (hW _ hm)⟩
theorem Vd.blk {l:List Nat} (h:Vd B W l w w') (hb:Blk w b T cs) (hn:b∉l) (hk:b<B∨T∉W):Blk w' b T cs:=h.keep b _ hb hn hk
theorem jv.thenF {l:List Nat} {a b c:World} (h:jv l a b) (k:Fr 0 [] b c):jv l a c:=⟨k.os.trans h.os,k.tape.trans h.tape,k.output.trans h.output,Nat.le_trans h.size k.size,fun x o hx hn=>k.keep x o (h.keep x o hx hn) (.inr zp)⟩
theorem jv.afterF {l:List Nat} {a b c:World} (h:Fr 0 [] a b) (k:jv l b c):jv l a c:=⟨k.os.trans h.os,k.tape.trans h.tape,k.output.trans h.output,Nat.le_trans h.size k.size,fun x o hx hn=>k.keep x o (h.keep x o hx (.inr zp)) hn⟩
theorem jv.trans' {l:List Nat} {a b c:World} (h:jv l a b) (k:jv l b c):jv l a c:=⟨k.os.trans h.os,k.tape.trans h.tape,k.output.trans h.output,Nat.le_trans h.size k.size,fun x o hx hn=>k.keep x o (h.keep x o hx hn) hn⟩
theorem jv.mono {l m:List Nat} (h:jv l w w') (hm:∀b∈l,b∈m):jv m w w':=⟨h.os,h.tape,h.output,h.size,fun b o hb hn=>h.keep b o hb fun hl=>hn (hm b hl)⟩
def qG (y:Ent):List Nat:=if y.on then [y.b] else []
theorem jv.row {l:List Nat} {y:Ent} (h:jv (l++qG y) w w') (hy:y.on=true→Blk w y.b T y.cs∧B≤y.b) (hT:T∈W):Vd B W l w w':=⟨h.os,h.tape,h.output,h.size,fun b o hb hn hc=>h.keep b o hb fun hm=>by
 rcases mA hm with hm|hm
 ·exact hn hm
 ·unfold qG at hm
  split at hm
  ·next ho=>
   simp at hm
   subst hm
   obtain ⟨h1,h2⟩:=hy ho
   have h3:w.heap[y.b]? =some (.cells y.cs.toArray T (0,0)):=h1
   rw[hb]at h3
   cases h3
   rcases hc with hc|hc
   ·omega
   ·exact hc hT
  ·cases hm⟩
theorem OSp.os (h:OSp φ T sz w v xs):OS T sz w v xs:=by
 obtain ⟨y,p,l,c,h1,h2,h3⟩:=h
 exact ⟨y,p,l,c,h1,h2,fun ho=>(h3 ho).1⟩
theorem OSp.nil:OSp φ T sz w (.slice none 0 0) []:=⟨qQ T,none,0,0,rfl,Own.nil,fun h=>by simp[qQ]at h⟩
theorem OSp.mono {ψ:Nat→Prop} (h:OSp φ T sz w v xs) (k:∀b cs,φ b→Blk w b T cs→Blk w' b T cs∧ψ b):OSp ψ T sz w' v xs:=by
 obtain ⟨y,p,l,c,h1,h2,h3⟩:=h
 exact ⟨y,p,l,c,h1,h2,fun ho=>k _ _ (h3 ho).2 (h3 ho).1⟩
theorem OSp.keep (h:OSp φ T sz w v xs) (k:∀b cs,φ b→Blk w b T cs→Blk w' b T cs):OSp φ T sz w' v xs:=h.mono fun b cs hb hk=>⟨k b cs hb hk,hb⟩
theorem OSp.len (h:OSp φ T 1 w v xs):∃p c,v=.slice p xs.length c:=by
 obtain ⟨y,p,l,c,h1,h2,h3⟩:=h
 have:=h2.sl.1
 rw[Nat.mul_one]at this
 exact ⟨p,c,by rw[h1,this]⟩
theorem Hp.two {T2:Nat} {y:Ent} (hb:Blk w b T cs) (hO:Own T2 sz y p l c xs) (hy:y.on=true→Blk w y.b T2 y.cs∧B≤y.b) (hB:B≤b) (hT:W.any (fun t=>Nat.beq t T)=true) (hT2:W.any (fun t=>Nat.beq t T2)=true) (hne:T≠T2):
  Hp ⟨w,B,W⟩ w (⟨b,T,cs,true,true,none⟩::y::vh w ([b]++qG y)):=by
 have hyx:y.ex=true→y.on=true:=fun he=>by simpa[Ent.ex,hO.ho]using he
 refine ⟨⟨fun _=>hb,fun o ho=>by cases ho⟩,fun _ _=>.inr ⟨hB,qz hT⟩,fun _ z hz hze=>?_,⟨⟨fun ho=>?_,fun o ho=>by rw[hO.ho]at ho;cases ho⟩,fun he _=>.inr ⟨(hy (hyx he)).2,by rw[hO.tag];exact qz hT2⟩,fun he z hz hze=>?_,Hp.rest _⟩⟩
 ·rcases mC hz with rfl|hz
  ·exact ((hb.ne (hy (hyx hze)).1 hne)).symm
  ·exact vZ zp z hz hze
 ·rw[hO.hT];exact (hy ho).1
 ·exact vZ (by simp[qG,hyx he]) z hz hze
section
variable {P:Program} {n:Nat} {e:Env} {d ty:Nat} {pos:String} {af:Array Edge}
theorem r_mul {y:Operand} {p q:Int} (hx:ev e x=some (.int kd p)) (hy:ev e y=some (.int kd q)) (ha:Sat n e a):
  (execOp a.eval ⟨some d,.binOp .mul t x y t',ty,pos,af,none⟩).run P w=.ok (.value (.int kd (kd.wrap (p*q)))) w:=by (simp only[execOp,ha.ev hx,ha.ev hy];simp[eqGuard,binOp,Op.intArith])
end
section
variable {P:Program} {n:Nat} {f:Fm} {e:Env} {H:ko}
theorem qjM {fn:Func} {R:Value→World→Prop} {s r:Nat} {u z:Value} (hres:fn.results= #[.tmp t,.tmp s,.tmp r]) (ht:look e t=some v) (hs:look e s=some u) (hr:look e r=some z) (h:∀w,Hp f w H→f.ok w→R (.tuple #[v,u,z]) w):
  EJ (bodyPost P fn (Ret R)) .ret n f e H:=fun w hH hf a ha=>by
 refine ⟨ha.defs,_,?_,h w hH hf⟩
 have h1:=ha.has t v ht
 have h2:=ha.has s u hs
 have h3:=ha.has r z hr
 simp only[results,hres]
 simp[Array.getD_eq_getD_getElem?,h1,h2,h3]
end
end Go.Fw
namespace Go.Proofs.YtifdadlhmlhfiaaGreatDoor
open Go Go.Fw Go.Proofs Go.Proofs.Tryz
variable {D:List Nat} {b bb c i k m o t:Nat} {w w':World}
structure Bys (w:World) (b o c:Nat) (D:List Nat):Prop where
 le:D.length≤c
 row:∃cs,Blk w b tU8 cs∧∀(j:Nat) d,D[j]? =some d→cs[o+j]? =some (bv d)
theorem Bys.at_ (h:Bys w b o c D) (j:Nat) (d:Nat) (hd:D[j]? =some d):w.cell? ⟨b,o+j,none⟩=some (bv d):=by
 obtain ⟨cs,h1,h2⟩:=h.row
 rw[h1.cell];exact h2 j d hd
theorem Bys.mono (h:Bys w b o c D) (k:∀b cs,Blk w b tU8 cs→Blk w' b tU8 cs):Bys w' b o c D:=by
 obtain ⟨cs,h1,h2⟩:=h.row
 exact ⟨h.le,cs,k _ _ h1,h2⟩
theorem Bys.keep (h:Bys w b o c D) (k:Fr 0 [] w w'):Bys w' b o c D:=h.mono fun b cs hb=>k.blk hb (.inr zp)
theorem Bys.drop (h:Bys w b o c D) (hi:i≤D.length):Bys w b (cut o c i 1) (c - i) (D.drop i):=by
 have hc:=h.le
 obtain ⟨cs,h1,h2⟩:=h.row
 refine ⟨by simp;omega,cs,h1,fun j d hd=>?_⟩
 rw[List.getElem?_drop]at hd
 have hl:=(List.getElem?_eq_some_iff.1 hd).1
 have:=h2 _ _ hd
 rw[cut,if_neg ox,Nat.mul_one,Nat.add_assoc];exact this
theorem Bys.take (h:Bys w b o c D) (i:Nat):Bys w b o c (D.take i):=by
 obtain ⟨cs,h1,h2⟩:=h.row
 refine ⟨by have:=h.le;simp;omega,cs,h1,fun j d hd=>h2 j d ?_⟩
 rw[List.getElem?_take]at hd
 split at hd
 ·exact hd
 ·cases hd
set_option maxRecDepth 20000 in
theorem qmg:∀x:Fin 256,(x.val&&&127)=x.val%128:=by decide
theorem qik {d:Nat} (h:d<256):IntKind.u8.wrap ((BitVec.ofInt 8 (d:Int)&&&BitVec.ofInt 8 127).toNat:Nat)=((d%128:Nat):Int):=by
 have h1:(BitVec.ofInt 8 (d:Int)).toNat=d:=by
  rw[BitVec.ofInt_natCast,BitVec.toNat_ofNat];exact Nat.mod_eq_of_lt ox
 have h2:(BitVec.ofInt 8 (127:Int)).toNat=127:=rfl
 rw[BitVec.toNat_and,h1,h2,qmg ⟨d,h⟩]
 simp[IntKind.wrap,IntKind.bits,IntKind.signed];omega
theorem qbI {z:Nat} (h:z<18446744073709551616):IntKind.u64.wrap (z:Int)=(z:Int):=by simp[IntKind.wrap,IntKind.bits,IntKind.signed];omega
theorem qge {a:Nat} (ha:a<128^i) (hs:m*128^i+a<18446744073709551616):IntKind.u64.wrap ((BitVec.ofInt 64 (a:Int)|||BitVec.ofInt 64 ((m*128^i:Nat):Int)).toNat:Nat)=((a+m*128^i:Nat):Int):=by
 have h1:(BitVec.ofInt 64 (a:Int)).toNat=a:=by
  rw[BitVec.ofInt_natCast,BitVec.toNat_ofNat];exact Nat.mod_eq_of_lt ox
 have h2:(BitVec.ofInt 64 ((m*128^i:Nat):Int)).toNat=m*128^i:=by
  rw[BitVec.ofInt_natCast,BitVec.toNat_ofNat];exact Nat.mod_eq_of_lt ox
 rw[BitVec.toNat_or,h1,h2,Nat.or_comm]
 have h3:(128:Nat)^i=2^(7*i):=by rw[Nat.pow_mul]
 have h4:=Nat.two_pow_add_eq_or_of_lt (i:=7*i) (b:=a) (by rw[← h3];exact ha) m
 have h5:m*128^i|||a=m*128^i+a:=by rw[h3,Nat.mul_comm];exact h4.symm
 rw[h5,qbI hs]
 omega
theorem qiq (n i:Nat):n%128^i+n/128^i%128*128^i=n%128^(i+1):=by
 rw[Nat.mod_pow_succ,Nat.mul_comm (128^i)]
theorem qjc (n i:Nat):n/128^i%128*128^i+n%128^i≤n:=by
 have h1:n/128^i%128*128^i≤n/128^i*128^i:=Nat.mul_le_mul_right _ (Nat.mod_le _ _)
 have h2:=Nat.div_add_mod n (128^i)
 rw[Nat.mul_comm]at h2
 omega
theorem Yy (ht:t<8):((8*k+t:Nat):Int).fdiv (2^(min 3 IntKind.u64.bits))=(k:Int):=by
 have:min 3 IntKind.u64.bits=3:=rfl
 rw[this,Int.fdiv_eq_ediv_of_nonneg _ ox]
 simp;omega
theorem Yz (hk:k<1048576) (ht:t<8):IntKind.u64.wrap ((BitVec.ofInt 64 ((8*k+t:Nat):Int)&&&BitVec.ofInt 64 7).toNat:Nat)=(t:Int):=by
 have h1:(BitVec.ofInt 64 ((8*k+t:Nat):Int)).toNat=8*k+t:=by
  rw[BitVec.ofInt_natCast,BitVec.toNat_ofNat];exact Nat.mod_eq_of_lt ox
 have h2:(BitVec.ofInt 64 (7:Int)).toNat=7:=rfl
 rw[BitVec.toNat_and,h1,h2]
 have h3:(8*k+t)&&&7=(8*k+t)%2^3:=Nat.and_two_pow_sub_one_eq_mod _ 3
 rw[h3]
 have h4:(8*k+t)%2^3=t:=by omega
 rw[h4];exact qbI ox
set_option maxRecDepth 20000 in
theorem qmf:∀x:Fin 256,(x.val&&&128)=if x.val<128 then 0 else 128:=by decide
theorem qij {d:Nat} (h:d<256):IntKind.u8.wrap ((BitVec.ofInt 8 (d:Int)&&&BitVec.ofInt 8 128).toNat:Nat)=if d<128 then 0 else 128:=by
 have h1:(BitVec.ofInt 8 (d:Int)).toNat=d:=by
  rw[BitVec.ofInt_natCast,BitVec.toNat_ofNat];exact Nat.mod_eq_of_lt ox
 have h2:(BitVec.ofInt 8 (128:Int)).toNat=128:=rfl
 rw[BitVec.toNat_and,h1,h2,qmf ⟨d,h⟩]
 split<;>simp[IntKind.wrap,IntKind.bits,IntKind.signed]
set_option maxHeartbeats 1000000 in
theorem zb (w:World) (b o c n:Nat) (bs R:List Nat) (hV:yh n bs) (hn:n<18446744073709551616) (h:Bys w b o c (bs++R)) (hc:(bs++R).length≤1000000000000):
  Calls Tryz.prog 143 #[.slice (some ⟨b,o,none⟩) (bs++R).length c] w (Ret fun v w'=>v=.tuple #[.int .u64 (n:Nat),.slice (some ⟨b,cut o c bs.length 1,none⟩) R.length (c - bs.length),.nilIface]∧Fr 0 [] w w'):=by
 have hl10:=hV.le
 have hlpos:=hV.pos
 have hle:=h.le
 have hfit:=hV.fit
 refine jr (args:=[_]) [(0,_)] 0 [] [] func143 rfl ntmps143 rfl rfl .nil ?_
 refine sQ fun K1=>jb (jA (k:=jA (k:=jA (k:=K1 (sQ fun K2=>jb (jA (k:=K2 (sQ fun K3=>jb (jA (k:=K3 ?_))))))))))
 refine sQ fun K4=>jb (jA (k:=K4 (jh ?_)))
 intro w1 hH1 hf1
 refine vk (σ:=Nat) (fun i=>[(0,.slice (some ⟨b,o,none⟩) (bs++R).length c),(5,.int .i64 (i:Nat)),(6,.int .u64 ((n%128^i:Nat):Int))]) (fun i w'=>i<bs.length∧Fr 0 [] w w') (fun i=>bs.length - i) 0 ⟨rfl,rfl,by simp[Nat.mod_one];rfl,trivial⟩ ⟨hlpos,hf1⟩ ?_
 rintro i w2 ⟨hi,hf2⟩ KL hKL
 have hlen:(bs++R).length=bs.length+R.length:=lA
 obtain ⟨dg,hdg⟩:∃dg,dg=bs[i]:=⟨_,rfl⟩
 have hd0:bs[i]? =some dg:=by rw[hdg];exact gE hi
 have hd:(bs++R)[i]? =some dg:=by rw[aq hi];exact hd0
 have hdl:=hV.lt hd0
 obtain ⟨hdm,hdt⟩:=hV.head hd0
 have hml:=qjc n i
 have hmlt:n%128^i<128^i:=Nat.mod_lt _ (Nat.pow_pos ox)
 have hcell:∀w',Fm.ok ⟨w2,0,[]⟩ w'→∀(j:Nat) (u:Value),[bv dg][j]? =some u→w'.cell? ⟨b,o+i*1+j,none⟩=some u:=fun w' hf j u hu=>by
  cases j with
  |zero=>
   simp at hu;subst hu
   have:=((h.keep hf2).keep hf).at_ i dg hd
   simpa using this
  |succ j=>simp at hu
 refine C.begin ⟨w2,0,[]⟩ [] jx .nil ?_
 try dsimp only
 refine sQ fun K5=>jh (sQ fun K6=>sQ fun K7=>jb (jM (k:=?_)))
 refine jn rfl (fun _ _ h=>Jl rfl rfl h) ?_
 refine jV (u:=.bool false) (congrArg Value.bool (decide_eq_false ox)) ?_
 refine jM (k:=?_)
 refine jy rfl rfl (jM (k:=?_))
 refine jy rfl rfl (jM (k:=?_))
 refine jy rfl rfl (jE vY (k:=?_))
 refine jy rfl rfl (jn rfl (fun _ _ h=>Jl rfl rfl h) ?_)
 refine jV (u:=.bool false) (congrArg Value.bool (decide_eq_false ox)) ?_
 refine jK (k:=K7 (CJ.t [(0,_),(5,_),(6,_),(16,_)] (k:=?_)))
 refine jO rfl (jg (K6 (sQ fun K8=>jb (jM (k:=jM (k:=jM (k:=jJ vY so5 (k:=jL ag5 hcell 0 (k:=?_)))))))))
 refine jn rfl (fun _ _ h=>qak rfl rfl h) ?_
 refine jV (u:=.int .u8 ((dg%128:Nat):Int)) (congrArg (Value.int .u8) (qik hdl)) ?_
 refine jn rfl (fun _ _ h=>qO ru5 xu rfl h) ?_
 refine jV (u:=.int .u64 ((dg%128:Nat):Int)) (congrArg (Value.int .u64) (Zt ox)) ?_
 refine jM (k:=?_)
 refine jn rfl (fun _ _ h=>r_mul rfl rfl h) ?_
 refine jV (u:=.int .i64 ((7*i:Nat):Int)) (congrArg (Value.int .i64) (by rw[kG ox ox];simp)) ?_
 refine jn rfl (fun _ _ h=>qO ru3 ru152 rfl h) ?_
 refine jV (u:=.int .u64 ((7*i:Nat):Int)) (congrArg (Value.int .u64) (Zt ox)) ?_
 refine jn rfl (fun _ _ h=>KP rfl rfl h) ?_
 refine jV (u:=.int .u64 ((n/128^i%128*128^i:Nat):Int)) (congrArg (Value.int .u64) (by
  rw[hdm,show min (7*i) IntKind.u64.bits=7*i from Nat.min_eq_left (by show 7*i≤64;omega)]
  have e:((n/128^i%128:Nat):Int)*2^(7*i)=((n/128^i%128*128^i:Nat):Int):=by
   rw[Int.natCast_mul,show (128:Nat)^i=2^(7*i) by rw[Nat.pow_mul]];simp
  rw[e];exact qbI ox)) ?_
 refine jn rfl (fun _ _ h=>Xg rfl rfl h) ?_
 refine jV (u:=.int .u64 ((n%128^(i+1):Nat):Int)) (congrArg (Value.int .u64) (by rw[← qiq n i];exact qge hmlt ox)) ?_
 refine jA (k:=K8 (CJ.t [(0,_),(5,_),(6,_)] (k:=sQ fun K9=>jb (jM (k:=jM (k:=jJ vY so5 (k:=jL ag5 hcell 0 (k:=?_))))))))
 refine jn rfl (fun _ _ h=>qak rfl rfl h) ?_
 refine jV (u:=.int .u8 (if dg<128 then 0 else 128)) (congrArg (Value.int .u8) (qij hdl)) ?_
 refine jQ (k:=K9 ?_)
 refine jq rfl (fun h35=>?_) (fun h35=>?_)
 ·have hm:dg<128:=by
   rcases Nat.lt_or_ge dg 128 with h|h
   ·exact h
   ·rw[if_neg ox]at h35;omega
  have hil:bs.length=i+1:=(hdt.1 hm).symm
  have hfull:n%128^(i+1)=n:=Nat.mod_eq_of_lt (by rw[← hil];exact hfit)
  refine sQ fun K10=>jC 8 (lts [0,1,2,3,4,5,6,7]) [] rfl (by kernel_rfl) (by kernel_rfl) (dM [] (k:=dM [] (k:=dM [] (k:=?_))))
  refine jo rfl rfl (jd [] rfl) (fun _ _ h=>qkh ox rfl rfl h) (jo rfl rfl (jd [] rfl) (fun _ _ h=>Kn (i:=i+1) vY so5 rfl rfl ox h) (dA [] (k:=dA [] (k:=dA [] (k:=K10 (CJ.t [(2,_),(3,_),(4,_)] (k:=jj ?_)))))))
  exact qjM results143 rfl rfl rfl fun w' hH hf=>⟨by rw[hfull,hil,show (bs++R).length - (i+1)=R.length by omega],frQ hf2 hf⟩
 ·have hil:i+1<bs.length:=by
   rcases Nat.lt_or_ge dg 128 with h|h
   ·rw[if_pos h]at h35;exact absurd rfl h35
   ·have:¬(i+1=bs.length):=fun e=>by have:=hdt.2 e;omega
    omega
  refine jg (K5 (jb (jM (k:=jI (k:=jA (k:=jw (ji ?_)))))))
  exact fun w' hH hf=>hKL (i+1) _ w' ⟨hil,frQ hf2 hf⟩ ox sR
theorem Jn (w:World) (bb:Nat) (f t u:Int) (dv:Value) (tmp:List Value) (hb:Blk w bb qx (yg f t u dv tmp)):
  Calls Tryz.prog 117 #[ptr bb,.int .i64 t] w (Ret fun v w'=>v=.nilIface∧Fr 0 [] w w'):=by
 have hc0:=mc (f:=⟨w,0,[]⟩) hb rfl
 refine jr (args:=[_,_]) [(0,_),(1,_)] 0 [] [] func117 rfl ntmps117 rfl rfl .nil ?_
 refine sQ fun K1=>jb (jA (k:=K1 (sQ fun K2=>sQ fun K3=>jb (jM (k:=jN (k:=jF 1 qh so3 (k:=jL ag3 hc0 1 (k:=jM (k:=?_)))))))))
 refine jn rfl (fun _ _ h=>yQ rfl rfl h) ?_
 refine jV (u:=.bool false) (congrArg Value.bool zp) ?_
 refine K3 (jO rfl (jg (K2 (sQ fun K4=>jb (jA (k:=K4 (jj ?_)))))))
 exact je results117 rfl fun w' hH hf=>⟨rfl,hf⟩
set_option maxHeartbeats 1000000 in
theorem qcL (w:World) (bb b o c k n:Nat) (f t u:Int) (dv:Value) (tmp:List Value) (bs R:List Nat) (hb:Blk w bb qx (yg f t u dv tmp)) (hG:Yb (.fld (.num k n)) bs) (h:Bys w b o c (bs++R)) (hc:(bs++R).length≤1000000000000):
  Calls Tryz.prog 118 #[ptr bb,.slice (some ⟨b,o,none⟩) (bs++R).length c] w (Ret fun v w'=>(∃o' c',v=.tuple #[.slice (some ⟨b,o',none⟩) R.length c',.nilIface]∧Bys w' b o' c' R)∧Blk w' bb qx (yg k 0 n (.slice none 0 0) tmp)∧jv [bb] w w'):=by
 obtain ⟨tg,vv,rfl,hV1,hV2,hk,hn⟩:=hG
 have hl1:=hV1.pos
 rw[List.append_assoc]at h hc⊢
 have hB2:Bys w b (cut o c tg.length 1) (c - tg.length) (vv++R):=by
  have:=h.drop (i:=tg.length) zp
  rwa [List.drop_left]at this
 have hB3:Bys w b (cut (cut o c tg.length 1) (c - tg.length) vv.length 1) (c - tg.length - vv.length) R:=by
  have:=hB2.drop (i:=vv.length) zp
  rwa [List.drop_left]at this
 have hlen:(tg++(vv++R)).length=tg.length+(vv++R).length:=lA
 have hbT:∀w',Fm.ok ⟨w,0,[qx]⟩ w'→∀b cs,Blk w b tU8 cs→Blk w' b tU8 cs:=fun w' hf=>jk hf rfl
 refine jr (args:=[_,_]) [(0,_),(1,_)] 0 [qx] _ func118 rfl ntmps118 rfl rfl (Hp.one hb (Nat.zero_le _) rfl) ?_
 refine sQ fun K1=>jb (jA (k:=jA (k:=K1 (sQ fun K2=>jb (jM (k:=?_))))))
 refine kg (φ:=fun v=>v=.tuple #[.int .u64 ((8*k:Nat):Int),.slice (some ⟨b,cut o c tg.length 1,none⟩) (vv++R).length (c - tg.length),.nilIface]) call143 rfl rfl (fun w2 hH hf=>zb w2 b o c _ tg _ hV1 ox (h.mono (hbT w2 hf)) hc) fun v hv=>?_
 subst hv
 refine jM (k:=jX (k:=jX (k:=jX (k:=jA (k:=jA (k:=jA (k:=K2 (sQ fun K3=>sQ fun K4=>jb (jM (k:=?_))))))))))
 refine jn rfl (fun _ _ h=>xl Jr rfl h) (K4 (CJ.t [(0,_),(1,_),(6,_),(7,_),(16,_)] (k:=?_)))
 refine jO rfl (jg (K3 (sQ fun K5=>jb (jM (k:=jM (k:=?_))))))
 refine jn rfl (fun _ _ h=>qcc (q:=3) rfl rfl h) ?_
 refine jV (u:=.int .u64 (k:Nat)) (congrArg (Value.int .u64) (by have:=Yy (k:=k) (t:=0) ox;simpa using this)) ?_
 refine jn rfl (fun _ _ h=>qO xu ru3 rfl h) ?_
 refine jV (u:=.int .i64 (k:Nat)) (congrArg (Value.int .i64) (kG ox ox)) ?_
 refine jN (k:=jF 0 qh so3 (k:=jB (_::_::_::_::_) (_::_) 0 so3 (k:=K5 (sQ fun K6=>jb (jM (k:=jM (k:=?_)))))))
 refine jn rfl (fun _ _ h=>qak rfl rfl h) ?_
 refine jV (u:=.int .u64 ((0:Nat):Int)) (congrArg (Value.int .u64) (by have:=Yz (k:=k) (t:=0) hk ox;rw[Nat.add_zero]at this;exact this)) ?_
 refine jn rfl (fun _ _ h=>qO xu ru3 rfl h) ?_
 refine jV (u:=.int .i64 0) rfl ?_
 refine jN (k:=jF 1 qh so3 (k:=jB (_::_::_::_::_) (_::_) 0 so3 (k:=K6 (CJ.t [(0,_),(1,_)] (k:=sQ fun K7=>jb (jM (k:=jN (k:=jF 3 qh ye (k:=jB (_::_::_::_::_) (_::_) 0 ye (k:=K7 (sQ fun K8=>jb ?_)))))))))))
 refine jM (k:=jN (k:=jF 2 qh kU (k:=jB (_::_::_::_::_) (_::_) 0 kU (k:=K8 (sQ fun K9=>sQ fun K10=>jb (jM (k:=jN (k:=jF 1 qh so3 (k:=jH 0 ag3 (k:=K10 (CJ.t [(0,_),(1,_),(39,_)] (k:=?_))))))))))))
 refine jh (sQ fun K11=>jb (jQ (k:=?_)))
 refine jV (u:=.bool true) rfl ?_
 refine jA (k:=K11 ?_)
 refine ql rfl (sQ fun K12=>jb (jM (k:=jM (k:=?_))))
 refine kg (φ:=fun v=>v=.tuple #[.int .u64 (n:Nat),.slice (some ⟨b,cut (cut o c tg.length 1) (c - tg.length) vv.length 1,none⟩) R.length (c - tg.length - vv.length),.nilIface]) call143 rfl rfl (fun w2 hH hf=>zb w2 b _ _ _ vv _ hV2 hn (hB2.mono (hbT w2 hf)) ox) fun v hv=>?_
 subst hv
 refine jM (k:=jX (k:=jX (k:=jX (k:=jN (k:=jF 2 qh kU (k:=jB (_::_::_::_::_) (_::_) 0 kU (k:=jA (k:=jA (k:=K12 (CJ.t [(1,_),(7,_)] (k:=sQ fun K13=>jb (jM (k:=?_)))))))))))))
 refine jn rfl (fun _ _ h=>xl Jr rfl h) (K13 (jO rfl (jg (K9 (sQ fun K14=>jb (jM (k:=jA (k:=jA (k:=K14 (jj ?_))))))))))
 exact Vr results118 rfl rfl fun w' hH hf=>⟨⟨_,_,rfl,hB3.mono (hbT w' hf)⟩,hH.get (i:=0) rfl rfl,Hp.keepX (f:=⟨w,0,[qx]⟩) (hH.drop 0) hf⟩
set_option maxHeartbeats 1000000 in
theorem qcM (w:World) (bb b o c k:Nat) (D:List Nat) (f t u:Int) (dv:Value) (tmp:List Value) (bs R:List Nat) (hb:Blk w bb qx (yg f t u dv tmp)) (hG:Yb (.fld (.bys k D)) bs) (h:Bys w b o c (bs++R)) (hc:(bs++R).length≤1000000000000):
  Calls Tryz.prog 118 #[ptr bb,.slice (some ⟨b,o,none⟩) (bs++R).length c] w (Ret fun v w'=>(∃o' c' o2 c2,v=.tuple #[.slice (some ⟨b,o',none⟩) R.length c',.nilIface]∧Bys w' b o' c' R∧Blk w' bb qx (yg k 2 0 (.slice (some ⟨b,o2,none⟩) D.length c2) tmp)∧Bys w' b o2 c2 D)∧jv [bb] w w'):=by
 obtain ⟨tg,ll,rfl,hV1,hV2,hk,hn⟩:=hG
 have hl1:=hV1.pos
 rw[List.append_assoc,List.append_assoc]at h hc⊢
 have hB2:Bys w b (cut o c tg.length 1) (c - tg.length) (ll++(D++R)):=by
  have:=h.drop (i:=tg.length) zp
  rwa [List.drop_left]at this
 have hB3:Bys w b (cut (cut o c tg.length 1) (c - tg.length) ll.length 1) (c - tg.length - ll.length) (D++R):=by
  have:=hB2.drop (i:=ll.length) zp
  rwa [List.drop_left]at this
 have hlen:(tg++(ll++(D++R))).length=tg.length+(ll++(D++R)).length:=lA
 have hlen2:(ll++(D++R)).length=ll.length+(D++R).length:=lA
 have hlen3:(D++R).length=D.length+R.length:=lA
 have hle3:=hB3.le
 have hbT:∀w',Fm.ok ⟨w,0,[qx]⟩ w'→∀b cs,Blk w b tU8 cs→Blk w' b tU8 cs:=fun w' hf=>jk hf rfl
 generalize hoS:cut (cut o c tg.length 1) (c - tg.length) ll.length 1=oS at hB3
 generalize hcS:c - tg.length - ll.length=cS at hB3 hle3
 have hB4:Bys w b (cut oS cS D.length 1) (cS - D.length) R:=by
  have:=hB3.drop (i:=D.length) zp
  rwa [List.drop_left]at this
 refine jr (args:=[_,_]) [(0,_),(1,_)] 0 [qx] _ func118 rfl ntmps118 rfl rfl (Hp.one hb (Nat.zero_le _) rfl) ?_
 refine sQ fun K1=>jb (jA (k:=jA (k:=K1 (sQ fun K2=>jb (jM (k:=?_))))))
 refine kg (φ:=fun v=>v=.tuple #[.int .u64 ((8*k+2:Nat):Int),.slice (some ⟨b,cut o c tg.length 1,none⟩) (ll++(D++R)).length (c - tg.length),.nilIface]) call143 rfl rfl (fun w2 hH hf=>zb w2 b o c _ tg _ hV1 ox (h.mono (hbT w2 hf)) hc) fun v hv=>?_
 subst hv
 refine jM (k:=jX (k:=jX (k:=jX (k:=jA (k:=jA (k:=jA (k:=K2 (sQ fun K3=>sQ fun K4=>jb (jM (k:=?_))))))))))
 refine jn rfl (fun _ _ h=>xl Jr rfl h) (K4 (CJ.t [(0,_),(1,_),(6,_),(7,_),(16,_)] (k:=?_)))
 refine jO rfl (jg (K3 (sQ fun K5=>jb (jM (k:=jM (k:=?_))))))
 refine jn rfl (fun _ _ h=>qcc (q:=3) rfl rfl h) ?_
 refine jV (u:=.int .u64 (k:Nat)) (congrArg (Value.int .u64) (Yy (k:=k) (t:=2) ox)) ?_
 refine jn rfl (fun _ _ h=>qO xu ru3 rfl h) ?_
 refine jV (u:=.int .i64 (k:Nat)) (congrArg (Value.int .i64) (kG ox ox)) ?_
 refine jN (k:=jF 0 qh so3 (k:=jB (_::_::_::_::_) (_::_) 0 so3 (k:=K5 (sQ fun K6=>jb (jM (k:=jM (k:=?_)))))))
 refine jn rfl (fun _ _ h=>qak rfl rfl h) ?_
 refine jV (u:=.int .u64 ((2:Nat):Int)) (congrArg (Value.int .u64) (Yz (k:=k) (t:=2) hk ox)) ?_
 refine jn rfl (fun _ _ h=>qO xu ru3 rfl h) ?_
 refine jV (u:=.int .i64 2) rfl ?_
 refine jN (k:=jF 1 qh so3 (k:=jB (_::_::_::_::_) (_::_) 0 so3 (k:=K6 (CJ.t [(0,_),(1,_)] (k:=sQ fun K7=>jb (jM (k:=jN (k:=jF 3 qh ye (k:=jB (_::_::_::_::_) (_::_) 0 ye (k:=K7 (sQ fun K8=>jb ?_)))))))))))
 refine jM (k:=jN (k:=jF 2 qh kU (k:=jB (_::_::_::_::_) (_::_) 0 kU (k:=K8 (sQ fun K9=>sQ fun K10=>jb (jM (k:=jN (k:=jF 1 qh so3 (k:=jH 0 ag3 (k:=K10 (CJ.t [(0,_),(1,_),(39,_)] (k:=?_))))))))))))
 refine jh (sQ fun K11=>jb (jQ (k:=?_)))
 refine jV (u:=.bool false) rfl ?_
 refine jA (k:=K11 ?_)
 refine jO rfl (sQ fun K12=>jb (jQ (k:=?_)))
 refine jV (u:=.bool false) rfl ?_
 refine jA (k:=K12 ?_)
 refine jO rfl (sQ fun K13=>jb (jQ (k:=?_)))
 refine jV (u:=.bool true) rfl ?_
 refine jA (k:=K13 ?_)
 refine ql rfl (sQ fun K14=>jb (jA (k:=K14 (CJ.t [(0,_),(1,_)] (k:=sQ fun K15=>jb (jM (k:=?_)))))))
 refine kg (φ:=fun v=>v=.tuple #[.int .u64 (D.length:Nat),.slice (some ⟨b,oS,none⟩) (D++R).length cS,.nilIface]) call143 rfl rfl (fun w2 hH hf=>by
   rw[← hoS, ← hcS]
   exact zb w2 b _ _ _ ll _ hV2 hn (hB2.mono (hbT w2 hf)) ox) fun v hv=>?_
 subst hv
 refine jM (k:=jX (k:=jX (k:=jX (k:=jA (k:=jA (k:=jA (k:=K15 (sQ fun K16=>sQ fun K17=>jb (jM (k:=?_))))))))))
 refine jn rfl (fun _ _ h=>xl Jr rfl h) (K17 (jO rfl (jg (K16 (sQ fun K18=>sQ fun K19=>jb (jM (k:=jM (k:=jE vY (k:=?_)))))))))
 refine jn rfl (fun _ _ h=>qO ru3 xu rfl h) ?_
 refine jV (u:=.int .u64 ((D++R).length:Nat)) (congrArg (Value.int .u64) (qbI ox)) ?_
 refine jG (k:=?_)
 refine jV (u:=.bool false) (congrArg Value.bool (decide_eq_false ox)) ?_
 refine K19 (CJ.t [(0,_),(1,_),(8,_),(91,_)] (k:=?_))
 refine jO rfl (jg (K18 (sQ fun K20=>jb (jM (k:=jM (k:=jM (k:=?_)))))))
 refine jn rfl (fun _ _ h=>QR (c:=cS) (l:=(D++R).length) (i:=D.length) vY so5 rfl rfl ox h) (jN (k:=jF 3 qh ye (k:=jB (_::_::_::_::_) (_::_) 0 ye (k:=K20 (jb (jM (k:=jM (k:=?_))))))))
 refine jn rfl (fun _ _ h=>Kn (c:=cS) (l:=(D++R).length) (i:=D.length) vY so5 rfl rfl ox h) ?_
 refine jV (u:=.slice (some ⟨b,cut oS cS D.length 1,none⟩) R.length (cS - D.length)) (by rw[lA,Nat.add_sub_cancel_left]) ?_
 refine jA (k:=K9 (CJ.t [(1,_)] (k:=sQ fun K21=>jb (jM (k:=jA (k:=jA (k:=K21 (jj ?_))))))))
 exact Vr results118 rfl rfl fun w' hH hf=>⟨⟨_,_,oS,cS,rfl,hB4.mono (hbT w' hf),hH.get (i:=0) rfl rfl,by have:=hB3.take D.length;rw[List.take_left]at this;exact this.mono (hbT w' hf)⟩,Hp.keepX (f:=⟨w,0,[qx]⟩) (hH.drop 0) hf⟩
theorem Bys.cellN (h:Bys w b o c D) (hi:i<D.length):∀w',Fm.ok ⟨w,0,[]⟩ w'→∀(j:Nat) (u:Value),[bv D[i]][j]? =some u→w'.cell? ⟨b,o+i*1+j,none⟩=some u:=fun w' hf j u hu=>by
 cases j with
 |zero=>
  simp at hu;subst hu
  have:=(h.keep hf).at_ i _ (gE hi)
  simpa using this
 |succ j=>simp at hu
theorem qlv (w:World) (b o c:Nat) (D:List Nat) (h:Bys w b o c D) (hD:D.length=4):
  Calls Tryz.prog 145 #[.slice (some ⟨b,o,none⟩) 4 c] w (Ret fun v w'=>(∃z:Int,v=.int .u32 z)∧Fr 0 [] w w'):=by
 have hm4:=h.cellN (i:=0) ox
 have hm8:=h.cellN (i:=1) ox
 have hm14:=h.cellN (i:=2) ox
 have hm20:=h.cellN (i:=3) ox
 refine jr (args:=[_]) [(0,_)] 0 [] [] func145 rfl ntmps145 rfl rfl .nil ?_
 refine sQ fun K1=>jb (jA (k:=K1 (sQ fun K2=>?_)))
 refine jC 23 (lts [0,1,2,3,4,5,6,7,8,9,10,11,12,13,14,15,16,17,18,19,20,21,22]) [] rfl (by kernel_rfl) (by kernel_rfl) (dM [] (k:=?_))
 refine jo rfl rfl (jd [] rfl) (fun _ _ h=>vH (i:=0) (l:=4) vY so5 rfl rfl dq h) (dL [] ag5 hm4 0 (k:=?_))
 refine jo rfl rfl (jd [] rfl) (fun _ _ h=>qO ru5 qbW rfl h) (dM [] (k:=?_))
 refine jo rfl rfl (jd [] rfl) (fun _ _ h=>vH (i:=1) (l:=4) vY so5 rfl rfl dq h) (dL [] ag5 hm8 0 (k:=?_))
 refine jo rfl rfl (jd [] rfl) (fun _ _ h=>qO ru5 qbW rfl h) (jo rfl rfl (jd [] rfl) (fun _ _ h=>KP (q:=8) rfl rfl h) (jo rfl rfl (jd [] rfl) (fun _ _ h=>Xg rfl rfl h) (dM [] (k:=?_))))
 refine jo rfl rfl (jd [] rfl) (fun _ _ h=>vH (i:=2) (l:=4) vY so5 rfl rfl dq h) (dL [] ag5 hm14 0 (k:=?_))
 refine jo rfl rfl (jd [] rfl) (fun _ _ h=>qO ru5 qbW rfl h) (jo rfl rfl (jd [] rfl) (fun _ _ h=>KP (q:=16) rfl rfl h) (jo rfl rfl (jd [] rfl) (fun _ _ h=>Xg rfl rfl h) (dM [] (k:=?_))))
 refine jo rfl rfl (jd [] rfl) (fun _ _ h=>vH (i:=3) (l:=4) vY so5 rfl rfl dq h) (dL [] ag5 hm20 0 (k:=?_))
 refine jo rfl rfl (jd [] rfl) (fun _ _ h=>qO ru5 qbW rfl h) (jo rfl rfl (jd [] rfl) (fun _ _ h=>KP (q:=24) rfl rfl h) (jo rfl rfl (jd [] rfl) (fun _ _ h=>Xg rfl rfl h) (dA [] (k:=K2 (CJ.t [(2,_)] (k:=jj ?_))))))
 exact je results145 rfl fun w' hH hf=>⟨⟨_,rfl⟩,hf⟩
theorem qlu (w:World) (b o c:Nat) (D:List Nat) (h:Bys w b o c D) (hD:D.length=8):
  Calls Tryz.prog 144 #[.slice (some ⟨b,o,none⟩) 8 c] w (Ret fun v w'=>(∃z:Int,v=.int .u64 z)∧Fr 0 [] w w'):=by
 have hm4:=h.cellN (i:=0) ox
 have hm8:=h.cellN (i:=1) ox
 have hm14:=h.cellN (i:=2) ox
 have hm20:=h.cellN (i:=3) ox
 have hm26:=h.cellN (i:=4) ox
 have hm32:=h.cellN (i:=5) ox
 have hm38:=h.cellN (i:=6) ox
 have hm44:=h.cellN (i:=7) ox
 refine jr (args:=[_]) [(0,_)] 0 [] [] func144 rfl ntmps144 rfl rfl .nil ?_
 refine sQ fun K1=>jb (jA (k:=K1 (sQ fun K2=>?_)))
 refine jC 47 (lts [0,1,2,3,4,5,6,7,8,9,10,11,12,13,14,15,16,17,18,19,20,21,22,23,24,25,26,27,28,29,30,31,32,33,34,35,36,37,38,39,40,41,42,43,44,45,46]) [] rfl (by kernel_rfl) (by kernel_rfl) (dM [] (k:=?_))
 refine jo rfl rfl (jd [] rfl) (fun _ _ h=>vH (i:=0) (l:=8) vY so5 rfl rfl dq h) (dL [] ag5 hm4 0 (k:=?_))
 refine jo rfl rfl (jd [] rfl) (fun _ _ h=>qO ru5 xu rfl h) (dM [] (k:=?_))
 refine jo rfl rfl (jd [] rfl) (fun _ _ h=>vH (i:=1) (l:=8) vY so5 rfl rfl dq h) (dL [] ag5 hm8 0 (k:=?_))
 refine jo rfl rfl (jd [] rfl) (fun _ _ h=>qO ru5 xu rfl h) (jo rfl rfl (jd [] rfl) (fun _ _ h=>KP (q:=8) rfl rfl h) (jo rfl rfl (jd [] rfl) (fun _ _ h=>Xg rfl rfl h) (dM [] (k:=?_))))
 refine jo rfl rfl (jd [] rfl) (fun _ _ h=>vH (i:=2) (l:=8) vY so5 rfl rfl dq h) (dL [] ag5 hm14 0 (k:=?_))
 refine jo rfl rfl (jd [] rfl) (fun _ _ h=>qO ru5 xu rfl h) (jo rfl rfl (jd [] rfl) (fun _ _ h=>KP (q:=16) rfl rfl h) (jo rfl rfl (jd [] rfl) (fun _ _ h=>Xg rfl rfl h) (dM [] (k:=?_))))
 refine jo rfl rfl (jd [] rfl) (fun _ _ h=>vH (i:=3) (l:=8) vY so5 rfl rfl dq h) (dL [] ag5 hm20 0 (k:=?_))
 refine jo rfl rfl (jd [] rfl) (fun _ _ h=>qO ru5 xu rfl h) (jo rfl rfl (jd [] rfl) (fun _ _ h=>KP (q:=24) rfl rfl h) (jo rfl rfl (jd [] rfl) (fun _ _ h=>Xg rfl rfl h) (dM [] (k:=?_))))
 refine jo rfl rfl (jd [] rfl) (fun _ _ h=>vH (i:=4) (l:=8) vY so5 rfl rfl dq h) (dL [] ag5 hm26 0 (k:=?_))
 refine jo rfl rfl (jd [] rfl) (fun _ _ h=>qO ru5 xu rfl h) (jo rfl rfl (jd [] rfl) (fun _ _ h=>KP (q:=32) rfl rfl h) (jo rfl rfl (jd [] rfl) (fun _ _ h=>Xg rfl rfl h) (dM [] (k:=?_))))
 refine jo rfl rfl (jd [] rfl) (fun _ _ h=>vH (i:=5) (l:=8) vY so5 rfl rfl dq h) (dL [] ag5 hm32 0 (k:=?_))
 refine jo rfl rfl (jd [] rfl) (fun _ _ h=>qO ru5 xu rfl h) (jo rfl rfl (jd [] rfl) (fun _ _ h=>KP (q:=40) rfl rfl h) (jo rfl rfl (jd [] rfl) (fun _ _ h=>Xg rfl rfl h) (dM [] (k:=?_))))
 refine jo rfl rfl (jd [] rfl) (fun _ _ h=>vH (i:=6) (l:=8) vY so5 rfl rfl dq h) (dL [] ag5 hm38 0 (k:=?_))
 refine jo rfl rfl (jd [] rfl) (fun _ _ h=>qO ru5 xu rfl h) (jo rfl rfl (jd [] rfl) (fun _ _ h=>KP (q:=48) rfl rfl h) (jo rfl rfl (jd [] rfl) (fun _ _ h=>Xg rfl rfl h) (dM [] (k:=?_))))
 refine jo rfl rfl (jd [] rfl) (fun _ _ h=>vH (i:=7) (l:=8) vY so5 rfl rfl dq h) (dL [] ag5 hm44 0 (k:=?_))
 refine jo rfl rfl (jd [] rfl) (fun _ _ h=>qO ru5 xu rfl h) (jo rfl rfl (jd [] rfl) (fun _ _ h=>KP (q:=56) rfl rfl h) (jo rfl rfl (jd [] rfl) (fun _ _ h=>Xg rfl rfl h) (dA [] (k:=K2 (CJ.t [(2,_)] (k:=jj ?_))))))
 exact je results144 rfl fun w' hH hf=>⟨⟨_,rfl⟩,hf⟩
set_option maxHeartbeats 1000000 in
theorem qfH (w:World) (bb b o c k:Nat) (B:List Nat) (f t u:Int) (dv:Value) (tmp:List Value) (bs R:List Nat) (hb:Blk w bb qx (yg f t u dv tmp)) (hG:Yb (.fix8 k B) bs) (h:Bys w b o c (bs++R)) (hc:(bs++R).length≤1000000000000):
  Calls Tryz.prog 118 #[ptr bb,.slice (some ⟨b,o,none⟩) (bs++R).length c] w (Ret fun v w'=>(∃o' c' z,v=.tuple #[.slice (some ⟨b,o',none⟩) R.length c',.nilIface]∧Bys w' b o' c' R∧Blk w' bb qx (yg k 1 z (.slice none 0 0) tmp))∧jv [bb] w w'):=by
 obtain ⟨tg,rfl,hV1,hB8,hk⟩:=hG
 have hl1:=hV1.pos
 rw[List.append_assoc]at h hc⊢
 have hB2:Bys w b (cut o c tg.length 1) (c - tg.length) (B++R):=by
  have:=h.drop (i:=tg.length) zp
  rwa [List.drop_left]at this
 have hB2':Bys w b (cut o c tg.length 1) (c - tg.length) B:=by
  have:=hB2.take B.length
  rwa [List.take_left]at this
 have hB3:Bys w b (cut (cut o c tg.length 1) (c - tg.length) 8 1) (c - tg.length - 8) R:=by
  have:=hB2.drop (i:=8) (by simp;omega)
  have e:(B++R).drop 8=R:=by rw[← hB8,List.drop_left]
  rw[e]at this;exact this
 have hlen:(tg++(B++R)).length=tg.length+(B++R).length:=lA
 have hlen2:(B++R).length=B.length+R.length:=lA
 have hle2:=hB2.le
 have hbT:∀w',Fm.ok ⟨w,0,[qx]⟩ w'→∀b cs,Blk w b tU8 cs→Blk w' b tU8 cs:=fun w' hf=>jk hf rfl
 refine jr (args:=[_,_]) [(0,_),(1,_)] 0 [qx] _ func118 rfl ntmps118 rfl rfl (Hp.one hb (Nat.zero_le _) rfl) ?_
 refine sQ fun K1=>jb (jA (k:=jA (k:=K1 (sQ fun K2=>jb (jM (k:=?_))))))
 refine kg (φ:=fun v=>v=.tuple #[.int .u64 ((8*k+1:Nat):Int),.slice (some ⟨b,cut o c tg.length 1,none⟩) (B++R).length (c - tg.length),.nilIface]) call143 rfl rfl (fun w2 hH hf=>zb w2 b o c _ tg _ hV1 ox (h.mono (hbT w2 hf)) hc) fun v hv=>?_
 subst hv
 refine jM (k:=jX (k:=jX (k:=jX (k:=jA (k:=jA (k:=jA (k:=K2 (sQ fun K3=>sQ fun K4=>jb (jM (k:=?_))))))))))
 refine jn rfl (fun _ _ h=>xl Jr rfl h) (K4 (CJ.t [(0,_),(1,_),(6,_),(7,_),(16,_)] (k:=?_)))
 refine jO rfl (jg (K3 (sQ fun K5=>jb (jM (k:=jM (k:=?_))))))
 refine jn rfl (fun _ _ h=>qcc (q:=3) rfl rfl h) ?_
 refine jV (u:=.int .u64 (k:Nat)) (congrArg (Value.int .u64) (Yy (k:=k) (t:=1) ox)) ?_
 refine jn rfl (fun _ _ h=>qO xu ru3 rfl h) ?_
 refine jV (u:=.int .i64 (k:Nat)) (congrArg (Value.int .i64) (kG ox ox)) ?_
 refine jN (k:=jF 0 qh so3 (k:=jB (_::_::_::_::_) (_::_) 0 so3 (k:=K5 (sQ fun K6=>jb (jM (k:=jM (k:=?_)))))))
 refine jn rfl (fun _ _ h=>qak rfl rfl h) ?_
 refine jV (u:=.int .u64 ((1:Nat):Int)) (congrArg (Value.int .u64) (Yz (k:=k) (t:=1) hk ox)) ?_
 refine jn rfl (fun _ _ h=>qO xu ru3 rfl h) ?_
 refine jV (u:=.int .i64 1) rfl ?_
 refine jN (k:=jF 1 qh so3 (k:=jB (_::_::_::_::_) (_::_) 0 so3 (k:=K6 (CJ.t [(0,_),(1,_)] (k:=sQ fun K7=>jb (jM (k:=jN (k:=jF 3 qh ye (k:=jB (_::_::_::_::_) (_::_) 0 ye (k:=K7 (sQ fun K8=>jb ?_)))))))))))
 refine jM (k:=jN (k:=jF 2 qh kU (k:=jB (_::_::_::_::_) (_::_) 0 kU (k:=K8 (sQ fun K9=>sQ fun K10=>jb (jM (k:=jN (k:=jF 1 qh so3 (k:=jH 0 ag3 (k:=K10 (CJ.t [(0,_),(1,_),(39,_)] (k:=?_))))))))))))
 refine jh (sQ fun K11=>jb (jQ (k:=?_)))
 refine jV (u:=.bool false) rfl ?_
 refine jA (k:=K11 ?_)
 refine jO rfl (sQ fun K12=>jb (jQ (k:=?_)))
 refine jV (u:=.bool true) rfl ?_
 refine jA (k:=K12 ?_)
 refine ql rfl (sQ fun K13=>sQ fun K14=>jb (jM (k:=jE vY (k:=jS (k:=?_)))))
 refine jV (u:=.bool false) (congrArg Value.bool (decide_eq_false ox)) ?_
 refine K14 (jO rfl (jg (K13 (sQ fun K15=>jb (jM (k:=jM (k:=?_)))))))
 refine jn rfl (fun _ _ h=>QR (c:=c - tg.length) (l:=(B++R).length) (i:=8) vY so5 rfl rfl ox h) ?_
 refine kg (φ:=fun v=>∃z:Int,v=.int .u64 z) call144 rfl rfl (fun w2 hH hf=>qlu w2 b _ _ B (hB2'.mono (hbT w2 hf)) hB8) fun v hv=>?_
 obtain ⟨z,rfl⟩:=hv
 refine jN (k:=jF 2 qh kU (k:=jB (_::_::_::_::_) (_::_) 0 kU (k:=K15 (CJ.t [(1,_)] (k:=jb (jM (k:=?_)))))))
 refine jn rfl (fun _ _ h=>Kn (c:=c - tg.length) (l:=(B++R).length) (i:=8) vY so5 rfl rfl ox h) ?_
 refine jV (u:=.slice (some ⟨b,cut (cut o c tg.length 1) (c - tg.length) 8 1,none⟩) R.length (c - tg.length - 8)) (by rw[hlen2,hB8,Nat.add_sub_cancel_left]) ?_
 refine jA (k:=K9 (sQ fun K16=>jb (jM (k:=jA (k:=jA (k:=K16 (jj ?_)))))))
 exact Vr results118 rfl rfl fun w' hH hf=>⟨⟨_,_,_,rfl,hB3.mono (hbT w' hf),hH.get (i:=0) rfl rfl⟩,Hp.keepX (f:=⟨w,0,[qx]⟩) (hH.drop 0) hf⟩
set_option maxHeartbeats 1000000 in
theorem qfI (w:World) (bb b o c k:Nat) (B:List Nat) (f t u:Int) (dv:Value) (tmp:List Value) (bs R:List Nat) (hb:Blk w bb qx (yg f t u dv tmp)) (hG:Yb (.fix4 k B) bs) (h:Bys w b o c (bs++R)) (hc:(bs++R).length≤1000000000000):
  Calls Tryz.prog 118 #[ptr bb,.slice (some ⟨b,o,none⟩) (bs++R).length c] w (Ret fun v w'=>(∃o' c' z,v=.tuple #[.slice (some ⟨b,o',none⟩) R.length c',.nilIface]∧Bys w' b o' c' R∧Blk w' bb qx (yg k 5 z (.slice none 0 0) tmp))∧jv [bb] w w'):=by
 obtain ⟨tg,rfl,hV1,hB8,hk⟩:=hG
 have hl1:=hV1.pos
 rw[List.append_assoc]at h hc⊢
 have hB2:Bys w b (cut o c tg.length 1) (c - tg.length) (B++R):=by
  have:=h.drop (i:=tg.length) zp
  rwa [List.drop_left]at this
 have hB2':Bys w b (cut o c tg.length 1) (c - tg.length) B:=by
  have:=hB2.take B.length
  rwa [List.take_left]at this
 have hB3:Bys w b (cut (cut o c tg.length 1) (c - tg.length) 4 1) (c - tg.length - 4) R:=by
  have:=hB2.drop (i:=4) (by simp;omega)
  have e:(B++R).drop 4=R:=by rw[← hB8,List.drop_left]
  rw[e]at this;exact this
 have hlen:(tg++(B++R)).length=tg.length+(B++R).length:=lA
 have hlen2:(B++R).length=B.length+R.length:=lA
 have hle2:=hB2.le
 have hbT:∀w',Fm.ok ⟨w,0,[qx]⟩ w'→∀b cs,Blk w b tU8 cs→Blk w' b tU8 cs:=fun w' hf=>jk hf rfl
 refine jr (args:=[_,_]) [(0,_),(1,_)] 0 [qx] _ func118 rfl ntmps118 rfl rfl (Hp.one hb (Nat.zero_le _) rfl) ?_
 refine sQ fun K1=>jb (jA (k:=jA (k:=K1 (sQ fun K2=>jb (jM (k:=?_))))))
 refine kg (φ:=fun v=>v=.tuple #[.int .u64 ((8*k+5:Nat):Int),.slice (some ⟨b,cut o c tg.length 1,none⟩) (B++R).length (c - tg.length),.nilIface]) call143 rfl rfl (fun w2 hH hf=>zb w2 b o c _ tg _ hV1 ox (h.mono (hbT w2 hf)) hc) fun v hv=>?_
 subst hv
 refine jM (k:=jX (k:=jX (k:=jX (k:=jA (k:=jA (k:=jA (k:=K2 (sQ fun K3=>sQ fun K4=>jb (jM (k:=?_))))))))))
 refine jn rfl (fun _ _ h=>xl Jr rfl h) (K4 (CJ.t [(0,_),(1,_),(6,_),(7,_),(16,_)] (k:=?_)))
 refine jO rfl (jg (K3 (sQ fun K5=>jb (jM (k:=jM (k:=?_))))))
 refine jn rfl (fun _ _ h=>qcc (q:=3) rfl rfl h) ?_
 refine jV (u:=.int .u64 (k:Nat)) (congrArg (Value.int .u64) (Yy (k:=k) (t:=5) ox)) ?_
 refine jn rfl (fun _ _ h=>qO xu ru3 rfl h) ?_
 refine jV (u:=.int .i64 (k:Nat)) (congrArg (Value.int .i64) (kG ox ox)) ?_
 refine jN (k:=jF 0 qh so3 (k:=jB (_::_::_::_::_) (_::_) 0 so3 (k:=K5 (sQ fun K6=>jb (jM (k:=jM (k:=?_)))))))
 refine jn rfl (fun _ _ h=>qak rfl rfl h) ?_
 refine jV (u:=.int .u64 ((5:Nat):Int)) (congrArg (Value.int .u64) (Yz (k:=k) (t:=5) hk ox)) ?_
 refine jn rfl (fun _ _ h=>qO xu ru3 rfl h) ?_
 refine jV (u:=.int .i64 5) rfl ?_
 refine jN (k:=jF 1 qh so3 (k:=jB (_::_::_::_::_) (_::_) 0 so3 (k:=K6 (CJ.t [(0,_),(1,_)] (k:=sQ fun K7=>jb (jM (k:=jN (k:=jF 3 qh ye (k:=jB (_::_::_::_::_) (_::_) 0 ye (k:=K7 (sQ fun K8=>jb ?_)))))))))))
 refine jM (k:=jN (k:=jF 2 qh kU (k:=jB (_::_::_::_::_) (_::_) 0 kU (k:=K8 (sQ fun K9=>sQ fun K10=>jb (jM (k:=jN (k:=jF 1 qh so3 (k:=jH 0 ag3 (k:=K10 (CJ.t [(0,_),(1,_),(39,_)] (k:=?_))))))))))))
 refine jh (sQ fun K11=>jb (jQ (k:=?_)))
 refine jV (u:=.bool false) rfl ?_
 refine jA (k:=K11 ?_)
 refine jO rfl (sQ fun K12=>jb (jQ (k:=?_)))
 refine jV (u:=.bool false) rfl ?_
 refine jA (k:=K12 ?_)
 refine jO rfl (sQ fun K13=>jb (jQ (k:=?_)))
 refine jV (u:=.bool false) rfl ?_
 refine jA (k:=K13 ?_)
 refine jO rfl (sQ fun K14=>jb (jQ (k:=?_)))
 refine jV (u:=.bool true) rfl ?_
 refine jA (k:=K14 (CJ.t [(0,_),(1,_),(102,_)] (k:=?_)))
 refine ql rfl (sQ fun K15=>sQ fun K16=>jb (jM (k:=jE vY (k:=jS (k:=?_)))))
 refine jV (u:=.bool false) (congrArg Value.bool (decide_eq_false ox)) ?_
 refine K16 (jO rfl (jg (K15 (sQ fun K17=>jb (jM (k:=jM (k:=?_)))))))
 refine jn rfl (fun _ _ h=>QR (c:=c - tg.length) (l:=(B++R).length) (i:=4) vY so5 rfl rfl ox h) ?_
 refine kg (φ:=fun v=>∃z:Int,v=.int .u32 z) call145 rfl rfl (fun w2 hH hf=>qlv w2 b _ _ B (hB2'.mono (hbT w2 hf)) hB8) fun v hv=>?_
 obtain ⟨z,rfl⟩:=hv
 refine jn rfl (fun _ _ h=>qO qbW xu rfl h) (jN (k:=jF 2 qh kU (k:=jB (_::_::_::_::_) (_::_) 0 kU (k:=K17 (CJ.t [(1,_)] (k:=jb (jM (k:=?_))))))))
 refine jn rfl (fun _ _ h=>Kn (c:=c - tg.length) (l:=(B++R).length) (i:=4) vY so5 rfl rfl ox h) ?_
 refine jV (u:=.slice (some ⟨b,cut (cut o c tg.length 1) (c - tg.length) 4 1,none⟩) R.length (c - tg.length - 4)) (by rw[hlen2,hB8,Nat.add_sub_cancel_left]) ?_
 refine jA (k:=K9 (sQ fun K18=>jb (jM (k:=jA (k:=jA (k:=K18 (jj ?_)))))))
 exact Vr results118 rfl rfl fun w' hH hf=>⟨⟨_,_,_,rfl,hB3.mono (hbT w' hf),hH.get (i:=0) rfl rfl⟩,Hp.keepX (f:=⟨w,0,[qx]⟩) (hH.drop 0) hf⟩
abbrev Jy:Nat:=221
def vi (w:World) (bb:Nat):Prop:=∃f t u dv tmp,Blk w bb qx (yg f t u dv tmp)
def ya (w:World) (bb:Nat) (f:Fld):Prop:=match f with
 | .num k n=>n<18446744073709551616∧∃tmp,Blk w bb qx (yg (k:Nat) 0 n (.slice none 0 0) tmp)
 | .bys k D=>D.length≤1000000000000∧∃b o c tmp,Blk w bb qx (yg (k:Nat) 2 0 (.slice (some ⟨b,o,none⟩) D.length c) tmp)∧Bys w b o c D
theorem ya.at_ {f:Fld} (h:ya w bb f):vi w bb:=by
 cases f with
 |num k n=>obtain ⟨-,tmp,h⟩:=h;exact ⟨_,_,_,_,_,h⟩
 |bys k D=>obtain ⟨-,b,o,c,tmp,h, -⟩:=h;exact ⟨_,_,_,_,_,h⟩
theorem vi.keep (h:vi w bb) (k:∀cs,Blk w bb qx cs→Blk w' bb qx cs):vi w' bb:=by
 obtain ⟨f,t,u,dv,tmp,h⟩:=h
 exact ⟨f,t,u,dv,tmp,k _ h⟩
def xh (T iT:Nat) (g:FuncId) (off:Nat) (val:Nat→Value):Prop:=∀(w:World) (bb pb o k n:Nat) (cs tmp:List Value),n<18446744073709551616→Blk w bb qx (yg (k:Nat) 0 n (.slice none 0 0) tmp)→Blk w pb T cs→o+off<cs.length→
 Calls Tryz.prog g #[ptr bb,.iface iT (.pointer (some ⟨pb,o,none⟩))] w (Ret fun v w'=>v=.nilIface∧Blk w' pb T (kH cs (o+off) [val n])∧jv [pb] w w')
abbrev Sch:=List (Option (FuncId×Nat×(Nat→Value)))
def qaI (T iT:Nat) (sch:Sch):Prop:=∀(k:Nat) g off val,sch[k]? =some (some (g,off,val))→xh T iT g off val
def apS (sch:Sch) (o:Nat) (cs:List Value) (f:Fld):List Value:=match sch[kn f]? with
 |some (some (_,off,val))=>kH cs (o+off) [val (qfC f)]
 |_=>cs
theorem qeJ (sch:Sch) (o:Nat) (cs:List Value) (f:Fld):(apS sch o cs f).length=cs.length:=by
 unfold apS
 split
 ·rw[yi]
 ·rfl
theorem qcE (sch:Sch) (o:Nat):∀(fs:List Fld) (cs:List Value),(fs.foldl (apS sch o) cs).length=cs.length
 |[],_=>rfl
 |f::r,cs=>by rw[List.foldl_cons,qcE sch o r,qeJ]
theorem qiE (A l B:List Value) (off:Nat) (v:Value) (h:off<l.length):kH (A++l++B) (A.length+off) [v]=A++kH l off [v]++B:=by
 simp only[kH]
 rw[List.append_assoc,List.append_assoc,List.set_append_right _ _ (Nat.le_add_right _ _),Nat.add_sub_cancel_left,List.set_append_left _ _ h]
theorem qbr (sch:Sch) (A B:List Value) (hs:∀(k:Nat) g off val,sch[k]? =some (some (g,off,val))→off<m):∀(fs:List Fld) (l:List Value),l.length=m→fs.foldl (apS sch A.length) (A++l++B)=A++fs.foldl (apS sch 0) l++B
 |[],_,_=>rfl
 |f::r,l,hl=>by
    rw[List.foldl_cons,List.foldl_cons]
    have:apS sch A.length (A++l++B) f=A++apS sch 0 l f++B:=by
     unfold apS
     split
     ·next g off val h=>rw[qiE _ _ _ _ _ (by rw[hl];exact hs _ _ _ _ h),Nat.zero_add]
     ·rfl
    rw[this]
    exact qbr sch A B hs r _ (by rw[qeJ];exact hl)
end Go.Proofs.YtifdadlhmlhfiaaGreatDoor
namespace Go.Fw
open Go
section
variable {P:Program} {Q:Exit→Act→World→Prop} {n:Nat} {f:Fm} {e:Env} {H:ko} {ops:Array Oper} {rest:List Oper} {d ty:Nat} {pos:String} {af:Array Edge}
theorem qhC {name:String} {x:Operand} {args:Array Operand} {vs:List Value} {T:Nat} {v0:Value} {tys:Array TypeId} {R:World→Value→World→Prop}
  (hx:ev e x=some (.iface T v0)) (hargs:evL e args.toList=some vs) (hd:Nat.blt d n=true) (hc:∀w,Hp f w H→f.ok w→∃g as',(callMethod (.iface T v0) name vs.toArray).run P w=.ok (.enter g as') w∧Calls P g as' w (Ret (R w)))
  (k:∀w v w',Hp f w H→f.ok w→R w v w'→L P ops Q n ((d,v)::e) rest w'):J P ops Q n f e H (⟨some d,.call ⟨.invoke x name,args,tys⟩,ty,pos,af,none⟩::rest):=fun w hH hf a ha=>by
 have hmap:args.map a.eval=vs.toArray:=by apply Array.toList_inj.1;rw[Array.toList_map];exact qbv ha hargs
 obtain ⟨g,as',hg,hcall⟩:=hc w hH hf
 unfold wpList
 rw[if_pos (by simp[Region.wanted])]
 refine .inl ?_
 have hrun:(execOp a.eval ⟨some d,.call ⟨.invoke x name,args,tys⟩,ty,pos,af,none⟩).run P w=.ok (.enter g as') w:=by
  simp only[execOp,resolve,hmap,ha.ev hx]
  simp only[Sem.run_bind,Sem.run_pure,Result.andThen_ok,invoke]
  simp
  exact hg
 unfold Oper.wp
 rw[hrun]
 refine Calls.mono hcall fun e w' he=>?_
 cases e with
 |returned v=>exact k w v w' hH hf he _ (ha.put hd)
 |panicked c=>exact he.elim
 |outgrown=>exact he.elim
end
end Go.Fw
namespace Go.Proofs.YtifdadlhmlhfiaaGreatDoor
open Go Go.Fw Go.Proofs Go.Proofs.Tryz
variable {ds:List Value} {T:Nat} {v:Value} {w w1:World}
def Zm:GFld→Nat
 | .fld f=>kn f
 | .fix8 k _=>k
 | .fix4 k _=>k
theorem qib (w:World) (bb b o c:Nat) (g:GFld) (bs R:List Nat) (hb:vi w bb) (hG:Yb g bs) (h:Bys w b o c (bs++R)) (hc:(bs++R).length≤1000000000000):
  Calls Tryz.prog 118 #[ptr bb,.slice (some ⟨b,o,none⟩) (bs++R).length c] w (Ret fun v w'=>(∃o' c',v=.tuple #[.slice (some ⟨b,o',none⟩) R.length c',.nilIface]∧Bys w' b o' c' R)∧(∃t u dv tmp,Blk w' bb qx (yg (Zm g:Nat) t u dv tmp))∧(∀f,g=.fld f→ya w' bb f)∧jv [bb] w w'):=by
 obtain ⟨f0,t0,u0,dv0,tmp0,hb⟩:=hb
 cases g with
 |fld f=>
  cases f with
  |num k n=>
   refine Calls.mono (qcL w bb b o c k n _ _ _ _ _ bs R hb hG h hc) (Ret.mono fun v w' hR=>?_)
   obtain ⟨⟨o',c',h1,h2⟩,h3,h4⟩:=hR
   obtain ⟨_,_,_,_,_,_,hn⟩:=hG
   exact ⟨⟨o',c',h1,h2⟩,⟨_,_,_,_,h3⟩,fun f hf=>by cases hf;exact ⟨hn,_,h3⟩,h4⟩
  |bys k D=>
   refine Calls.mono (qcM w bb b o c k D _ _ _ _ _ bs R hb hG h hc) (Ret.mono fun v w' hR=>?_)
   obtain ⟨⟨o',c',o2,c2,h1,h2,h3,h5⟩,h4⟩:=hR
   have hD:D.length≤1000000000000:=by
      obtain ⟨t,l,rfl,_⟩:=hG
      simp only[lA]at hc
      omega
   exact ⟨⟨o',c',h1,h2⟩,⟨_,_,_,_,h3⟩,fun f hf=>by cases hf;exact ⟨hD,b,o2,c2,_,h3,h5⟩,h4⟩
 |fix8 k B=>
  refine Calls.mono (qfH w bb b o c k B _ _ _ _ _ bs R hb hG h hc) (Ret.mono fun v w' hR=>?_)
  obtain ⟨⟨o',c',z,h1,h2,h3⟩,h4⟩:=hR
  exact ⟨⟨o',c',h1,h2⟩,⟨_,_,_,_,h3⟩,(fun f hf=>by cases hf),h4⟩
 |fix4 k B=>
  refine Calls.mono (qfI w bb b o c k B _ _ _ _ _ bs R hb hG h hc) (Ret.mono fun v w' hR=>?_)
  obtain ⟨⟨o',c',z,h1,h2,h3⟩,h4⟩:=hR
  exact ⟨⟨o',c',h1,h2⟩,⟨_,_,_,_,h3⟩,(fun f hf=>by cases hf),h4⟩
structure ZT (tb:Nat→Nat) (ds:List Value):Prop where
 yes:∀k,tb k≠0→∃g,ds[k]? =some (.func (.func g) #[] #[])∧∀(az:Array Value) (w:World),(callFunc g az).run Tryz.prog w=.ok (.enter g az) w
 no:∀k,tb k=0→ds[k]? =none∨ds[k]? =some .nilFunc
 few:ds.length≤1000
def VQ (iT:Nat) (mv:Value) (ds:List Value) (w:World):Prop:=∃g as',(callMethod (.iface iT mv) "loop.example/pub-profileroads/pub/goprofile.decoder" #[]).run Tryz.prog w=.ok (.enter g as') w∧
 Calls Tryz.prog g as' w (Ret fun v w'=>(∃y p c,v=.slice p ds.length c∧Own Jy 1 y p ds.length c ds∧(y.on=true→Blk w' y.b Jy y.cs))∧Fr 0 [] w w')
structure Reads (iT:Nat) (mv:Value) (mb bb:Nat) (ds:List Value) (tb:Nat→Nat) (fs:List Fld) (w1:World) (St:List Fld→World→Prop):Prop where
 start:St [] w1
 kx:∀pre w,St pre w→jv [bb,mb] w1 w
 buf:∀pre w,St pre w→vi w bb
 turn:∀pre w w',St pre w→jv [bb] w w'→vi w' bb→St pre w'
 skip:∀pre f w,pre++[f]<+:fs→St pre w→tb (kn f)=0→St (pre++[f]) w
 step:∀pre f w g,pre++[f]<+:fs→St pre w→ya w bb f→(match f with| .num k _=>tb k=1∨tb k=3| .bys k _=>tb k=2∨tb k=3)→ds[kn f]? =some (.func (.func g) #[] #[])→
  Calls Tryz.prog g #[ptr bb,.iface iT mv] w (Ret fun v w'=>v=.nilIface∧St (pre++[f]) w')
theorem yx (g:GFld×List Nat) (r:Msg):kV (g::r)=(match g.1 with| .fld f=>[f]|_=>[])++kV r:=by
 obtain ⟨g,bs⟩:=g
 cases g<;>simp[kV]
theorem ya.keep {w':World} {bb:Nat} {f:Fld} (h:ya w bb f) (k:Fr 0 [] w w'):ya w' bb f:=by
 cases f with
 |num n m=>obtain ⟨h1,tmp,h⟩:=h;exact ⟨h1,tmp,k.blk h (.inr zp)⟩
 |bys n D=>obtain ⟨h1,b,o,c,tmp,h,h2⟩:=h;exact ⟨h1,b,o,c,tmp,k.blk h (.inr zp),h2.keep k⟩
theorem qhI {g:GFld} {bs:List Nat} (h:Yb g bs):0<bs.length:=by
 cases g with
 |fld f=>
  cases f with
  |num k n=>obtain ⟨t,v,rfl,h1, -⟩:=h;have:=h1.pos;simp;omega
  |bys k B=>obtain ⟨t,v,rfl,h1, -⟩:=h;have:=h1.pos;simp;omega
 |fix8 k B=>obtain ⟨t,rfl,h1, -⟩:=h;have:=h1.pos;simp;omega
 |fix4 k B=>obtain ⟨t,rfl,h1, -⟩:=h;have:=h1.pos;simp;omega
set_option maxHeartbeats 2000000 in
theorem qby (w:World) (bb mb iT T:Nat) (mv:Value) (ds:List Value) (tb:Nat→Nat) (m:Msg) (k0:Nat) (mcs:List Value) (hm:MOK tb m) (htb:∀k,tb k≤3) (hds:ZT tb ds) (hbuf:ya w bb (.bys k0 (mB m))) (hmb:Blk w mb T mcs) (hT8:T≠tU8) (hTD:T≠Jy)
  (hdec:∀w',Fr 0 [] w w'→VQ iT mv ds w') (St:World→List Fld→World→Prop) (hSt:∀w1,Fr 0 [] w w1→Reads iT mv mb bb ds tb (kV m) w1 (St w1)):
  Calls Tryz.prog 105 #[ptr bb,.iface iT mv] w (Ret fun v w'=>v=.nilIface∧∃w1,Fr 0 [] w w1∧St w1 (kV m) w'):=by
 obtain ⟨hD,b,o,c,tmp,hb,hB⟩:=hbuf
 have hc0:=mc (f:=⟨w,0,[]⟩) hb rfl
 refine jr (args:=[_,_]) [(0,_),(1,_)] 0 [] [] Tryz.func105 rfl Tryz.ntmps105 rfl rfl .nil ?_
 refine sQ fun K1=>jb (jA (k:=K1 (sQ fun K2=>sQ fun K3=>jb (jM (k:=?_)))))
 refine kg (φ:=fun v=>v=.nilIface) Tryz.call117 rfl rfl (fun w3 hH hf=>Jn w3 bb _ 2 _ _ _ (hf.blk hb (.inr zp))) fun v hv=>?_
 subst hv
 refine jA (k:=K3 (sQ fun K4=>jb (jM (k:=?_))))
 refine jn rfl (fun _ _ h=>xl Jr rfl h) (K4 (jO rfl (jg (K2 (sQ fun K5=>jb (jM (k:=?_)))))))
 refine qhC (R:=fun w1 v w'=>(∃y p c,v=.slice p ds.length c∧Own Jy 1 y p ds.length c ds∧(y.on=true→Blk w' y.b Jy y.cs))∧Fr 0 [] w1 w') rfl rfl rfl (fun w1 hH hf=>hdec w1 hf) fun w0 v w1 hH0 hf0 hR=>?_
 obtain ⟨⟨yd,pd,cd,rfl,hOd,hyd⟩,hf1⟩:=hR
 have hfr:Fr 0 [] w w1:=frQ hf0 hf1
 have hb1:=hfr.blk hb (.inr zp)
 have hB1:=hB.keep hfr
 have hmb1:=hfr.blk hmb (.inr zp)
 have hc0:=mc (f:=⟨w1,0,[]⟩) hb1 rfl
 have hRd:=hSt w1 hfr
 refine J.begin ⟨w1,0,[]⟩ [] jx .nil ?_
 refine jA (k:=K5 (sQ fun K6=>jb (jM (k:=jN (k:=jF 3 qh ye (k:=jL JN hc0 3 (k:=jA (k:=K6 (CJ.t [(0,_),(1,_),(6,_),(7,_)] (k:=sQ fun K7=>jh ?_))))))))))
 intro w2 hH2 hf2
 refine vk (σ:=Msg×Nat×Nat×List Fld) (fun s=>[(0,ptr bb),(1,.iface iT mv),(6,.slice pd ds.length cd),(7,.slice (some ⟨b,s.2.1,none⟩) (mB s.1).length s.2.2.1)])
  (fun s w'=>s.2.2.2++kV s.1=kV m∧(∀g∈s.1,g∈m)∧Bys w' b s.2.1 s.2.2.1 (mB s.1)∧(mB s.1).length≤1000000000000∧∃w3,Fr 0 [] w1 w3∧w3=w1∧St w1 s.2.2.2 w') (fun s=>s.1.length)
  (m,o,c,[]) ⟨rfl,rfl,rfl,rfl,trivial⟩ ⟨by simp,fun _ h=>h,hB1.keep hf2,hD,w1,Fr.refl _ _ _,rfl,?_⟩ ?_
 ·exact hRd.turn [] w1 w2 hRd.start (jv.of hf2|>.mono zp) ((hRd.buf [] w1 hRd.start).keep fun cs hk=>hf2.blk hk (.inr zp))
 rintro ⟨rest,o1,c1,pre⟩ w3 ⟨hfs,hin,hB3,hlen3, -, -, -,hS3⟩ KL hKL
 try dsimp only at hfs hin hB3 hlen3 hS3
 refine C.begin ⟨w3,0,[]⟩ [] jx .nil ?_
 try dsimp only
 refine sQ fun K8=>sQ fun K9=>jb (jM (k:=jE vY (k:=jG (k:=K9 ?_))))
 refine jq rfl (fun h23=>?_) (fun h23=>?_)
 ·obtain ⟨g,rest',rfl⟩:∃g r,rest=g::r:=by
   cases rest with
   |nil=>simp[mB]at h23
   |cons g r=>exact ⟨g,r,rfl⟩
  have hgm:g∈m:=hin g zp
  have hmBc:mB (g::rest')=g.2++mB rest':=by simp[mB]
  have hG:Yb g.1 g.2:=hm.enc g hgm
  rw[hmBc]at hB3 hlen3⊢
  refine jg (K8 (jh (sQ fun K10=>jb (jA (k:=K10 (sQ fun K11=>jb (jM (k:=jM (k:=?_)))))))))
  refine kQ (R:=fun w4 v w'=>(∃o' c',v=.tuple #[.slice (some ⟨b,o',none⟩) (mB rest').length c',.nilIface]∧Bys w' b o' c' (mB rest'))∧(∃t u dv tmp,Blk w' bb qx (yg (Zm g.1:Nat) t u dv tmp))∧(∀f,g.1=.fld f→ya w' bb f)∧jv [bb] w4 w') Tryz.call118 rfl rfl (fun w4 hH hf=>qib w4 bb b o1 c1 g.1 g.2 (mB rest') ((hRd.buf _ _ hS3).keep fun cs hk=>hf.blk hk (.inr zp)) hG (hB3.keep hf) hlen3) fun w4 v w5 hH4 hf4 hR=>?_
  obtain ⟨⟨o',c',rfl,hB5⟩,⟨t5,u5,dv5,tmp5,hb5⟩,hF5,hk5⟩:=hR
  have hS5:St w1 pre w5:=hRd.turn pre w3 w5 hS3 (hk5.afterF hf4) ⟨_,_,_,_,_,hb5⟩
  have hkx:=hRd.kx _ _ hS5
  have hc0:=mc (f:=⟨w5,0,[]⟩) hb5 rfl
  have hdv:∀v,ds[Zm g.1]? =some v→∃db,pd=some ⟨db,0,none⟩∧∀w',Fm.ok ⟨w5,0,[]⟩ w'→∀(j:Nat) (u:Value),[v][j]? =some u→w'.cell? ⟨db,0+Zm g.1*1+j,none⟩=some u:=fun v hv=>by
   have hl:=(List.getElem?_eq_some_iff.1 hv).1
   obtain ⟨hon,hp⟩:=hOd.pos ox
   refine ⟨yd.b,hp,fun w' hf j u hu=>?_⟩
   have h1:=hyd hon
   have hne:yd.b∉[bb,mb]:=by
    simp only[List.mem_cons,List.mem_nil_iff,or_false,not_or]
    exact ⟨h1.ne hb1 dq,h1.ne hmb1 (Ne.symm hTD)⟩
   have h5:Blk w' yd.b yd.T yd.cs:=by rw[hOd.hT];exact hf.blk (hkx.blk h1 hne) (.inr zp)
   cases j with
   |zero=>
    simp at hu;subst hu
    exact hOd.cell h5 hv
   |succ j=>simp at hu
  refine J.begin ⟨w5,0,[]⟩ [] jx .nil ?_
  refine jM (k:=jX (k:=jX (k:=jA (k:=jA (k:=K11 (CJ.t [(0,_),(1,_),(6,_),(7,_),(8,_)] (k:=sQ fun K12=>sQ fun K13=>jb (jM (k:=?_)))))))))
  refine jn rfl (fun _ _ h=>xl Jr rfl h) (K13 (jO rfl (jg (K12 (sQ fun K14=>sQ fun K15=>jb (jM (k:=jN (k:=jF 0 qh so3 (k:=jL ag3 hc0 0 (k:=jM (k:=jE QN (k:=?_))))))))))))
  refine jn rfl (fun _ _ h=>Jl rfl rfl h) ?_
  by_cases hkl:ds.length≤Zm g.1
  ·refine jV (u:=.bool true) (congrArg Value.bool (decide_eq_true ox)) ?_
   have htk:tb (Zm g.1)=0:=Decidable.byContradiction fun h=>by obtain ⟨gf,h2, -⟩:=hds.yes (Zm g.1) h;have:=(List.getElem?_eq_some_iff.1 h2).1;omega
   refine jM (k:=?_)
   refine kN rfl rfl rfl rfl (kN rfl rfl rfl rfl (kN rfl rfl rfl rfl (kN rfl rfl rfl rfl (kN rfl rfl rfl rfl (kN rfl rfl rfl rfl (kN rfl rfl rfl rfl (kN rfl rfl rfl rfl (jT (k:=K15 (CJ.t [(0,_),(1,_),(6,_),(7,_),(49,_)] (k:=?_)))))))))))
   refine ql rfl (jt (qg (xy (ji ?_))))
   first
   |exact fun w' hH hf=>hKL (rest',o',c',pre++[f]) _ w' ⟨by rw[← hfs,yx,hf1];simp,fun g hg=>hin g (by simp[hg]),hB7.keep hf,by have h:=hlen3;simp only[lA]at h;show (mB rest').length≤1000000000000;omega,w1,Fr.refl _ _ _,rfl,hRd.turn _ w7 w' hS7 ((jv.of hf).mono zp) ((hRd.buf _ _ hS7).keep fun cs hk=>hf.blk hk (.inr zp))⟩ zp ⟨rfl,rfl,rfl,rfl,trivial⟩
   |exact fun w' hH hf=>by
      have ht0:=htk
      refine hKL (rest',o',c',pre++(match g.1 with| .fld f=>[f]|_=>[])) _ w' ⟨by rw[← hfs,yx];simp,fun g hg=>hin g (by simp[hg]),hB5.keep hf,by have h:=hlen3;simp only[lA]at h;show (mB rest').length≤1000000000000;omega,w1,Fr.refl _ _ _,rfl,?_⟩ zp sR
      have hS:=hRd.turn _ w5 w' hS5 ((jv.of hf).mono zp) ((hRd.buf _ _ hS5).keep fun cs hk=>hf.blk hk (.inr zp))
      cases hg1:g.1 with
      |fld f=>
       rw[hg1]at ht0
       exact hRd.skip pre f w' (by rw[← hfs,yx,hg1];exact ⟨kV rest',by simp⟩) hS ht0
      |fix8 k B=>simpa using hS
      |fix4 k B=>simpa using hS
  ·refine jV (u:=.bool false) (congrArg Value.bool (decide_eq_false ox)) ?_
   obtain ⟨dv,hdv0⟩:∃dv,ds[Zm g.1]? =some dv:=⟨_,gE ox⟩
   obtain ⟨db,rfl,hdc⟩:=hdv dv hdv0
   refine jM (k:=?_)
   refine jy rfl rfl (jM (k:=?_))
   refine jy rfl rfl (jM (k:=?_))
   refine jy rfl rfl (jN (k:=?_))
   refine jy rfl rfl (jF 0 qh so3 (k:=?_))
   refine jy rfl rfl (jL ag3 hc0 0 (k:=?_))
   refine jy rfl rfl (jJ QN VD (k:=?_))
   refine jy rfl rfl (jL qkD hdc 0 (k:=?_))
   have hdk:(∃gf,dv=.func (.func gf) #[] #[]∧tb (Zm g.1)≠0∧∀(az:Array Value) (w:World),(callFunc gf az).run Tryz.prog w=.ok (.enter gf az) w)∨(dv=.nilFunc∧tb (Zm g.1)=0):=by
    by_cases h0:tb (Zm g.1)=0
    ·rcases hds.no _ h0 with h|h
     ·rw[h]at hdv0;cases hdv0
     ·rw[h]at hdv0;exact .inr ⟨(Option.some.inj hdv0).symm,h0⟩
    ·obtain ⟨gf,h,h2⟩:=hds.yes _ h0
     rw[h]at hdv0;exact .inl ⟨gf,(Option.some.inj hdv0).symm,h0,h2⟩
   refine jy rfl rfl ?_
   rcases hdk with ⟨gf,rfl,htk,hgf⟩|⟨rfl,htk⟩
   ·refine jn rfl (fun _ _ h=>qlc qke rfl h) (jK (k:=K15 (CJ.t [(0,_),(1,_),(6,_),(7,_),(49,_)] (k:=?_))))
    refine jO rfl (jg (K14 (sQ fun K16=>jb (jM (k:=jM (k:=jN (k:=jF 0 qh so3 (k:=jL ag3 hc0 0 (k:=jJ QN VD (k:=jL qkD hdc 0 (k:=jM (k:=jM (k:=?_)))))))))))))
    refine qeu (g:=gf) (us:=[]) (R:=fun w6 v w'=>v=.nilIface∧∃f,g.1=.fld f∧St w1 (pre++[f]) w') hgf rfl rfl rfl (fun w6 hH hf=>?_) fun w6 v w7 hH6 hf6 hR=>?_
    ·obtain ⟨f,hf1⟩:∃f,g.1=.fld f:=by
      have hw:=hm.wire g hgm
      cases hg:g.1 with
      |fld f=>exact ⟨f,rfl⟩
      |fix8 k B=>rw[hg]at hw htk;exact absurd hw htk
      |fix4 k B=>rw[hg]at hw htk;exact absurd hw htk
     have hp:pre++[f]<+:kV m:=by
      rw[← hfs,yx,hf1]
      exact ⟨kV rest',by simp⟩
     have hw:=hm.wire g hgm
     rw[hf1]at hw htk hdv0
     refine Calls.mono (hRd.step pre f w6 gf hp (hRd.turn pre w5 w6 hS5 ((jv.of hf).mono zp) ((hRd.buf _ _ hS5).keep fun cs hk=>hf.blk hk (.inr zp))) ((hF5 f hf1).keep hf) ?_ hdv0) (Ret.mono fun v w' h=>⟨h.1,f,hf1,h.2⟩)
     have h3:=htb (kn f)
     have htk':tb (kn f)≠0:=htk
     cases f with
     |num k n=>have hw':tb k≠2:=hw;simp only[kn]at h3 htk'⊢;omega
     |bys k D=>have hw':tb k≠1:=hw;simp only[kn]at h3 htk'⊢;omega
    obtain ⟨rfl,f,hf1,hS7⟩:=hR
    have hB7:Bys w7 b o' c' (mB rest'):=by
     obtain ⟨hle,csB,hbB,hatB⟩:=hB5
     refine ⟨hle,csB,?_,hatB⟩
     obtain ⟨cs0,hb0, -⟩:=hB1.row
     have hne:b∉[bb,mb]:=by
      simp only[List.mem_cons,List.mem_nil_iff,or_false,not_or]
      exact ⟨hb0.ne hb1 dq,hb0.ne hmb1 (Ne.symm hT8)⟩
     have h1:=hkx.blk hb0 hne
     have h2:=(hRd.kx _ _ hS7).blk hb0 hne
     have e:cs0=csB:=by
      have h3:w5.heap[b]? =some (.cells cs0.toArray tU8 (0,0)):=h1
      have h4:w5.heap[b]? =some (.cells csB.toArray tU8 (0,0)):=hbB
      rw[h3]at h4
      injection h4 with h4
      injection h4 with h4
      simpa using h4
     rw[← e];exact h2
    refine J.begin ⟨w7,0,[]⟩ [] jx .nil ?_
    refine jA (k:=K16 (sQ fun K17=>jb (jM (k:=?_))))
    refine jn rfl (fun _ _ h=>xl Jr rfl h) (K17 (CJ.t [(0,_),(1,_),(6,_),(7,_),(9,_),(61,_)] (k:=?_)))
    refine jO rfl (jg (Qq (ji ?_)))
    first
    |exact fun w' hH hf=>hKL (rest',o',c',pre++[f]) _ w' ⟨by rw[← hfs,yx,hf1];simp,fun g hg=>hin g (by simp[hg]),hB7.keep hf,by have h:=hlen3;simp only[lA]at h;show (mB rest').length≤1000000000000;omega,w1,Fr.refl _ _ _,rfl,hRd.turn _ w7 w' hS7 ((jv.of hf).mono zp) ((hRd.buf _ _ hS7).keep fun cs hk=>hf.blk hk (.inr zp))⟩ zp ⟨rfl,rfl,rfl,rfl,trivial⟩
    |exact fun w' hH hf=>by
       have ht0:=htk
       refine hKL (rest',o',c',pre++(match g.1 with| .fld f=>[f]|_=>[])) _ w' ⟨by rw[← hfs,yx];simp,fun g hg=>hin g (by simp[hg]),hB5.keep hf,by have h:=hlen3;simp only[lA]at h;show (mB rest').length≤1000000000000;omega,w1,Fr.refl _ _ _,rfl,?_⟩ zp sR
       have hS:=hRd.turn _ w5 w' hS5 ((jv.of hf).mono zp) ((hRd.buf _ _ hS5).keep fun cs hk=>hf.blk hk (.inr zp))
       cases hg1:g.1 with
       |fld f=>
        rw[hg1]at ht0
        exact hRd.skip pre f w' (by rw[← hfs,yx,hg1];exact ⟨kV rest',by simp⟩) hS ht0
       |fix8 k B=>simpa using hS
       |fix4 k B=>simpa using hS
   ·refine jn rfl (fun _ _ h=>qiI qke rfl h) (jK (k:=K15 ?_))
    refine ql rfl (jt (qg (xy (ji ?_))))
    first
    |exact fun w' hH hf=>hKL (rest',o',c',pre++[f]) _ w' ⟨by rw[← hfs,yx,hf1];simp,fun g hg=>hin g (by simp[hg]),hB7.keep hf,by have h:=hlen3;simp only[lA]at h;show (mB rest').length≤1000000000000;omega,w1,Fr.refl _ _ _,rfl,hRd.turn _ w7 w' hS7 ((jv.of hf).mono zp) ((hRd.buf _ _ hS7).keep fun cs hk=>hf.blk hk (.inr zp))⟩ zp ⟨rfl,rfl,rfl,rfl,trivial⟩
    |exact fun w' hH hf=>by
       have ht0:=htk
       refine hKL (rest',o',c',pre++(match g.1 with| .fld f=>[f]|_=>[])) _ w' ⟨by rw[← hfs,yx];simp,fun g hg=>hin g (by simp[hg]),hB5.keep hf,by have h:=hlen3;simp only[lA]at h;show (mB rest').length≤1000000000000;omega,w1,Fr.refl _ _ _,rfl,?_⟩ zp sR
       have hS:=hRd.turn _ w5 w' hS5 ((jv.of hf).mono zp) ((hRd.buf _ _ hS5).keep fun cs hk=>hf.blk hk (.inr zp))
       cases hg1:g.1 with
       |fld f=>
        rw[hg1]at ht0
        exact hRd.skip pre f w' (by rw[← hfs,yx,hg1];exact ⟨kV rest',by simp⟩) hS ht0
       |fix8 k B=>simpa using hS
       |fix4 k B=>simpa using hS
 ·refine jt (K7 (sQ fun K18=>jb (jA (k:=K18 (jj ?_)))))
  exact je Tryz.results105 rfl fun w' hH hf=>⟨rfl,w1,hfr,by
   have hr:rest=[]:=by
    cases rest with
    |nil=>rfl
    |cons g r=>
     have hg0:0<g.2.length:=by
       have:=hm.enc g (hin g zp)
       obtain ⟨g,bs⟩:=g
       exact qhI this
     simp only[mB,List.flatMap_cons,lA]at h23
     omega
   subst hr
   have hp:pre=kV m:=by rw[← hfs];simp[kV]
   rw[← hp]
   exact hRd.turn pre w3 w' hS3 ((jv.of hf).mono zp) ((hRd.buf _ _ hS3).keep fun cs hk=>hf.blk hk (.inr zp))⟩
theorem qcN (w:World) (bb pb T off:Nat) (cs:List Value) (k:Int) (n:Nat) (dv:Value) (tmp:List Value) (hb:Blk w bb qx (yg k 0 n dv tmp)) (hp:Blk w pb T cs) (hT:Nat.beq T qx=false) (ho:off<cs.length):
  Calls Tryz.prog 205 #[ptr bb,.pointer (some ⟨pb,off,none⟩)] w (Ret fun v w'=>v=.nilIface∧Blk w' pb T (kH cs off [.int .i64 (IntKind.i64.wrap (n:Nat))])∧jv [pb] w w'):=by
 have hW:[T].all (fun t=> !Nat.beq t qx)=true:=by simp only[List.all_cons,hT,Bool.not_false,List.all_nil,Bool.and_self]
 have hc0:=mc (f:=⟨w,0,[T]⟩) hb hW
 refine jr (args:=[_,_]) [(0,_),(1,_)] 0 [T] _ func205 rfl ntmps205 rfl rfl (Hp.one hp (Nat.zero_le _) zp) ?_
 refine sQ fun K1=>jb (jA (k:=K1 (sQ fun K2=>sQ fun K3=>jb (jM (k:=?_)))))
 refine kg (φ:=fun v=>v=.nilIface) call117 rfl rfl (fun w3 hH hf=>Jn w3 bb k 0 n dv tmp (jk hf hW _ _ hb)) fun v hv=>?_
 subst hv
 refine jA (k:=K3 (sQ fun K4=>jb (jM (k:=?_))))
 refine jn rfl (fun _ _ h=>xl Jr rfl h) (K4 (jO rfl (jg (K2 (sQ fun K5=>jb (jM (k:=jM (k:=jN (k:=jF 2 qh kU (k:=jL vy hc0 2 (k:=?_)))))))))))
 refine jn rfl (fun _ _ h=>qO xu ru2 rfl h) (jN (k:=?_))
 refine vj (y:=⟨pb,T,cs,true,true,none⟩) (o:=off) 0 rfl rfl rfl rfl so2 rfl rfl rfl rfl (Nat.ble_eq_true_of_le (show off+1≤cs.length by omega)) ?_
 refine K5 (CJ.t [] (k:=sQ fun K6=>jb (jA (k:=K6 (jj ?_)))))
 exact je results205 rfl fun w' hH hf=>⟨rfl,hH.get (i:=0) rfl rfl,Hp.keepX (f:=⟨w,0,[T]⟩) (hH.drop 0) hf⟩
theorem qaz (w:World) (bb pb T off:Nat) (cs:List Value) (k:Int) (n:Nat) (dv:Value) (tmp:List Value) (hb:Blk w bb qx (yg k 0 n dv tmp)) (hp:Blk w pb T cs) (hT:Nat.beq T qx=false) (ho:off<cs.length):
  Calls Tryz.prog 233 #[ptr bb,.pointer (some ⟨pb,off,none⟩)] w (Ret fun v w'=>v=.nilIface∧Blk w' pb T (kH cs off [.int .u64 (n:Nat)])∧jv [pb] w w'):=by
 have hW:[T].all (fun t=> !Nat.beq t qx)=true:=by simp only[List.all_cons,hT,Bool.not_false,List.all_nil,Bool.and_self]
 have hc0:=mc (f:=⟨w,0,[T]⟩) hb hW
 refine jr (args:=[_,_]) [(0,_),(1,_)] 0 [T] _ func233 rfl ntmps233 rfl rfl (Hp.one hp (Nat.zero_le _) zp) ?_
 refine sQ fun K1=>jb (jA (k:=K1 (sQ fun K2=>sQ fun K3=>jb (jM (k:=?_)))))
 refine kg (φ:=fun v=>v=.nilIface) call117 rfl rfl (fun w3 hH hf=>Jn w3 bb _ _ _ _ _ (jk hf hW _ _ hb)) fun v hv=>?_
 subst hv
 refine jA (k:=K3 (sQ fun K4=>jb (jM (k:=?_))))
 refine jn rfl (fun _ _ h=>xl Jr rfl h) (K4 (jO rfl (jg (K2 (sQ fun K5=>jb (jM (k:=jM (k:=jN (k:=jF 2 qh kU (k:=jL vy hc0 2 (k:=jN (k:=?_))))))))))))
 refine vj (y:=⟨pb,T,cs,true,true,none⟩) (o:=off) 0 rfl rfl rfl rfl kU rfl rfl rfl rfl (Nat.ble_eq_true_of_le (show off+1≤cs.length by omega)) ?_
 refine K5 (CJ.t [] (k:=sQ fun K6=>jb (jA (k:=K6 (jj ?_)))))
 exact je results233 rfl fun w' hH hf=>⟨rfl,hH.get (i:=0) rfl rfl,Hp.keepX (f:=⟨w,0,[T]⟩) (hH.drop 0) hf⟩
theorem qdW {n:Nat} (hn:n<18446744073709551616):IntKind.i64.wrap (n:Nat)=0↔n=0:=by
 simp[IntKind.wrap,IntKind.bits,IntKind.signed];omega
theorem qjO (w:World) (bb pb T off:Nat) (cs:List Value) (k:Int) (n:Nat) (dv:Value) (tmp:List Value) (hb:Blk w bb qx (yg k 0 n dv tmp)) (hp:Blk w pb T cs) (hT:Nat.beq T qx=false) (ho:off<cs.length) (hn:n<18446744073709551616):
  Calls Tryz.prog 240 #[ptr bb,.pointer (some ⟨pb,off,none⟩)] w (Ret fun v w'=>v=.nilIface∧Blk w' pb T (kH cs off [.bool (decide (n≠0))])∧jv [pb] w w'):=by
 have hW:[T].all (fun t=> !Nat.beq t qx)=true:=by simp only[List.all_cons,hT,Bool.not_false,List.all_nil,Bool.and_self]
 have hc0:=mc (f:=⟨w,0,[T]⟩) hb hW
 refine jr (args:=[_,_]) [(0,_),(1,_)] 0 [T] _ func240 rfl ntmps240 rfl rfl (Hp.one hp (Nat.zero_le _) zp) ?_
 refine sQ fun K1=>jb (jA (k:=K1 (sQ fun K2=>sQ fun K3=>jb (jM (k:=?_)))))
 refine kg (φ:=fun v=>v=.nilIface) call117 rfl rfl (fun w3 hH hf=>Jn w3 bb _ _ _ _ _ (jk hf hW _ _ hb)) fun v hv=>?_
 subst hv
 refine jA (k:=K3 (sQ fun K4=>jb (jM (k:=?_))))
 refine jn rfl (fun _ _ h=>xl Jr rfl h) (K4 (jO rfl (jg (K2 (sQ fun K5=>sQ fun K6=>jb (jM (k:=jN (k:=jF 2 qh kU (k:=jL vy hc0 2 (k:=?_))))))))))
 refine jn rfl (fun _ _ h=>qO xu ru2 rfl h) (jQ (k:=K6 (CJ.t [(1,_),(16,_)] (k:=?_))))
 refine jq rfl (fun h16=>?_) (fun h16=>?_)
 ·have hz:decide (n≠0)=false:=decide_eq_false (by have:=(qdW hn).1 h16;omega)
  refine jb (jM (k:=jN (k:=?_)))
  refine vj (y:=⟨pb,T,cs,true,true,none⟩) (o:=off) 0 rfl rfl rfl rfl so4 rfl rfl rfl rfl (Nat.ble_eq_true_of_le (show off+1≤cs.length by omega)) ?_
  refine K5 (sQ fun K7=>jb (jA (k:=K7 (jj ?_))))
  exact je results240 rfl fun w' hH hf=>⟨rfl,by rw[hz];exact hH.get (i:=0) rfl rfl,Hp.keepX (f:=⟨w,0,[T]⟩) (hH.drop 0) hf⟩
 ·have hz:decide (n≠0)=true:=decide_eq_true (fun h=>h16 ((qdW hn).2 h))
  refine jb (jM (k:=jN (k:=?_)))
  refine vj (y:=⟨pb,T,cs,true,true,none⟩) (o:=off) 0 rfl rfl rfl rfl so4 rfl rfl rfl rfl (Nat.ble_eq_true_of_le (show off+1≤cs.length by omega)) ?_
  refine K5 (sQ fun K8=>jb (jA (k:=K8 (jj ?_))))
  exact je results240 rfl fun w' hH hf=>⟨rfl,by rw[hz];exact hH.get (i:=0) rfl rfl,Hp.keepX (f:=⟨w,0,[T]⟩) (hH.drop 0) hf⟩
theorem qfJ (w:World) (bb pb T off:Nat) (cs:List Value) (k u:Int) (b o c:Nat) (D:List Nat) (s:ByteArray) (tmp:List Value) (hb:Blk w bb qx (yg k 2 u (.slice (some ⟨b,o,none⟩) D.length c) tmp)) (hp:Blk w pb T cs) (hT:Nat.beq T qx=false) (ho:off<cs.length) (hB:Bys w b o c D) (hs:sB s=D) (hT8:Nat.beq T tU8=false):
  Calls Tryz.prog 217 #[ptr bb,.pointer (some ⟨pb,off,none⟩)] w (Ret fun v w'=>v=.nilIface∧Blk w' pb T (kH cs off [.string s])∧jv [pb] w w'):=by
 have hW:[T].all (fun t=> !Nat.beq t qx)=true:=by simp only[List.all_cons,hT,Bool.not_false,List.all_nil,Bool.and_self]
 have hW8:[T].all (fun t=> !Nat.beq t tU8)=true:=by simp only[List.all_cons,hT8,Bool.not_false,List.all_nil,Bool.and_self]
 have hc0:=mc (f:=⟨w,0,[T]⟩) hb hW
 refine jr (args:=[_,_]) [(0,_),(1,_)] 0 [T] _ func217 rfl ntmps217 rfl rfl (Hp.one hp (Nat.zero_le _) zp) ?_
 refine sQ fun K1=>jb (jA (k:=K1 (sQ fun K2=>sQ fun K3=>jb (jM (k:=?_)))))
 refine kg (φ:=fun v=>v=.nilIface) call117 rfl rfl (fun w3 hH hf=>Jn w3 bb _ _ _ _ _ (jk hf hW _ _ hb)) fun v hv=>?_
 subst hv
 refine jA (k:=K3 (sQ fun K4=>jb (jM (k:=?_))))
 refine jn rfl (fun _ _ h=>xl Jr rfl h) (K4 (jO rfl (jg (K2 (sQ fun K5=>jb (jM (k:=jM (k:=jN (k:=jF 3 qh ye (k:=jL JN hc0 3 (k:=?_)))))))))))
 refine jp rfl (fun a w1 ha hH hf=>r_b2s (s:=s) ud36 ud5 ud9 rfl (by rw[hs]) (fun j kk hj=>(hB.mono (jk hf hW8)).at_ j kk (by rw[← hs];exact hj)) ha) ?_
 refine jN (k:=?_)
 refine vj (y:=⟨pb,T,cs,true,true,none⟩) (o:=off) 0 rfl rfl rfl rfl so9 rfl rfl rfl rfl (Nat.ble_eq_true_of_le (show off+1≤cs.length by omega)) ?_
 refine K5 (CJ.t [] (k:=sQ fun K6=>jb (jA (k:=K6 (jj ?_)))))
 exact je results217 rfl fun w' hH hf=>⟨rfl,hH.get (i:=0) rfl rfl,Hp.keepX (f:=⟨w,0,[T]⟩) (hH.drop 0) hf⟩
abbrev vI (n:Nat):Value:=.int .i64 (IntKind.i64.wrap (n:Nat))
abbrev vU (n:Nat):Value:=.int .u64 (n:Nat)
abbrev vB (n:Nat):Value:=.bool (decide (n≠0))
theorem Own.all {b:Nat} {cs:List Value}:Own T 1 ⟨b,T,cs,true,true,none⟩ (some ⟨b,0,none⟩) cs.length cs.length cs:=⟨rfl,rfl,rfl,by simp,Nat.le_refl _,.inl ⟨rfl,rfl,⟨[],by simp⟩,by simp⟩⟩
def qjY (T:Nat) (h:FuncId) (val:Nat→Value):Prop:=∀(w:World) (bb pb o k n:Nat) (cs tmp:List Value),n<18446744073709551616→Blk w bb qx (yg (k:Nat) 0 n (.slice none 0 0) tmp)→Blk w pb T cs→o<cs.length→
 Calls Tryz.prog h #[ptr bb,.pointer (some ⟨pb,o,none⟩)] w (Ret fun v w'=>v=.nilIface∧Blk w' pb T (kH cs o [val n])∧jv [pb] w w')
theorem cI (hT:Nat.beq T qx=false):qjY T 205 vI:=fun w bb pb _ _ _ _ _ _ hb hp ho=>qcN w bb pb _ _ _ _ _ _ _ hb hp hT ho
theorem cU (hT:Nat.beq T qx=false):qjY T 233 vU:=fun w bb pb _ _ _ _ _ _ hb hp ho=>qaz w bb pb _ _ _ _ _ _ _ hb hp hT ho
theorem cB (hT:Nat.beq T qx=false):qjY T 240 vB:=fun w bb pb _ _ _ _ _ hn hb hp ho=>qjO w bb pb _ _ _ _ _ _ _ hb hp hT ho hn
theorem qp {iT sT g h off fi ft x0 k0 k1 y0 y1 y2 y3 y4 y5 y6 y7:Nat} {p0 p1 p2 p3 p4 p5 p6 p7:String} {z0 z1 z2 z3 z4 z5 z6 z7:Array Edge} {tys:Array TypeId} {fn:Func} {fs:Array Field} {sz te:Nat} {val:Nat→Value} (hf:Tryz.prog.funcs[g]? =some fn)
  (hb:fn.body=some (.seq (.region k0 #[⟨some 4,.assign (.const .nilIface),y0,p0,z0,none⟩] false) (.seq (.region k1 #[⟨some 5,.move (.tmp 0),y1,p1,z1,none⟩,⟨some 6,.move (.tmp 1),y2,p2,z2,none⟩,⟨some 7,.typeAssert (.tmp 6) x0 iT false,y3,p3,z3,none⟩,⟨some 8,.nilCheck (.tmp 7),y4,p4,z4,none⟩,⟨some 9,.fieldAddr sT (.tmp 8) fi,y5,p5,z5,none⟩,⟨some 10,.call ⟨.value (.func h), #[.tmp 5,.tmp 9],tys⟩,y6,p6,z6,none⟩,⟨some 4,.assign (.tmp 10),y7,p7,z7,none⟩] false) .ret)))
  (hm:fn.ntmps=11) (hr:fn.results= #[.tmp 4]) (hu:∀w,(underlying iT).run Tryz.prog w=.ok (.pointer te) w) (hs:∀w,(underlying sT).run Tryz.prog w=.ok (.struct fs) w) (hq:(fs[fi]?).map (fun x=>(x.offset,x.type))=some (off,ft)) (hz:∀w,(sizeOf ft).run Tryz.prog w=.ok (sz+1) w)
  (hg:∀(az:Array Value) (w:World),(callFunc h az).run Tryz.prog w=.ok (.enter h az) w) (hc:qjY T h val):xh T iT g off val:=by
 intro w bb pb o k n cs tmp hn hb' hp ho
 refine jr (args:=[_,_]) [(0,_),(1,_)] 0 [] [] hf hb hm rfl rfl .nil ?_
 refine sQ fun K1=>jb (jA (k:=K1 (sQ fun K2=>jb (jM (k:=jM (k:=?_))))))
 refine jn rfl (fun _ _ h=>xM hu rfl h) (jN (k:=?_))
 refine jn rfl (fun _ _ h=>xR (q:=off) (ft:=ft) hs hq hz rfl h) ?_
 refine kQ (R:=fun w1 v w'=>v=.nilIface∧Blk w' pb T (kH cs (o+off) [val n])∧jv [pb] w1 w') hg rfl rfl (fun w1 hH hf=>hc w1 bb pb _ _ _ _ _ hn (hf.blk hb' (.inr zp)) (hf.blk hp (.inr zp)) ho) fun w1 v w2 hH1 hf1 hR=>?_
 obtain ⟨rfl,hb2,hk2⟩:=hR
 have hk:jv [pb] w w2:=hk2.afterF hf1
 refine J.begin ⟨w2,0,[]⟩ [] jx .nil ?_
 refine jA (k:=K2 (jj ?_))
 exact je hr rfl fun w' hH hf=>⟨rfl,hf.blk hb2 (.inr zp),hk.thenF hf⟩
abbrev ivt:Nat:=123
theorem vt1_s:xh tVT ivt 225 2 vI:=qp func225 rfl ntmps225 results225 YZ xF rfl so2 call205 (cI rfl)
theorem vt2_s:xh tVT ivt 226 3 vI:=qp func226 rfl ntmps226 results226 YZ xF rfl so2 call205 (cI rfl)
abbrev ilb:Nat:=315
theorem lb1_s:xh vq ilb 273 0 vI:=qp func273 rfl ntmps273 results273 qed QO rfl so2 call205 (cI rfl)
theorem lb2_s:xh vq ilb 274 1 vI:=qp func274 rfl ntmps274 results274 qed QO rfl so2 call205 (cI rfl)
theorem lb3_s:xh vq ilb 275 2 vI:=qp func275 rfl ntmps275 results275 qed QO rfl so2 call205 (cI rfl)
abbrev imp:Nat:=128
theorem mp1_s:xh vO imp 232 0 vU:=qp func232 rfl ntmps232 results232 Qv vg rfl kU call233 (cU rfl)
theorem mp2_s:xh vO imp 234 1 vU:=qp func234 rfl ntmps234 results234 Qv vg rfl kU call233 (cU rfl)
theorem mp3_s:xh vO imp 235 2 vU:=qp func235 rfl ntmps235 results235 Qv vg rfl kU call233 (cU rfl)
theorem mp4_s:xh vO imp 236 3 vU:=qp func236 rfl ntmps236 results236 Qv vg rfl kU call233 (cU rfl)
theorem mp5_s:xh vO imp 237 10 vI:=qp func237 rfl ntmps237 results237 Qv vg rfl so2 call205 (cI rfl)
theorem mp6_s:xh vO imp 238 11 vI:=qp func238 rfl ntmps238 results238 Qv vg rfl so2 call205 (cI rfl)
theorem mp7_s:xh vO imp 239 6 vB:=qp func239 rfl ntmps239 results239 Qv vg rfl so4 call240 (cB rfl)
theorem mp8_s:xh vO imp 241 7 vB:=qp func241 rfl ntmps241 results241 Qv vg rfl so4 call240 (cB rfl)
theorem mp9_s:xh vO imp 242 8 vB:=qp func242 rfl ntmps242 results242 Qv vg rfl so4 call240 (cB rfl)
theorem qlm:xh vO imp 243 9 vB:=qp func243 rfl ntmps243 results243 Qv vg rfl so4 call240 (cB rfl)
abbrev iln:Nat:=311
theorem ln1_s:xh kq iln 281 2 vU:=qp func281 rfl ntmps281 results281 qee Jj rfl kU call233 (cU rfl)
theorem ln2_s:xh kq iln 282 1 vI:=qp func282 rfl ntmps282 results282 qee Jj rfl so2 call205 (cI rfl)
abbrev ifn:Nat:=131
theorem fn1_s:xh xi ifn 248 0 vU:=qp func248 rfl ntmps248 results248 YY xc rfl kU call233 (cU rfl)
theorem fn2_s:xh xi ifn 249 5 vI:=qp func249 rfl ntmps249 results249 YY xc rfl so2 call205 (cI rfl)
theorem fn3_s:xh xi ifn 250 6 vI:=qp func250 rfl ntmps250 results250 YY xc rfl so2 call205 (cI rfl)
theorem fn4_s:xh xi ifn 251 7 vI:=qp func251 rfl ntmps251 results251 YY xc rfl so2 call205 (cI rfl)
theorem fn5_s:xh xi ifn 252 4 vI:=qp func252 rfl ntmps252 results252 YY xc rfl so2 call205 (cI rfl)
abbrev ilc:Nat:=134
theorem lc1_s:xh qH ilc 256 0 vU:=qp func256 rfl ntmps256 results256 qag vc rfl kU call233 (cU rfl)
theorem lc2_s:xh qH ilc 257 5 vU:=qp func257 rfl ntmps257 results257 qag vc rfl kU call233 (cU rfl)
theorem lc3_s:xh qH ilc 258 2 vU:=qp func258 rfl ntmps258 results258 qag vc rfl kU call233 (cU rfl)
abbrev ipf:Nat:=59
theorem pf7_s:xh ju ipf 204 14 vI:=qp func204 rfl ntmps204 results204 QM jz rfl so2 call205 (cI rfl)
theorem pf8_s:xh ju ipf 206 15 vI:=qp func206 rfl ntmps206 results206 QM jz rfl so2 call205 (cI rfl)
theorem pf9_s:xh ju ipf 207 9 vI:=qp func207 rfl ntmps207 results207 QM jz rfl so2 call205 (cI rfl)
theorem qlj:xh ju ipf 208 10 vI:=qp func208 rfl ntmps208 results208 QM jz rfl so2 call205 (cI rfl)
theorem qli:xh ju ipf 210 12 vI:=qp func210 rfl ntmps210 results210 QM jz rfl so2 call205 (cI rfl)
theorem qlg:xh ju ipf 213 17 vI:=qp func213 rfl ntmps213 results213 QM jz rfl so2 call205 (cI rfl)
def Dsl (ds:List Value) (w:World) (v:Value) (w':World):Prop:=(∃y p c,v=.slice p ds.length c∧Own Jy 1 y p ds.length c ds∧(y.on=true→Blk w' y.b Jy y.cs))∧Fr 0 [] w w'
theorem Dsl.fr {w2:World} (h:Dsl ds w v w1) (k:Fr 0 [] w1 w2):Dsl ds w v w2:=by
 obtain ⟨⟨y,p,c,h1,h2,h3⟩,h4⟩:=h
 exact ⟨⟨y,p,c,h1,h2,fun ho=>k.blk (h3 ho) (.inr zp)⟩,frQ h4 k⟩
theorem Dsl.after {w2:World} (k:Fr 0 [] w w1) (h:Dsl ds w1 v w2):Dsl ds w v w2:=⟨h.1,frQ k h.2⟩
abbrev qaN:List Value:=[.nilFunc,.func (.func 225) #[] #[],.func (.func 226) #[] #[]]
theorem qiv (w:World):Calls Tryz.prog 224 #[] w (Ret fun v w'=>Dsl qaN w v w'):=by
 refine jr (args:=[]) [] 0 [] [] func224 rfl ntmps224 rfl rfl .nil ?_
 refine sQ fun K1=>jb (jA (k:=K1 (sQ fun K2=>jb ?_)))
 refine zy (vals:=[(0,.nilFunc),(1,.func (.func 225) #[] #[]),(2,.func (.func 226) #[] #[])]) (cells:=qaN.toArray) QN VD Yd rfl rfl rfl (by kernel_rfl) rfl fun bt=>?_
 refine jA (k:=K2 (jj ?_))
 exact je results224 rfl fun w' hH hf=>⟨⟨⟨bt,Jy,qaN,true,true,none⟩,_,_,rfl,Own.all,fun _=>hH.get (i:=0) rfl rfl⟩,hf⟩
theorem qix (w:World) (v0:Value):Calls Tryz.prog 222 #[v0] w (Ret fun v w'=>Dsl qaN w v w'):=by
 refine jr (args:=[_]) [(0,_)] 0 [] [] func222 rfl ntmps222 rfl rfl .nil ?_
 refine sQ fun K1=>jb (jA (k:=K1 (sQ fun K2=>jb ?_)))
 refine kQ (R:=fun w1 v w'=>Dsl qaN w1 v w') call224 rfl rfl (fun w1 hH hf=>qiv w1) fun w1 v w2 hH1 hf1 hR=>?_
 have hD:=hR.after hf1
 refine J.begin ⟨w2,0,[]⟩ [] jx .nil ?_
 refine jA (k:=K2 (jj ?_))
 exact je results222 rfl fun w' hH hf=>hD.fr hf
theorem qgj (w:World) (v0:Value):VQ ivt v0 qaN w:=⟨222, #[v0],by kernel_rfl,qix w v0⟩
abbrev qbl:List Value:=[.nilFunc,.func (.func 273) #[] #[],.func (.func 274) #[] #[],.func (.func 275) #[] #[]]
theorem qjq (w:World):Calls Tryz.prog 272 #[] w (Ret fun v w'=>Dsl qbl w v w'):=by
 refine jr (args:=[]) [] 0 [] [] func272 rfl ntmps272 rfl rfl .nil ?_
 refine sQ fun K1=>jb (jA (k:=K1 (sQ fun K2=>jb ?_)))
 refine zy (vals:=[(0,.nilFunc),(1,.func (.func 273) #[] #[]),(2,.func (.func 274) #[] #[]),(3,.func (.func 275) #[] #[])]) (cells:=qbl.toArray) QN VD Yd rfl rfl rfl (by kernel_rfl) rfl fun bt=>?_
 refine jA (k:=K2 (jj ?_))
 exact je results272 rfl fun w' hH hf=>⟨⟨⟨bt,Jy,qbl,true,true,none⟩,_,_,rfl,Own.all,fun _=>hH.get (i:=0) rfl rfl⟩,hf⟩
theorem qju (w:World) (v0:Value):Calls Tryz.prog 270 #[v0] w (Ret fun v w'=>Dsl qbl w v w'):=by
 refine jr (args:=[_]) [(0,_)] 0 [] [] func270 rfl ntmps270 rfl rfl .nil ?_
 refine sQ fun K1=>jb ?_
 refine qkq rfl rfl fun b1=>?_
 refine jA (k:=K1 (sQ fun K2=>jb ?_))
 refine kQ (R:=fun w1 v w'=>Dsl qbl w1 v w') call272 rfl rfl (fun w1 hH hf=>qjq w1) fun w1 v w2 hH1 hf1 hR=>?_
 have hD:=hR.after hf1
 refine J.begin ⟨w2,0,[]⟩ [] jx .nil ?_
 refine jA (k:=K2 (jj ?_))
 exact je results270 rfl fun w' hH hf=>hD.fr hf
theorem qjp (w:World) (pb o:Nat):(callMethod (.iface ilb (.pointer (some ⟨pb,o,none⟩))) "loop.example/pub-profileroads/pub/goprofile.decoder" #[]).run Tryz.prog w=(loadVar vq ⟨pb,o,none⟩>>=fun v=>pure (Next.enter 270 #[v])).run Tryz.prog w:=by kernel_rfl
theorem qhm (w:World) (pb o:Nat) (vs cs:List Value) (h:Blk w pb vq cs) (hl:vs.length=3) (hc:(cs.drop o).take 3=vs):VQ ilb (.pointer (some ⟨pb,o,none⟩)) qbl w:=by
 refine ⟨270, #[.agg vs.toArray],?_,qju w _⟩
 have h1:=Go.Fw.vX (P:=Tryz.prog) (b:=pb) w vs o (by subst hc;exact h.mid o 3)
 rw[qjp]
 simp[loadVar,qeK,Qt, ← hl,h1]
abbrev qbi:List Value:=[.nilFunc,.func (.func 232) #[] #[],.func (.func 234) #[] #[],.func (.func 235) #[] #[],.func (.func 236) #[] #[],.func (.func 237) #[] #[],.func (.func 238) #[] #[],.func (.func 239) #[] #[],.func (.func 241) #[] #[],.func (.func 242) #[] #[],.func (.func 243) #[] #[]]
theorem qiW (w:World):Calls Tryz.prog 229 #[] w (Ret fun v w'=>Dsl qbi w v w'):=by
 refine jr (args:=[]) [] 0 [] [] func229 rfl ntmps229 rfl rfl .nil ?_
 refine sQ fun K1=>jb (jA (k:=K1 (sQ fun K2=>jb ?_)))
 refine zy (vals:=[(0,.nilFunc),(1,.func (.func 232) #[] #[]),(2,.func (.func 234) #[] #[]),(3,.func (.func 235) #[] #[]),(4,.func (.func 236) #[] #[]),(5,.func (.func 237) #[] #[]),(6,.func (.func 238) #[] #[]),(7,.func (.func 239) #[] #[]),(8,.func (.func 241) #[] #[]),(9,.func (.func 242) #[] #[]),(10,.func (.func 243) #[] #[])]) (cells:=qbi.toArray) QN VD Yd rfl rfl rfl (by kernel_rfl) rfl fun bt=>?_
 refine jA (k:=K2 (jj ?_))
 exact je results229 rfl fun w' hH hf=>⟨⟨⟨bt,Jy,qbi,true,true,none⟩,_,_,rfl,Own.all,fun _=>hH.get (i:=0) rfl rfl⟩,hf⟩
theorem qiZ (w:World) (v0:Value):Calls Tryz.prog 227 #[v0] w (Ret fun v w'=>Dsl qbi w v w'):=by
 refine jr (args:=[_]) [(0,_)] 0 [] [] func227 rfl ntmps227 rfl rfl .nil ?_
 refine sQ fun K1=>jb (jA (k:=K1 (sQ fun K2=>jb ?_)))
 refine kQ (R:=fun w1 v w'=>Dsl qbi w1 v w') call229 rfl rfl (fun w1 hH hf=>qiW w1) fun w1 v w2 hH1 hf1 hR=>?_
 have hD:=hR.after hf1
 refine J.begin ⟨w2,0,[]⟩ [] jx .nil ?_
 refine jA (k:=K2 (jj ?_))
 exact je results227 rfl fun w' hH hf=>hD.fr hf
theorem qgU (w:World) (v0:Value):VQ imp v0 qbi w:=⟨227, #[v0],by kernel_rfl,qiZ w v0⟩
abbrev qbj:List Value:=[.nilFunc,.func (.func 281) #[] #[],.func (.func 282) #[] #[]]
theorem qje (w:World):Calls Tryz.prog 280 #[] w (Ret fun v w'=>Dsl qbj w v w'):=by
 refine jr (args:=[]) [] 0 [] [] func280 rfl ntmps280 rfl rfl .nil ?_
 refine sQ fun K1=>jb (jA (k:=K1 (sQ fun K2=>jb ?_)))
 refine zy (vals:=[(0,.nilFunc),(1,.func (.func 281) #[] #[]),(2,.func (.func 282) #[] #[])]) (cells:=qbj.toArray) QN VD Yd rfl rfl rfl (by kernel_rfl) rfl fun bt=>?_
 refine jA (k:=K2 (jj ?_))
 exact je results280 rfl fun w' hH hf=>⟨⟨⟨bt,Jy,qbj,true,true,none⟩,_,_,rfl,Own.all,fun _=>hH.get (i:=0) rfl rfl⟩,hf⟩
theorem qjh (w:World) (v0:Value):Calls Tryz.prog 278 #[v0] w (Ret fun v w'=>Dsl qbj w v w'):=by
 refine jr (args:=[_]) [(0,_)] 0 [] [] func278 rfl ntmps278 rfl rfl .nil ?_
 refine sQ fun K1=>jb (jA (k:=K1 (sQ fun K2=>jb ?_)))
 refine kQ (R:=fun w1 v w'=>Dsl qbj w1 v w') call280 rfl rfl (fun w1 hH hf=>qje w1) fun w1 v w2 hH1 hf1 hR=>?_
 have hD:=hR.after hf1
 refine J.begin ⟨w2,0,[]⟩ [] jx .nil ?_
 refine jA (k:=K2 (jj ?_))
 exact je results278 rfl fun w' hH hf=>hD.fr hf
theorem qhe (w:World) (v0:Value):VQ iln v0 qbj w:=⟨278, #[v0],by kernel_rfl,qjh w v0⟩
abbrev qbs:List Value:=[.nilFunc,.func (.func 248) #[] #[],.func (.func 249) #[] #[],.func (.func 250) #[] #[],.func (.func 251) #[] #[],.func (.func 252) #[] #[]]
theorem qjD (w:World):Calls Tryz.prog 247 #[] w (Ret fun v w'=>Dsl qbs w v w'):=by
 refine jr (args:=[]) [] 0 [] [] func247 rfl ntmps247 rfl rfl .nil ?_
 refine sQ fun K1=>jb (jA (k:=K1 (sQ fun K2=>jb ?_)))
 refine zy (vals:=[(0,.nilFunc),(1,.func (.func 248) #[] #[]),(2,.func (.func 249) #[] #[]),(3,.func (.func 250) #[] #[]),(4,.func (.func 251) #[] #[]),(5,.func (.func 252) #[] #[])]) (cells:=qbs.toArray) QN VD Yd rfl rfl rfl (by kernel_rfl) rfl fun bt=>?_
 refine jA (k:=K2 (jj ?_))
 exact je results247 rfl fun w' hH hf=>⟨⟨⟨bt,Jy,qbs,true,true,none⟩,_,_,rfl,Own.all,fun _=>hH.get (i:=0) rfl rfl⟩,hf⟩
theorem qjG (w:World) (v0:Value):Calls Tryz.prog 245 #[v0] w (Ret fun v w'=>Dsl qbs w v w'):=by
 refine jr (args:=[_]) [(0,_)] 0 [] [] func245 rfl ntmps245 rfl rfl .nil ?_
 refine sQ fun K1=>jb (jA (k:=K1 (sQ fun K2=>jb ?_)))
 refine kQ (R:=fun w1 v w'=>Dsl qbs w1 v w') call247 rfl rfl (fun w1 hH hf=>qjD w1) fun w1 v w2 hH1 hf1 hR=>?_
 have hD:=hR.after hf1
 refine J.begin ⟨w2,0,[]⟩ [] jx .nil ?_
 refine jA (k:=K2 (jj ?_))
 exact je results245 rfl fun w' hH hf=>hD.fr hf
theorem qhL (w:World) (v0:Value):VQ ifn v0 qbs w:=⟨245, #[v0],by kernel_rfl,qjG w v0⟩
abbrev qcv:List Value:=[.nilFunc,.func (.func 256) #[] #[],.func (.func 257) #[] #[],.func (.func 258) #[] #[],.func (.func 259) #[] #[]]
theorem qjk (w:World):Calls Tryz.prog 255 #[] w (Ret fun v w'=>Dsl qcv w v w'):=by
 refine jr (args:=[]) [] 0 [] [] func255 rfl ntmps255 rfl rfl .nil ?_
 refine sQ fun K1=>jb (jA (k:=K1 (sQ fun K2=>jb ?_)))
 refine zy (vals:=[(0,.nilFunc),(1,.func (.func 256) #[] #[]),(2,.func (.func 257) #[] #[]),(3,.func (.func 258) #[] #[]),(4,.func (.func 259) #[] #[])]) (cells:=qcv.toArray) QN VD Yd rfl rfl rfl (by kernel_rfl) rfl fun bt=>?_
 refine jA (k:=K2 (jj ?_))
 exact je results255 rfl fun w' hH hf=>⟨⟨⟨bt,Jy,qcv,true,true,none⟩,_,_,rfl,Own.all,fun _=>hH.get (i:=0) rfl rfl⟩,hf⟩
theorem qjn (w:World) (v0:Value):Calls Tryz.prog 253 #[v0] w (Ret fun v w'=>Dsl qcv w v w'):=by
 refine jr (args:=[_]) [(0,_)] 0 [] [] func253 rfl ntmps253 rfl rfl .nil ?_
 refine sQ fun K1=>jb (jA (k:=K1 (sQ fun K2=>jb ?_)))
 refine kQ (R:=fun w1 v w'=>Dsl qcv w1 v w') call255 rfl rfl (fun w1 hH hf=>qjk w1) fun w1 v w2 hH1 hf1 hR=>?_
 have hD:=hR.after hf1
 refine J.begin ⟨w2,0,[]⟩ [] jx .nil ?_
 refine jA (k:=K2 (jj ?_))
 exact je results253 rfl fun w' hH hf=>hD.fr hf
theorem qhk (w:World) (v0:Value):VQ ilc v0 qcv w:=⟨253, #[v0],by kernel_rfl,qjn w v0⟩
abbrev qcl:List Value:=[.nilFunc,.func (.func 197) #[] #[],.func (.func 198) #[] #[],.func (.func 199) #[] #[],.func (.func 200) #[] #[],.func (.func 201) #[] #[],.func (.func 202) #[] #[],.func (.func 204) #[] #[],.func (.func 206) #[] #[],.func (.func 207) #[] #[],.func (.func 208) #[] #[],.func (.func 209) #[] #[],.func (.func 210) #[] #[],.func (.func 211) #[] #[],.func (.func 213) #[] #[]]
theorem qiL (w:World):Calls Tryz.prog 193 #[] w (Ret fun v w'=>Dsl qcl w v w'):=by
 refine jr (args:=[]) [] 0 [] [] func193 rfl ntmps193 rfl rfl .nil ?_
 refine sQ fun K1=>jb (jA (k:=K1 (sQ fun K2=>jb ?_)))
 refine zy (vals:=[(0,.nilFunc),(1,.func (.func 197) #[] #[]),(2,.func (.func 198) #[] #[]),(3,.func (.func 199) #[] #[]),(4,.func (.func 200) #[] #[]),(5,.func (.func 201) #[] #[]),(6,.func (.func 202) #[] #[]),(7,.func (.func 204) #[] #[]),(8,.func (.func 206) #[] #[]),(9,.func (.func 207) #[] #[]),(10,.func (.func 208) #[] #[]),(11,.func (.func 209) #[] #[]),(12,.func (.func 210) #[] #[]),(13,.func (.func 211) #[] #[]),(14,.func (.func 213) #[] #[])]) (cells:=qcl.toArray) QN VD Yd rfl rfl rfl (by kernel_rfl) rfl fun bt=>?_
 refine jA (k:=K2 (jj ?_))
 exact je results193 rfl fun w' hH hf=>⟨⟨⟨bt,Jy,qcl,true,true,none⟩,_,_,rfl,Own.all,fun _=>hH.get (i:=0) rfl rfl⟩,hf⟩
theorem qiP (w:World) (v0:Value):Calls Tryz.prog 191 #[v0] w (Ret fun v w'=>Dsl qcl w v w'):=by
 refine jr (args:=[_]) [(0,_)] 0 [] [] func191 rfl ntmps191 rfl rfl .nil ?_
 refine sQ fun K1=>jb (jA (k:=K1 (sQ fun K2=>jb ?_)))
 refine kQ (R:=fun w1 v w'=>Dsl qcl w1 v w') call193 rfl rfl (fun w1 hH hf=>qiL w1) fun w1 v w2 hH1 hf1 hR=>?_
 have hD:=hR.after hf1
 refine J.begin ⟨w2,0,[]⟩ [] jx .nil ?_
 refine jA (k:=K2 (jj ?_))
 exact je results191 rfl fun w' hH hf=>hD.fr hf
theorem qgP (w:World) (v0:Value):VQ ipf v0 qcl w:=⟨191, #[v0],by kernel_rfl,qiP w v0⟩
abbrev qbP:List Value:=[.nilFunc,.func (.func 264) #[] #[],.func (.func 266) #[] #[],.func (.func 267) #[] #[]]
theorem qiz (w:World):Calls Tryz.prog 262 #[] w (Ret fun v w'=>Dsl qbP w v w'):=by
 refine jr (args:=[]) [] 0 [] [] func262 rfl ntmps262 rfl rfl .nil ?_
 refine sQ fun K1=>jb (jA (k:=K1 (sQ fun K2=>jb ?_)))
 refine zy (vals:=[(0,.nilFunc),(1,.func (.func 264) #[] #[]),(2,.func (.func 266) #[] #[]),(3,.func (.func 267) #[] #[])]) (cells:=qbP.toArray) QN VD Yd rfl rfl rfl (by kernel_rfl) rfl fun bt=>?_
 refine jA (k:=K2 (jj ?_))
 exact je results262 rfl fun w' hH hf=>⟨⟨⟨bt,Jy,qbP,true,true,none⟩,_,_,rfl,Own.all,fun _=>hH.get (i:=0) rfl rfl⟩,hf⟩
theorem qiC (w:World) (v0:Value):Calls Tryz.prog 260 #[v0] w (Ret fun v w'=>Dsl qbP w v w'):=by
 refine jr (args:=[_]) [(0,_)] 0 [] [] func260 rfl ntmps260 rfl rfl .nil ?_
 refine sQ fun K1=>jb (jA (k:=K1 (sQ fun K2=>jb ?_)))
 refine kQ (R:=fun w1 v w'=>Dsl qbP w1 v w') call262 rfl rfl (fun w1 hH hf=>qiz w1) fun w1 v w2 hH1 hf1 hR=>?_
 have hD:=hR.after hf1
 refine J.begin ⟨w2,0,[]⟩ [] jx .nil ?_
 refine jA (k:=K2 (jj ?_))
 exact je results260 rfl fun w' hH hf=>hD.fr hf
abbrev ism:Nat:=142
theorem qgy (w:World) (v0:Value):VQ ism v0 qbP w:=⟨260, #[v0],by kernel_rfl,qiC w v0⟩
end Go.Proofs.YtifdadlhmlhfiaaGreatDoor
