/-
  Part 5 of the proof. Conditions: as each lemma states them.
-/
import Derived.Test.YtffghbkcomlefaaGreatDoorX4
import Derived.Lib.LazyBuf
namespace Go.Proofs
open Go Go.Fw Go.Proofs.YtffghbkcomlefaaGreatDoor Go.Shelf Go.RowKit Go.Lib Go.Sort
variable {T n:Nat} {w:World}
def cmpB (x y:ByteArray):Int:=if ltB x y=true then -1 else if (ltB x y||decide (x=y))=true then 0 else 1
theorem run_sgtr {P:Program} (x y:ByteArray) (W:World):Sem.run P (binOp BinOp.gtr 9 (Value.string x) (Value.string y)) W=.ok (.bool (!(ltB x y||decide (x=y)))) W:=by
 simp[binOp,Op.stringOp,ltB,ba_eq]
set_option maxHeartbeats 1000000 in
theorem YtffghbkcomlefaaGreatDoor.compared_c (x y:ByteArray) (W:World):Calls Tryz.prog 57 #[.string x,.string y] W fun e w'=>e=.returned (.int .i64 (cmpB x y))∧w'=W:=by
 go_enter Tryz.func57,Tryz.ntmps57
 go_wp2
 ·go_ret
  have h:ltB x y=true:= ‹_›
  simp[cmpB,h]
 ·rw[run_sgtr]
  have h:ltB x y=false:= ‹_›
  go_wp2
  ·go_ret
   have h2:(!decide (x=y))=true:= ‹_›
   simp at h2
   simp[cmpB,h,h2]
  ·go_ret
   have h2:(!decide (x=y))=false:= ‹_›
   simp at h2
   subst h2
   simp[cmpB,h]
set_option maxHeartbeats 1000000 in
theorem YtffghbkcomlefaaGreatDoor.clo1_c (x y:ByteArray) (p q:Option Addr) (l c m d:Nat) (W:World):Calls Tryz.prog 56 #[.agg #[.string x,.slice p l c],.agg #[.string y,.slice q m d]] W fun e w'=>e=.returned (.int .i64 (cmpB x y))∧∃k os',w'=grow (W.drewN k) os':=by
 have hcon:=fun W'=>YtffghbkcomlefaaGreatDoor.compared_c x y W'
 generalize cmpB x y=r at hcon⊢
 go_enter Tryz.func56,Tryz.ntmps56
 go_wp2_with (go_at_call 57;refine (hcon _).mono ?_;rintro e w' ⟨rfl,rfl⟩)
 go_ret
 exact ⟨rfl,0,_,by rw[alloc_eq_grow,alloc_eq_grow,grow_grow];rfl⟩
set_option maxHeartbeats 1000000 in
theorem YtffghbkcomlefaaGreatDoor.clo2_c (x y:ByteArray) (p q:Option Addr) (l c m d:Nat) (W:World):Calls Tryz.prog 59 #[.agg #[.string x,.slice p l c],.agg #[.string y,.slice q m d]] W fun e w'=>e=.returned (.int .i64 (cmpB x y))∧∃k os',w'=grow (W.drewN k) os':=by
 have hcon:=fun W'=>YtffghbkcomlefaaGreatDoor.compared_c x y W'
 generalize cmpB x y=r at hcon⊢
 go_enter Tryz.func59,Tryz.ntmps59
 go_wp2_with (go_at_call 57;refine (hcon _).mono ?_;rintro e w' ⟨rfl,rfl⟩)
 go_ret
 exact ⟨rfl,0,_,by rw[alloc_eq_grow,alloc_eq_grow,grow_grow];rfl⟩
abbrev LbE:=ByteArray×Option Addr×Nat×Nat
def encL (x:LbE):List Value:=[.string x.1,.slice x.2.1 x.2.2.1 x.2.2.2]
def cmpL (x y:LbE):Int:=cmpB x.1 y.1
theorem ltL (x y:LbE):ltOf cmpL x y=ltB x.1 y.1:=by
 unfold ltOf cmpL cmpB
 cases h:ltB x.1 y.1
 ·by_cases e:x.1=y.1<;>simp[e]
 ·simp
theorem swoL:SWO (ltOf cmpL) where
 irrefl x:=by rw[ltL,ltB_eq];simp[List.lt_irrefl]
 trans x y z h1 h2:=by
  rw[ltL,ltB_eq]at*
  simp only[decide_eq_true_eq]at*
  exact List.lt_trans h1 h2
 ntrans x y z h1 h2:=by
  rw[ltL,ltB_eq]at*
  simp only[decide_eq_false_iff_not,List.not_lt]at*
  exact List.le_trans h2 h1
theorem flatK_toList (d:Array LbE):(flatK encL 2 d).toList=d.toList.flatMap encL:=by
 apply List.ext_getElem?
 intro j
 by_cases hj:j<d.size*2
 ·have h1:j/2<d.size:=by omega
  have e1:j=j/2*2+j%2:=by omega
  have h2:(encL d[j/2])[j%2]? =some ((encL d[j/2])[j%2]'(by simp[encL];omega)):=List.getElem?_eq_getElem _
  have h3:=flatMap_get (c:=encL) (sz:=2) (fun _=>rfl) (xs:=d.toList) (j:=j/2) (a:=d[j/2]) (by simp[h1]) (j%2) _ h2
  rw[← e1]at h3
  rw[h3,Array.getElem?_toList,Array.getElem?_eq_getElem (by simpa using hj)]
  have h4:=get_flatK encL 2 d j hj
  rw[getElem!_pos (flatK encL 2 d) j (by simpa using hj)]at h4
  rw[h4,getElem!_pos d (j/2) h1,getElem!_pos (encL d[j/2]) (j%2) (by simp[encL];omega)]
 ·rw[List.getElem?_eq_none (by simpa using hj),List.getElem?_eq_none]
  have:∀l:List LbE,(l.flatMap encL).length=l.length*2:=fun l=>by
   induction l with
   |nil=>rfl
   |cons a r ih=>rw[List.flatMap_cons,List.length_append,ih];simp[encL];omega
  rw[this];simpa using hj
theorem take_putCells' (F cur:Array Value) (h:F.size≤cur.size):(putCells id 0 F cur).toList.take F.size=F.toList:=by
 apply List.ext_getElem?
 intro j
 by_cases hj:j<F.size
 ·rw[List.getElem?_take_of_lt hj,Array.getElem?_toList]
  simp[putCells,hj,show j<cur.size by omega]
 ·rw[List.getElem?_take_eq_none (by omega),List.getElem?_eq_none (by simpa using hj)]
theorem holdsK_of {b:Nat} {cs ex:List Value} {xs:List LbE} (hb:Blk w b T cs) (he:cs=xs.flatMap encL++ex):HoldsK encL 2 w b 0 xs.toArray:=by
 intro j hj
 refine ⟨?_,?_⟩
 ·rw[Nat.zero_add,hb.cell,he]
  have h1:(flatK encL 2 xs.toArray).toList=xs.flatMap encL:=by rw[flatK_toList]
  rw[← h1,List.getElem?_append_left (by simpa using hj),Array.getElem?_toList,Array.getElem?_eq_getElem hj,getElem!_pos (flatK encL 2 xs.toArray) j hj]
  rfl
 ·have h1:w.heap[b]? =some (.cells cs.toArray T (0,0)):=hb
  simp[World.frozen?,h1]
theorem heap_sortedK {g:Nat} {os:Array Obj} {cur:Array Value} {e:TypeId} {fr:Nat×Nat} (d:Array LbE) (hb:w.heap[g]? =some (.cells cur e fr)):
  (sortWorldK encL 2 w g 0 n d os).heap[g]? =some (.cells (putCells id 0 (flatK encL 2 d) cur) e fr):=by
 have hg:g<w.heap.size:=(Array.getElem?_eq_some_iff.1 hb).1
 unfold sortWorldK
 rw[heap_grow_old _ _ (by simpa[putRowK]using hg)]
 simp[putRowK,putRow,mapBlock,Sort.ahead,Array.getElem?_modify,hb,onCells]
theorem keepX_sortedK {g:Nat} {os:Array Obj} (d:Array LbE):KeepX [g] w (sortWorldK encL 2 w g 0 n d os):=by
 refine ⟨rfl,rfl,rfl,by simp[sortWorldK,grow,putRowK,putRow,mapBlock,Sort.ahead],fun k o hk hne=>?_⟩
 have hlt:=(Array.getElem?_eq_some_iff.1 hk).1
 unfold sortWorldK
 rw[heap_grow_old _ _ (by simpa[putRowK]using hlt)]
 have:g≠k:=fun e=>hne (by rw[e];simp)
 simp[putRowK,putRow,mapBlock,Sort.ahead,Array.getElem?_modify,this,hk]
theorem ltB_total {x y:ByteArray} (h:ltB y x=false) (hne:x≠y):ltB x y=true:=by
 rw[ltB_eq]at*
 simp only[decide_eq_false_iff_not,List.not_lt,decide_eq_true_eq]at*
 rcases List.le_iff_lt_or_eq.1 h with h|h
 ·exact h
 ·exact absurd (show ByteArray.mk x.data=ByteArray.mk y.data by rw[Array.toList_inj.1 h]) hne
theorem sortL_c {ρ:Ren} (L:SlLaysF0.n6 Tryz.prog ρ) {g:Nat} (aE:∀w,(isAgg (ρ.t 24)).run Tryz.prog w=.ok true w) (zE:∀w,(Go.sizeOf (ρ.t 24)).run Tryz.prog w=.ok 2 w) (eg:∀args w,(callFunc g args).run Tryz.prog w=.ok (.enter g args) w)
  (hcmp:∀(x y:LbE) (W:World),Calls Tryz.prog g #[.agg (encL x).toArray,.agg (encL y).toArray] W fun e w'=>e=.returned (.int .i64 (cmpL x y))∧∃k os',w'=grow (W.drewN k) os')
  (w:World) (y:Ent) (p:Option Addr) (l c:Nat) (xs:List LbE) (hO:Own T 2 y p l c (xs.flatMap encL)) (hb:y.on=true→Blk w y.b T y.cs) (hn:(xs.map (·.1)).Nodup) (hl:l≤1000000):
  Calls Tryz.prog (ρ.f 6) #[.slice p l c,.func (.func g) #[] #[]] w (Ret fun _ w'=>∃ys:List LbE,ys.Perm xs∧(ys.map (·.1)).Pairwise (fun a b=>ltB a b=true)∧((w'=w∧Own T 2 y p l c (ys.flatMap encL))∨y.on=true∧∃cs',Own T 2 { y with cs:=cs' } p l c (ys.flatMap encL)∧Blk w' y.b T cs'∧KeepX [y.b] w w')):=by
 have hfl:∀q:List LbE,(q.flatMap encL).length=q.length*2:=fun q=>by
  induction q with
  |nil=>rfl
  |cons a r ih=>rw[List.flatMap_cons,List.length_append,ih];simp[encL];omega
 have hlen:xs.length=l:=by have:=hO.sl.1;rw[hfl]at this;omega
 by_cases h0:l=0
 ·subst h0
  have e1:xs=[]:=List.eq_nil_of_length_eq_zero hlen
  refine (AnyF.slices_SortFunc_none { L with } p c _ w).mono ?_
  rintro e w' ⟨rfl,rfl⟩
  exact ⟨[],by rw[e1],by simp,.inl ⟨rfl,by rw[e1]at hO;exact hO⟩⟩
 obtain ⟨hon,hpp⟩:=hO.pos (by omega)
 subst hpp
 have hb:=hb hon
 obtain ⟨h1,h2,h3⟩:=hO.sl
 rcases h3 with ⟨-, -,⟨ex,h4⟩,h5⟩|⟨h3, -⟩
 case inr=>rw[hon]at h3;cases h3
 have hH:=holdsK_of hb h4
 have hc:=AnyQ.slices_SortFunc L 2 aE zE encL (fun _=>rfl) (fun x v hv=>by simp[encL]at hv;rcases hv with rfl|rfl<;>rfl) cmpL swoL g #[] y.b 0 c xs.toArray w eg (fun m os dk _ a b=>hcmp a b _) hH hb.lt (by simp;omega)
 have hsz:xs.toArray.size=l:=by simpa using hlen
 rw[hsz]at hc
 refine hc.mono ?_
 rintro e w' ⟨rfl,d,n,os,hp,hs,rfl⟩
 have hds:d.size=l:=by rw[hp.1];exact hsz
 have hperm:d.toList.Perm xs:=by
  have h6:=hp.2.2
  rw[← hsz]at h6
  rw[Array.extract_size]at h6
  rw[hsz, ← hds,Array.extract_size]at h6
  exact h6
 have hpw:(d.toList.map (·.1)).Pairwise (fun a b=>ltB a b=true):=by
  rw[List.pairwise_iff_getElem]
  intro i j hi hj hij
  have hi':i<d.size:=by simpa using hi
  have hj':j<d.size:=by simpa using hj
  have h7:=hs i j (Nat.zero_le _) hij (by omega)
  rw[ltL,getElem!_pos d i hi',getElem!_pos d j hj']at h7
  have hnd:(d.toList.map (·.1)).Nodup:=(hperm.map _).nodup_iff.2 hn
  simp only[List.getElem_map,Array.getElem_toList]
  refine ltB_total h7 fun e=>?_
  have:=nodup_ix hnd hi hj (by simpa using e)
  omega
 have hb':w.heap[y.b]? =some (.cells y.cs.toArray T (0,0)):=hb
 have hhs:=heap_sortedK (n:=n) (os:=os) d hb'
 have hcl:l*2≤y.cs.length:=by rw[h4,List.length_append,h1];omega
 have htk:=take_putCells' (flatK encL 2 d) y.cs.toArray (by simp[hds];exact hcl)
 rw[flatK_toList,size_flatK,hds]at htk
 refine ⟨d.toList,hperm,hpw,.inr ⟨hon,(putCells id 0 (flatK encL 2 d) y.cs.toArray).toList,⟨hO.hT,hO.hw,hO.ho,?_⟩,by simpa[Blk]using hhs,keepX_sortedK d⟩⟩
 refine ⟨by rw[hfl];simp[hds],h2,.inl ⟨hon,rfl,⟨(putCells id 0 (flatK encL 2 d) y.cs.toArray).toList.drop (l*2),?_⟩,?_⟩⟩
 ·rw[← htk,List.take_append_drop]
 ·have:(putCells id 0 (flatK encL 2 d) y.cs.toArray).size=y.cs.length:=by simp[putCells]
  simp only[Array.length_toList,this];exact h5
end Go.Proofs
namespace Go.Proofs.YtffghbkcomlefaaGreatDoor
open Go Go.Fw Go.Proofs Go.Proofs.Tryz
variable {f:Fm} {es:List MapEntry} {T c ck l:Nat} {p:Option Addr} {s:PSample} {v:Value} {w w':World}
abbrev tTx:Nat:=130
abbrev tNu:Nat:=133
theorem find_key {α:Type} (key:α→ByteArray):∀{xs:List α},(xs.map key).Nodup→∀{t:α},t∈xs→xs.find? (fun t'=>key t'=key t)=some t
 |[],_,_,h=>by cases h
 |a::r,hn,t,h=>by
    rw[List.map_cons,List.nodup_cons]at hn
    rcases List.mem_cons.1 h with rfl|h
    ·rw[List.find?_cons_of_pos (by simp)]
    ·have hne:key a≠key t:=fun e=>hn.1 (e▸List.mem_map_of_mem h)
     rw[List.find?_cons_of_neg (by simpa using hne)]
     exact find_key key hn.2 h
theorem asc_nodup {ks:List ByteArray} (h:ks.Pairwise fun x y=>ltB x y=true):ks.Nodup:=h.imp fun {a b} h e=>by subst e;rw[ltB_irrefl]at h;cases h
theorem asc_eq {ks rs:List ByteArray} (h1:ks.Pairwise fun x y=>ltB x y=true) (h2:rs.Pairwise fun x y=>ltB x y=true) (hm:∀k,k∈ks↔k∈rs):ks=rs:=by
 refine List.Perm.eq_of_pairwise (le:=fun a b=>ltB a b=true) (fun a b _ _ h1 h2=>?_) h1 h2 ((List.perm_ext_iff_of_nodup (asc_nodup h1) (asc_nodup h2)).2 hm)
 rw[ltB_eq]at h1 h2
 simp only[decide_eq_true_eq]at h1 h2
 exact absurd (List.lt_trans h1 h2) (List.lt_irrefl _)
theorem fT_mem (h:LabP s) {t:PTexts} (ht:t∈s.texts):fT s t.key=t.list:=by
 unfold fT
 rw[find_key (fun t:PTexts=>t.key) (asc_nodup h.tpw) ht];rfl
theorem fN_mem (h:LabP s) {t:PNums} (ht:t∈s.nums):fN s t.key=t.list:=by
 unfold fN
 rw[find_key (fun t:PNums=>t.key) (asc_nodup h.npw) ht];rfl
theorem fT_key {k:ByteArray} (h:fT s k≠[]):∃t∈s.texts,t.key=k:=by
 unfold fT at h
 cases hf:s.texts.find? fun t=>t.key=k with
 |none=>rw[hf]at h;exact absurd rfl h
 |some t=>exact ⟨t,List.mem_of_find?_eq_some hf,by simpa using List.find?_some hf⟩
theorem fN_key {k:ByteArray} (h:fN s k≠[]):∃t∈s.nums,t.key=k:=by
 unfold fN at h
 cases hf:s.nums.find? fun t=>t.key=k with
 |none=>rw[hf]at h;exact absurd rfl h
 |some t=>exact ⟨t,List.mem_of_find?_eq_some hf,by simpa using List.find?_some hf⟩
structure LabY {α:Type} (T:Nat) (enc:α→Value) (w:World) (f:ByteArray→List α) (mo:Option Nat) (es:List MapEntry) (ck:Nat) (ms:List (ByteArray×Value)):Prop where
 at_:MapAt w mo es ck
 menc:MEnc Value.string ms es ck
 yes:∀k u,mget ms k=some u→f k≠[]∧OS T 1 w u ((f k).map enc)
 no:∀k,mget ms k=none→f k=[]
theorem LabF.y {α:Type} {enc:α→Value} {f:ByteArray→List α} (h:LabF T enc w v f):∃mo es ck ms,v=.map mo∧LabY T enc w f mo es ck ms:=by
 rcases h with ⟨rfl,h⟩|⟨b,ms,es,ck,rfl,h2,h3,h4,h5⟩
 ·exact ⟨none,[],0,[],rfl,.inl ⟨rfl,rfl,rfl⟩,MEnc.nil',fun k u h=>by simp[mget_nil]at h,fun k _=>h k⟩
 ·exact ⟨some b,es,ck,ms,rfl,.inr ⟨b,rfl,h2⟩,h3,h4,h5⟩
theorem LabY.keys {α:Type} {enc:α→Value} {f:ByteArray→List α} {mo:Option Nat} {ms:List (ByteArray×Value)} (h:LabY T enc w f mo es ck ms) (k:ByteArray):k∈ms.map (·.1)↔f k≠[]:=by
 constructor
 ·intro hm
  cases hg:mget ms k with
  |none=>exact absurd hm (mget_none.1 hg)
  |some u=>exact (h.yes k u hg).1
 ·intro hf
  cases hg:mget ms k with
  |none=>exact absurd (h.no k hg) hf
  |some u=>
   by_cases hm:k∈ms.map (·.1)
   ·exact hm
   ·rw[mget_none.2 hm]at hg;cases hg
theorem LabY.entry {α:Type} {enc:α→Value} {f:ByteArray→List α} {mo:Option Nat} {ms:List (ByteArray×Value)} (h:LabY T enc w f mo es ck ms) {x:MapEntry} (hx:x∈es):∃k p c,x.key=.string k∧f k≠[]∧x.val=.slice p (f k).length c∧OS T 1 w (.slice p (f k).length c) ((f k).map enc):=by
 obtain ⟨q,hq,h1,h2⟩:=menc_entry h.menc hx
 obtain ⟨h3,h4⟩:=h.yes q.1 q.2 (mget_of_mem h.menc.keys hq)
 obtain ⟨p,l,c,e,hl, -⟩:=h4.open
 obtain rfl:(f q.1).length=l:=by simpa using hl
 exact ⟨q.1,p,c,h1,h3,by rw[h2,e],e▸h4⟩
theorem LabY.len {α β:Type} {enc:α→Value} {f:ByteArray→List α} {mo:Option Nat} {ms:List (ByteArray×Value)} (h:LabY T enc w f mo es ck ms) {xs:List β} {key:β→ByteArray} (hk:∀k,f k≠[]→∃t∈xs,key t=k):es.length≤xs.length:=by
 have h1:=h.menc.length
 have h2:(ms.map (·.1)).length≤(xs.map key).length:=h.menc.keys.length_le_of_subset fun k hm=>by
  obtain ⟨t,ht,e⟩:=hk k ((h.keys k).1 hm)
  exact e▸List.mem_map_of_mem ht
 simp only[List.length_map]at h2
 omega
def Clo {α:Type} (T:Nat) (enc:α→Value) (f:ByteArray→List α) (qs:List LbE) (R:Heap):Prop:=∀q∈qs,∃z∈R,q.2.2.1=(f q.1).length∧Own T 1 z q.2.1 q.2.2.1 q.2.2.2 ((f q.1).map enc)
theorem Clo.nil {α:Type} {enc:α→Value} {f:ByteArray→List α} {R:Heap}:Clo T enc f [] R:=fun q h=>by cases h
theorem Clo.push {α:Type} {enc:α→Value} {f:ByteArray→List α} {qs:List LbE} {R R':Heap} (h:Clo T enc f qs R) (hs:∀z∈R,z∈R') {k:ByteArray} {z:Ent} (hz:z∈R') (hO:Own T 1 z p (f k).length c ((f k).map enc)):Clo T enc f (qs++[(k,p,(f k).length,c)]) R':=fun q hq=>by
 rcases List.mem_append.1 hq with hq|hq
 ·obtain ⟨z,h1,h2⟩:=h q hq
  exact ⟨z,hs z h1,h2⟩
 ·simp at hq;subst hq
  exact ⟨z,hz,rfl,hO⟩
theorem Hp.rot3 {a b c:Ent} {R:Heap} (h:Hp f w (a::b::c::R)):Hp f w (b::c::a::R):=by
 have h1:=h.swap
 obtain ⟨h2,h3,h4,h5⟩:=h1
 exact ⟨h2,h3,fun he z hz hze=>h4 he z (by simp at hz⊢;rcases hz with h|h|h<;>simp[h]) hze,Hp.swap h5⟩
theorem Hp.rot4 {a b c d:Ent} {R:Heap} (h:Hp f w (a::b::c::d::R)):Hp f w (b::c::d::a::R):=by
 have h1:=Hp.rot3 h
 obtain ⟨h2,h3,h4,h5,h6,h7,h8⟩:=h1
 exact ⟨h2,h3,fun he z hz hze=>h4 he z (by simp at hz⊢;rcases hz with h|h|h|h<;>simp[h]) hze,h5,h6,fun he z hz hze=>h7 he z (by simp at hz⊢;rcases hz with h|h|h<;>simp[h]) hze,Hp.swap h8⟩
section
variable {P:Program} {Q:Exit→Act→World→Prop} {n:Nat} {f:Fm} {e:Env} {H:Heap} {ops:Array Oper} {rest:List Oper} {d ty:Nat} {pos:String} {af:Array Edge}
theorem j_appS {sT by_ m c2:Nat} {s x:Operand} {y:Ent} {p2:Option Addr} {xs zs:List Value} (i:Nat) (hy:H[i]? =some y) (hO:Own T 1 y p l c xs)
  (hu:∀w,(underlying sT).run P w=.ok (.slice T) w) (hT:ElT P T 1 by_) (hby:Nat.ble by_ 1000=true)
  (hs:ev e s=some (.slice p l c)) (hxv:ev e x=some (.slice p2 m c2)) (hx:OS T 1 f.ws (.slice p2 m c2) zs) (hW:f.W.all (fun t=> !Nat.beq t T)=true) (hsc:∀z∈zs,scal z=true) (hbig:l+m≤100000000000) (hd:Nat.blt d n=true)
  (k:∀y' p' c',Own T 1 y' p' (l+m) c' (xs++zs)→J P ops Q n f ((d,.slice p' (l+m) c')::e) (putH H i y') rest):
  J P ops Q n f e H (⟨some d,.call ⟨.builtin .append, #[s,x], #[sT,sT]⟩,ty,pos,af,none⟩::rest):=by
 obtain ⟨y2,p',l',c',e1,h2,h3⟩:=hx
 cases e1
 have hl:zs.length=m:=by have:=h2.sl.1;simpa using this
 refine j_append i hy hO.hT hO.ho hO.hw hu hu (.inl ⟨_,rfl⟩) hT hby hs hxv hO.sl (lenOf_slice _ _ _) (fun w w1 hH hf k=>?_) (by simp[hl]) (by simpa[List.all_eq_true]using hsc) hbig hd fun y' p' c' h1 h2 h3 h4=>k y' p' c' ⟨h1,h2,h3,h4⟩
 obtain ⟨-, -,h4⟩:=h2.sl
 rcases h4 with ⟨h5,h6,⟨ex,h7⟩, -⟩|⟨h5,h6,h7⟩
 ·subst h6
  have hb:Blk w1 y2.b T y2.cs:=k _ _ (ok_blk hf (h3 h5) hW)
  exact fc_blk hb (by rw[List.drop_zero,h7,Nat.mul_one, ← hl,List.take_append_of_le_length (Nat.le_refl _),List.take_length]) (by simp[hl])
 ·subst h6
  have:m=0:=by have:=h2.sl.2.1;omega
  subst this
  rw[List.eq_nil_of_length_eq_zero hl]
  rfl
end
section
variable {Q:Exit→Act→World→Prop} {n:Nat} {f:Fm} {e:Env} {H:Heap} {ops:Array Oper} {rest:List Oper} {d ty:Nat} {pos:String} {af:Array Edge}
theorem j_sorted {F:Nat} {fv:Value} {y:Ent} {xs:List LbE} {args:Array Operand} {tys:Array TypeId} (i:Nat) (hi:H[i]? =some y) (hO:Own T 2 y p l c (xs.flatMap encL))
  (hg:∀(az:Array Value) (w:World),(callFunc F az).run Tryz.prog w=.ok (.enter F az) w)
  (hc:∀w,(y.on=true→Blk w y.b T y.cs)→Calls Tryz.prog F #[.slice p l c,fv] w (Ret fun _ w'=>∃ys:List LbE,ys.Perm xs∧(ys.map (·.1)).Pairwise (fun a b=>ltB a b=true)∧((w'=w∧Own T 2 y p l c (ys.flatMap encL))∨y.on=true∧∃cs',Own T 2 { y with cs:=cs' } p l c (ys.flatMap encL)∧Blk w' y.b T cs'∧KeepX [y.b] w w')))
  (hargs:evL e args.toList=some [.slice p l c,fv]) (hd:Nat.blt d n=true)
  (k:∀v y' (ys:List LbE),ys.Perm xs→(ys.map (·.1)).Pairwise (fun a b=>ltB a b=true)→Own T 2 y' p l c (ys.flatMap encL)→J Tryz.prog ops Q n f ((d,v)::e) (putH H i y') rest):
  J Tryz.prog ops Q n f e H (⟨some d,.call ⟨.value (.func F),args,tys⟩,ty,pos,af,none⟩::rest):=
 j_callE (R:=fun w _ w'=>∃ys:List LbE,ys.Perm xs∧(ys.map (·.1)).Pairwise (fun a b=>ltB a b=true)∧((w'=w∧Own T 2 y p l c (ys.flatMap encL))∨y.on=true∧∃cs',Own T 2 { y with cs:=cs' } p l c (ys.flatMap encL)∧Blk w' y.b T cs'∧KeepX [y.b] w w')) hg hargs hd (fun w hH _=>hc w fun ho=>by have:=hH.get hi ho;rwa [hO.hT]at this) fun w v w' hH hf hR=>by
  obtain ⟨ys,hp,hpw,hR⟩:=hR
  rcases hR with ⟨rfl,h1⟩|⟨hon,cs',h1,h2,h3⟩
  ·exact k v y ys hp hpw h1 w' (by rw[putH_self hi];exact hH) hf
  ·have hm:=hH.may (List.mem_of_getElem? hi) hon hO.hw
   have hex:y.ex=true:=by simp[Ent.ex,hon]
   rw[hO.hT]at hm
   refine k v _ ys hp hpw h1 w' (hH.putX hi hex rfl (fun _ _=>by rw[h1.tag];exact hm) h3 ⟨fun _=>by simp only[hO.hT];exact h2,fun o ho=>by simp only[hO.ho]at ho;cases ho⟩) (okK hf h3 hm fun o ho=>?_)
   have h4:=hH.get hi hon
   rw[hO.hT]at h4
   have h5:w.heap[y.b]? =some (.cells y.cs.toArray T (0,0)):=h4
   rw[ho]at h5;cases h5;rfl
end
theorem map_inj_string:∀{a b:List ByteArray},a.map Value.string=b.map Value.string→a=b
 |[],[],_=>rfl
 |[],_::_,h=>by simp at h
 |_::_,[],h=>by simp at h
 |x::r,y::s,h=>by
    simp only[List.map_cons,List.cons.injEq,Value.string.injEq]at h
    rw[h.1,map_inj_string h.2]
theorem nodup_map_inj {α β:Type} {g:α→β}:∀{es:List α},(es.map g).Nodup→∀{x y:α},x∈es→y∈es→g x=g y→x=y
 |[],_,_,_,hx,_,_=>by cases hx
 |a::r,hb,x,y,hx,hy,h=>by
    simp only[List.map_cons,List.nodup_cons]at hb
    rcases List.mem_cons.1 hx with hxa|hx
    ·rcases List.mem_cons.1 hy with hya|hy
     ·rw[hxa,hya]
     ·exact absurd (List.mem_map.2 ⟨y,hy,by rw[← h,hxa]⟩) hb.1
    ·rcases List.mem_cons.1 hy with hya|hy
     ·exact absurd (List.mem_map.2 ⟨x,hx,by rw[h,hya]⟩) hb.1
     ·exact nodup_map_inj hb.2 hx hy h
theorem nodup_map_on' {α β:Type} {g:α→β}:∀{xs:List α},xs.Nodup→(∀x∈xs,∀y∈xs,g x=g y→x=y)→(xs.map g).Nodup
 |[],_,_=>by simp
 |a::r,h,hi=>by
    have h1:=List.nodup_cons.1 h
    simp only[List.map_cons,List.nodup_cons]
    refine ⟨fun hm=>?_,nodup_map_on' h1.2 fun x hx y hy=>hi x (by simp[hx]) y (by simp[hy])⟩
    obtain ⟨y,hy,he⟩:=List.mem_map.1 hm
    rw[hi y (by simp[hy]) a (by simp) he]at hy
    exact h1.1 hy
theorem nodup_of_map' {α β:Type} {g:α→β}:∀{xs:List α},(xs.map g).Nodup→xs.Nodup
 |[],_=>by simp
 |a::r,h=>by
    simp only[List.map_cons,List.nodup_cons]at h⊢
    exact ⟨fun hm=>h.1 (List.mem_map.2 ⟨a,hm,rfl⟩),nodup_of_map' h.2⟩
theorem Vis.keys {ms:List (ByteArray×Value)} {xs:List MapEntry} {seen:List Nat} (h:Vis es xs seen) (hM:MEnc Value.string ms es ck) (ha:∀x∈es,x.born∈seen):∃ks:List ByteArray,xs.map (·.key)=ks.map .string∧ks.Nodup∧∀k,k∈ks↔k∈ms.map (·.1):=by
 have hall:=h.all hM.born ha
 have hkey:∀x∈es,∃k,x.key=.string k∧k∈ms.map (·.1):=fun x hx=>by
  obtain ⟨p,hp,h1, -⟩:=menc_entry hM hx
  exact ⟨p.1,h1,List.mem_map.2 ⟨p,hp,rfl⟩⟩
 let kof:MapEntry→ByteArray:=fun x=>match x.key with
  | .string k=>k
  |_=>⟨#[]⟩
 have hk:∀x∈es,x.key=.string (kof x):=fun x hx=>by
  obtain ⟨k,h1, -⟩:=hkey x hx
  simp only[kof,h1]
 have hxn:xs.Nodup:=by
  have:=h.nd
  rw[← h.sn]at this
  exact nodup_of_map' this
 have hen:(es.map kof).Nodup:=by
  have h1:es.map (fun x=>x.key)=ms.map fun p=>Value.string p.1:=by
   have:=congrArg (List.map Prod.fst) hM.kv
   simpa[List.map_map,Function.comp_def]using this
  have h2:es.map (fun x=>x.key)=(es.map kof).map Value.string:=by
   rw[List.map_map]
   exact List.map_congr_left fun x hx=>hk x hx
  have h3:es.map kof=ms.map (·.1):=by
   have h4:(es.map kof).map Value.string=(ms.map (·.1)).map Value.string:=by rw[← h2,h1,List.map_map];rfl
   exact map_inj_string h4
  rw[h3];exact hM.keys
 refine ⟨xs.map kof,?_,?_,fun k=>⟨fun hm=>?_,fun hm=>?_⟩⟩
 ·rw[List.map_map]
  exact List.map_congr_left fun x hx=>hk x (h.sub x hx)
 ·exact nodup_map_on' hxn fun x hx y hy he=>nodup_map_inj hen (h.sub x hx) (h.sub y hy) he
 ·obtain ⟨x,hx,rfl⟩:=List.mem_map.1 hm
  obtain ⟨k,h1,h2⟩:=hkey x (h.sub x hx)
  have:=hk x (h.sub x hx)
  rw[h1]at this
  cases this
  exact h2
 ·obtain ⟨p,hp,rfl⟩:=List.mem_map.1 hm
  have h1:(Value.string p.1,p.2)∈ms.map fun p=>(Value.string p.1,p.2):=List.mem_map.2 ⟨p,hp,rfl⟩
  rw[← hM.kv]at h1
  obtain ⟨x,hx,he⟩:=List.mem_map.1 h1
  refine List.mem_map.2 ⟨x,hall x hx,?_⟩
  have h2:=hk x hx
  injection he with e1 e2
  rw[e1]at h2
  exact (Value.string.inj h2).symm
theorem keys_of {qs:List LbE} {xs:List MapEntry} {ks:List ByteArray} (h:xs.map (·.key)=qs.map fun q=>Value.string q.1) (hk:xs.map (·.key)=ks.map .string):qs.map (·.1)=ks:=by
 rw[h]at hk
 have h2:(qs.map (·.1)).map Value.string=ks.map .string:=by rw[← hk];simp
 exact map_inj_string h2
theorem sm_parts {locs:List Nat} {b:Nat} (h:SamR w locs b s):∃ls vs m1 m2 um iv xv es1 ck1 ms1 es2 ck2 ms2,Blk w b tSam [ls,vs,.map m1,.map m2,um,iv,xv]∧LabY tStr .string w (fT s) m1 es1 ck1 ms1∧LabY tI64 (.int .i64) w (fN s) m2 es2 ck2 ms2:=by
 obtain ⟨ls,vs,lm,nm,um,iv,xv,h1, -, -,h4,h5, -⟩:=h
 obtain ⟨m1,es1,ck1,ms1,rfl,h6⟩:=h4.y
 obtain ⟨m2,es2,ck2,ms2,rfl,h7⟩:=h5.y
 exact ⟨ls,vs,m1,m2,um,iv,xv,es1,ck1,ms1,es2,ck2,ms2,h1,h6,h7⟩
theorem lay_texts {ys:List LbE} (hLab:LabP s) (hO:OS tTx 2 w v (ys.flatMap encL)) (hpw:(ys.map (·.1)).Pairwise fun a b=>ltB a b=true) (hk:∀k,k∈ys.map (·.1)↔fT s k≠[]) (hC:∀q∈ys,q.2.2.1=(fT s q.1).length∧OS tStr 1 w (.slice q.2.1 q.2.2.1 q.2.2.2) ((fT s q.1).map .string)):Lay RTexts 2 w v s.texts:=by
 have e1:ys.map (·.1)=s.texts.map (·.key):=asc_eq hpw hLab.tpw fun k=>by
  rw[hk]
  constructor
  ·intro h
   obtain ⟨t,ht,e⟩:=fT_key h
   exact e▸List.mem_map_of_mem ht
  ·intro h
   obtain ⟨t,ht,rfl⟩:=List.mem_map.1 h
   rw[fT_mem hLab ht];exact (hLab.tl t ht).1
 have e2:(ys.map fun q=>(⟨q.1,fT s q.1⟩:PTexts))=s.texts:=by
  have h:=congrArg (List.map fun k=>(⟨k,fT s k⟩:PTexts)) e1
  simp only[List.map_map]at h
  refine h.trans ((List.map_congr_left fun t ht=>?_).trans (List.map_id _))
  show (⟨t.key,fT s t.key⟩:PTexts)=t
  rw[fT_mem hLab ht]
 refine lay_of_os (f:=fun q=>(⟨q.1,fT s q.1⟩:PTexts)) hO e2 (fun _=>rfl) (by omega) (fun q hq=>⟨_,rfl,?_⟩) (by have:=hLab.tlen;omega)
 have hm:(⟨q.1,fT s q.1⟩:PTexts)∈s.texts:=by rw[← e2];exact List.mem_map_of_mem (f:=fun q:LbE=>(⟨q.1,fT s q.1⟩:PTexts)) hq
 have h60:=(hLab.tl _ hm).2.1
 simp only at h60
 exact lay_of_os1 (hC q hq).2 (fun _ _=>rfl) (show (fT s q.1).length≤1000000000 by omega)
theorem lay_nums {ys:List LbE} (hLab:LabP s) (hr:∀t∈s.nums,∀n∈t.list,IntKind.i64.wrap n=n) (hO:OS tNu 2 w v (ys.flatMap encL)) (hpw:(ys.map (·.1)).Pairwise fun a b=>ltB a b=true) (hk:∀k,k∈ys.map (·.1)↔fN s k≠[]) (hC:∀q∈ys,q.2.2.1=(fN s q.1).length∧OS tI64 1 w (.slice q.2.1 q.2.2.1 q.2.2.2) ((fN s q.1).map (.int .i64))):Lay RNums 2 w v s.nums:=by
 have e1:ys.map (·.1)=s.nums.map (·.key):=asc_eq hpw hLab.npw fun k=>by
  rw[hk]
  constructor
  ·intro h
   obtain ⟨t,ht,e⟩:=fN_key h
   exact e▸List.mem_map_of_mem ht
  ·intro h
   obtain ⟨t,ht,rfl⟩:=List.mem_map.1 h
   rw[fN_mem hLab ht];exact (hLab.nl t ht).1
 have e2:(ys.map fun q=>(⟨q.1,fN s q.1⟩:PNums))=s.nums:=by
  have h:=congrArg (List.map fun k=>(⟨k,fN s k⟩:PNums)) e1
  simp only[List.map_map]at h
  refine h.trans ((List.map_congr_left fun t ht=>?_).trans (List.map_id _))
  show (⟨t.key,fN s t.key⟩:PNums)=t
  rw[fN_mem hLab ht]
 refine lay_of_os (f:=fun q=>(⟨q.1,fN s q.1⟩:PNums)) hO e2 (fun _=>rfl) (by omega) (fun q hq=>⟨_,rfl,?_⟩) (by have:=hLab.nlen;omega)
 have hm:(⟨q.1,fN s q.1⟩:PNums)∈s.nums:=by rw[← e2];exact List.mem_map_of_mem (f:=fun q:LbE=>(⟨q.1,fN s q.1⟩:PNums)) hq
 have h60:=(hLab.nl _ hm).2
 simp only at h60
 exact lay_of_os1 (hC q hq).2 (fun n hn=>⟨rfl,hr _ hm n hn⟩) (show (fN s q.1).length≤1000000000 by omega)
theorem clo_fin {α:Type} {enc:α→Value} {fn:ByteArray→List α} {qs ys:List LbE} {R H:Heap} (h:Clo T enc fn qs R) (hs:∀z∈R,z∈H) (hH:Hp f w H) (hp:ys.Perm qs):∀q∈ys,q.2.2.1=(fn q.1).length∧OS T 1 w (.slice q.2.1 q.2.2.1 q.2.2.2) ((fn q.1).map enc):=fun q hq=>by
 obtain ⟨z,hz,h1,h2⟩:=h q (hp.mem_iff.1 hq)
 exact ⟨h1,z,_,_,_,rfl,h2,fun ho=>by have:=hH.blk (hs z hz) ho;rw[h2.hT]at this;exact this⟩
def TxV (w:World) (v:Value) (s:PSample):Prop:=∃ys:List LbE,OS tTx 2 w v (ys.flatMap encL)∧(ys.map (·.1)).Pairwise (fun a b=>ltB a b=true)∧(∀k,k∈ys.map (·.1)↔fT s k≠[])∧∀q∈ys,q.2.2.1=(fT s q.1).length∧OS tStr 1 w (.slice q.2.1 q.2.2.1 q.2.2.2) ((fT s q.1).map .string)
def NuV (w:World) (v:Value) (s:PSample):Prop:=∃ys:List LbE,OS tNu 2 w v (ys.flatMap encL)∧(ys.map (·.1)).Pairwise (fun a b=>ltB a b=true)∧(∀k,k∈ys.map (·.1)↔fN s k≠[])∧∀q∈ys,q.2.2.1=(fN s q.1).length∧OS tI64 1 w (.slice q.2.1 q.2.2.1 q.2.2.2) ((fN s q.1).map (.int .i64))
theorem TxV.mono (h:TxV w v s) (k1:∀b cs,Blk w b tTx cs→Blk w' b tTx cs) (k2:∀b cs,Blk w b tStr cs→Blk w' b tStr cs):TxV w' v s:=by
 obtain ⟨ys,h1,h2,h3,h4⟩:=h
 exact ⟨ys,h1.mono k1,h2,h3,fun q hq=>⟨(h4 q hq).1,(h4 q hq).2.mono k2⟩⟩
theorem NuV.mono (h:NuV w v s) (k1:∀b cs,Blk w b tNu cs→Blk w' b tNu cs) (k2:∀b cs,Blk w b tI64 cs→Blk w' b tI64 cs):NuV w' v s:=by
 obtain ⟨ys,h1,h2,h3,h4⟩:=h
 exact ⟨ys,h1.mono k1,h2,h3,fun q hq=>⟨(h4 q hq).1,(h4 q hq).2.mono k2⟩⟩
set_option maxHeartbeats 1000000 in
theorem labels_c (w:World) (locs:List Nat) (b:Nat) (s:PSample) (h:SamR w locs b s) (hLab:LabP s):
  Calls Tryz.prog 39 #[ptr b] w (Ret fun v w'=>(∃vt vn,v=.tuple #[vt,vn]∧TxV w' vt s∧NuV w' vn s)∧Fr 0 [] w w'):=by
 obtain ⟨ls,vs,m1,m2,um,iv,xv,es1,ck1,ms1,es2,ck2,ms2,hb,hT,hN⟩:=sm_parts h
 have hl1:es1.length≤60:=Nat.le_trans (hT.len fun k=>fT_key) hLab.tlen
 have hl2:es2.length≤60:=Nat.le_trans (hN.len fun k=>fN_key) hLab.nlen
 have hbt:∀k,fT s k≠[]→(fT s k).length≤60:=fun k hk=>by
  obtain ⟨t,ht,rfl⟩:=fT_key hk
  rw[fT_mem hLab ht];exact (hLab.tl t ht).2.1
 have hbn:∀k,fN s k≠[]→(fN s k).length≤60:=fun k hk=>by
  obtain ⟨t,ht,rfl⟩:=fN_key hk
  rw[fN_mem hLab ht];exact (hLab.nl t ht).2
 have hM1:∀w',Fm.ok ⟨w,0,[]⟩ w'→MapAt w' m1 es1 ck1:=fun w' hf=>hT.at_.keep fun b es ck h=>fr_map hf rfl _ _ h
 have hM2:∀w',Fm.ok ⟨w,0,[]⟩ w'→MapAt w' m2 es2 ck2:=fun w' hf=>hN.at_.keep fun b es ck h=>fr_map hf rfl _ _ h
 have hc0:=mc (f:=⟨w,0,[]⟩) hb rfl
 refine startJ (args:=[_]) [(0,_)] 0 [] [] func39 rfl ntmps39 rfl rfl .nil ?_
 refine cj_seqF fun K1 hK1=>cj_reg (jA (k:=jA (k:=j_nil (ej_then (hK1 _ _ _ ?_)))))
 refine cj_seqF fun K2 hK2=>cj_reg (jA (k:=j_nil (ej_then (hK2 _ _ _ (sQ fun K3=>cj_reg (jA (k:=K3 (sQ fun K4=>sQ fun K5=>cj_reg (jM (k:=jN (k:=?_)))))))))))
 refine jF 2 ru103 so99 (k:=jL ag99 hc0 2 (k:=?_))
 refine j_rangeM ru99 (fun w' hH hf=>hM1 w' hf) rfl rfl fun it1=>?_
 refine K5 (cj_block ?_)
 refine cj_loop (σ:=List Nat×List MapEntry×List LbE×Ent×Option Addr×Nat×Heap) (fun s=>[(0,ptr b),(4,.slice s.2.2.2.2.1 s.2.2.1.length s.2.2.2.2.2.1),(5,.slice none 0 0),(14,ptr it1)])
  (fun s=>s.2.2.2.1::itM it1 m1 ck1 s.1 ck1::s.2.2.2.2.2.2) (fun s' _=>Vis es1 s'.2.1 s'.1∧s'.2.1.map (·.key)=(s'.2.2.1.map fun q=>Value.string q.1)∧Own tTx 2 s'.2.2.2.1 s'.2.2.2.2.1 s'.2.2.1.length s'.2.2.2.2.2.1 (s'.2.2.1.flatMap encL)∧Clo tStr .string (fT s) s'.2.2.1 s'.2.2.2.2.2.2) (fun s=>es1.length - s.1.length)
  ([],[],[],nilE tTx,none,0,[]) sR (fun w' hH hf=>⟨hH.off,Vis.nil,rfl,Own.nil,Clo.nil⟩) ?_
 rintro ⟨seen,xs,qs,y,p,c,R⟩ wA ⟨hV,hK,hO,hC⟩ hfA hHA KLA hKLA
 try dsimp only at hV hK hO hC
 have hql:qs.length=seen.length:=by
  have h1:=congrArg List.length hV.sn
  have h2:=congrArg List.length hK
  simp at h1 h2;omega
 have hsl:=hV.len hT.menc.born
 refine C.begin _ _ hfA hHA ?_
 try dsimp only
 refine sQ fun K6=>cj_reg ?_
 refine j_nextM 1 rfl (fun w' hH hf=>hM1 w' hf) hT.menc.lt (Nat.le_refl _) rfl rfl (fun hall=>?_) (fun xe hxe hns=>?_)
 ·refine jX (k:=K6 (sQ fun K7=>?_))
  refine cj_if_f rfl (cj_exit (K4 (sQ fun K8=>sQ fun K9=>cj_reg (jM (k:=jN (k:=jF 3 ru103 so37 (k:=jL ag37 hc0 3 (k:=?_))))))))
  have hV1:=hV
  have hK1:=hK
  have hO1:=hO
  have hC1:=hC
  have hall1:=hall
  obtain ⟨ks1,hks1,hkn1,hkm1⟩:=hV.keys hT.menc hall
  have hqk1:=keys_of hK hks1
  refine j_rangeM ru37 (fun w' hH hf=>hM2 w' hf) rfl rfl fun it2=>?_
  refine K9 (cj_block ?_)
  refine cj_loop (σ:=List Nat×List MapEntry×List LbE×Ent×Option Addr×Nat×Heap) (fun s=>[(4,.slice p qs.length c),(5,.slice s.2.2.2.2.1 s.2.2.1.length s.2.2.2.2.2.1),(32,ptr it2)])
   (fun s=>s.2.2.2.1::itM it2 m2 ck2 s.1 ck2::y::s.2.2.2.2.2.2) (fun s' _=>Vis es2 s'.2.1 s'.1∧s'.2.1.map (·.key)=(s'.2.2.1.map fun q=>Value.string q.1)∧Own tNu 2 s'.2.2.2.1 s'.2.2.2.2.1 s'.2.2.1.length s'.2.2.2.2.2.1 (s'.2.2.1.flatMap encL)∧Clo tI64 (.int .i64) (fN s) s'.2.2.1 s'.2.2.2.2.2.2∧∀z∈R,z∈s'.2.2.2.2.2.2) (fun s=>es2.length - s.1.length)
   ([],[],[],nilE tNu,none,0,itM it1 m1 ck1 seen ck1::R) sR (fun w' hH hf=>⟨hH.off,Vis.nil,rfl,Own.nil,Clo.nil,fun z hz=>List.mem_cons_of_mem _ hz⟩) ?_
  rintro ⟨seen2,xs2,qs2,y2,p2,c2,R2⟩ wB ⟨hV2,hK2,hO2,hC2,hR2⟩ hfB hHB KLB hKLB
  try dsimp only at hV2 hK2 hO2 hC2 hR2
  have hql2:qs2.length=seen2.length:=by
   have h1:=congrArg List.length hV2.sn
   have h2:=congrArg List.length hK2
   simp at h1 h2;omega
  have hsl2:=hV2.len hN.menc.born
  refine C.begin _ _ hfB hHB ?_
  try dsimp only
  refine sQ fun K10=>cj_reg ?_
  refine j_nextM 1 rfl (fun w' hH hf=>hM2 w' hf) hN.menc.lt (Nat.le_refl _) rfl rfl (fun hall=>?_) (fun xe hxe hns=>?_)
  ·refine jX (k:=K10 (sQ fun K11=>?_))
   refine cj_if_f rfl (cj_exit (K8 (sQ fun K12=>cj_reg (jM (k:=?_)))))
   obtain ⟨ks2,hks2,hkn2,hkm2⟩:=hV2.keys hN.menc hall
   have hqk2:=keys_of hK2 hks2
   refine j_sorted (F:=55) 2 rfl hO1 call55 (fun w hb=>sortL_c Tryz.sortTx ag130 so130 call56 (fun x y W=>clo1_c x.1 y.1 _ _ _ _ _ _ W) w y p qs.length c qs hO1 hb (by rw[hqk1];exact hkn1) (by omega)) rfl rfl fun v1 y1 ys1 hp1 hpw1 hOs1=>?_
   refine K12 (sQ fun K13=>cj_reg (jM (k:=?_)))
   refine j_sorted (F:=58) 0 rfl hO2 call58 (fun w hb=>sortL_c Tryz.sortNu ag133 so133 call59 (fun x y W=>clo2_c x.1 y.1 _ _ _ _ _ _ W) w y2 p2 qs2.length c2 qs2 hO2 hb (by rw[hqk2];exact hkn2) (by omega)) rfl rfl fun v2 y3 ys2 hp2 hpw2 hOs2=>?_
   refine K13 (sQ fun K14=>cj_reg (jM (k:=jM (k:=jA (k:=jA (k:=K14 (CJ.t [(2,_),(3,_)] (k:=cj_ret ?_))))))))
   exact ej_ret2 results39 rfl rfl fun w' hH hf=>⟨⟨_,_,rfl,⟨ys1,hOs1.os hH (i:=2) rfl,hpw1,fun k=>by rw[(hp1.map _).mem_iff,hqk1,hkm1,hT.keys],clo_fin hC1 (fun z hz=>by simp[putH];exact .inr (.inr (.inr (hR2 z hz)))) hH hp1⟩,⟨ys2,hOs2.os hH (i:=0) rfl,hpw2,fun k=>by rw[(hp2.map _).mem_iff,hqk2,hkm2,hN.keys],clo_fin hC2 (fun z hz=>by simp[putH];exact .inr (.inr (.inr hz))) hH hp2⟩⟩,hf⟩
  ·refine jX (k:=K10 (sQ fun K15=>?_))
   refine cj_if_t rfl (cj_skip (K15 (cj_block (sQ fun K16=>cj_reg (j_valw rfl (fun a w ha hH hf=>r_entryM 1 rfl (fun w' hH hf=>hM2 w' hf) rfl hxe hN.menc.born ha hH hf) (jX (k:=?_)))))))
   obtain ⟨k,pv,cv,hxk,hfk,hxv,hov⟩:=hN.entry hxe
   refine j_eqv hxk ?_
   refine jX (k:=?_)
   refine j_eqv hxv ?_
   refine jA (k:=jA (k:=K16 (cj_reg (jM (k:=jM (k:=?_))))))
   refine j_bslice0 ru49 so2 rfl fun b40=>jM (k:=?_)
   refine j_appS 0 rfl Own.empty ru49 el2 rfl rfl rfl hov rfl (fun z hz=>by obtain ⟨u, -,rfl⟩:=List.mem_map.1 hz;rfl) (by have:=hbn k hfk;omega) rfl fun y42 p42 c42 hO42=>?_
   refine j_val rfl (fun _ _ h=>r_build (cs:=[_,_]) bt133 rfl rfl h) (j_bslice1 ru53 so133 zv133 rfl rfl rfl rfl rfl fun b44=>?_)
   refine j_appO 1 rfl hO2 ru53 el133 rfl rfl rfl rfl rfl (by omega) rfl fun y45 p45 c45 hO45=>?_
   refine jA (k:=j_nil (ej_blk (ej_then ?_)))
   have hlt:seen2.length<es2.length:=by
    have:=(hV2.push hxe hns).len hN.menc.born
    simp at this;omega
   exact fun w' hH hf=>hKLB (seen2++[xe.born],xs2++[xe],qs2++[(k,p42,0+(fN s k).length,c42)],y45,p45,c45,y42::R2) _ w' ⟨hV2.push hxe hns,by simp[hK2,hxk],by simpa[encL,Value.cells]using hO45,by rw[Nat.zero_add]at hO42⊢;exact hC2.push (fun z hz=>List.mem_cons_of_mem _ hz) (List.Mem.head _) (by simpa using hO42),fun z hz=>List.mem_cons_of_mem _ (hR2 z hz)⟩ hf (Hp.rot4 hH) (by simp only[List.length_append,List.length_singleton];omega) ⟨rfl,by simp only[List.length_append,List.length_singleton];rfl,rfl,trivial⟩
 ·refine jX (k:=K6 (CJ.t [(0,_),(4,_),(5,_),(14,_),(16,_)] (k:=sQ fun K17=>?_)))
  refine cj_if_t rfl (cj_skip (K17 (cj_block (sQ fun K18=>cj_reg (j_valw rfl (fun a w ha hH hf=>r_entryM 1 rfl (fun w' hH hf=>hM1 w' hf) rfl hxe hT.menc.born ha hH hf) (jX (k:=?_)))))))
  obtain ⟨k,pv,cv,hxk,hfk,hxv,hov⟩:=hT.entry hxe
  refine j_eqv hxk ?_
  refine jX (k:=?_)
  refine j_eqv hxv ?_
  refine jA (k:=jA (k:=K18 (cj_reg (jM (k:=jM (k:=?_))))))
  refine j_bslice0 ru29 so9 rfl fun b22=>jM (k:=?_)
  refine j_appS 0 rfl Own.empty ru29 el9 rfl rfl rfl hov rfl (fun z hz=>by obtain ⟨u, -,rfl⟩:=List.mem_map.1 hz;rfl) (by have:=hbt k hfk;omega) rfl fun y24 p24 c24 hO24=>?_
  refine j_val rfl (fun _ _ h=>r_build (cs:=[_,_]) bt130 rfl rfl h) (j_bslice1 ru52 so130 zv130 rfl rfl rfl rfl rfl fun b26=>?_)
  refine j_appO 1 rfl hO ru52 el130 rfl rfl rfl rfl rfl (by omega) rfl fun y27 p27 c27 hO27=>?_
  refine jA (k:=j_nil (ej_blk (ej_then ?_)))
  have hlt:seen.length<es1.length:=by
   have:=(hV.push hxe hns).len hT.menc.born
   simp at this;omega
  exact fun w' hH hf=>hKLA (seen++[xe.born],xs++[xe],qs++[(k,p24,0+(fT s k).length,c24)],y27,p27,c27,y24::R) _ w' ⟨hV.push hxe hns,by simp[hK,hxk],by simpa[encL,Value.cells]using hO27,by rw[Nat.zero_add]at hO24⊢;exact hC.push (fun z hz=>List.mem_cons_of_mem _ hz) (List.Mem.head _) (by simpa using hO24)⟩ hf (Hp.rot3 hH) (by simp only[List.length_append,List.length_singleton];omega) ⟨rfl,by simp only[List.length_append,List.length_singleton];rfl,rfl,rfl,trivial⟩
end Go.Proofs.YtffghbkcomlefaaGreatDoor
namespace Go.Fw
open Go
section
variable {P:Program} {n:Nat} {e:Env} {d ty:Nat} {pos:String} {af:Array Edge}
theorem run_eqIn_np (dd t:Nat) (q:Addr) {te:TypeId} (hu:P.underlying t=some (.pointer te)) (w:World):(Op.equalIn (dd+1) t (.pointer none) (.pointer (some q))).run P w=.ok false w:=by
 simp[Op.equalIn,run_underlying hu]
theorem r_peqN {t t':Nat} {x y:Operand} {q:Addr} {te:TypeId} (hu:P.underlying t=some (.pointer te)) (hx:ev e x=some (.pointer none)) (hy:ev e y=some (.pointer (some q))) {a:Act} {w:World} (ha:Sat n e a):
  (execOp a.eval ⟨some d,.binOp .eql t x y t',ty,pos,af,none⟩).run P w=.ok (.value (.bool false)) w:=by
 have h:(binOp .eql t (.pointer none) (.pointer (some q))).run P w=.ok (.bool false) w:=by
  simp only[binOp]
  simp[Op.equal,Op.maxDepth,run_eqIn_np 9999 t q hu]
 simp only[execOp,ha.ev hx,ha.ev hy]
 simp[eqGuard,h]
end
end Go.Fw
namespace Go.Proofs.YtffghbkcomlefaaGreatDoor
open Go Go.Fw Go.Proofs Go.Proofs.Tryz
section
variable {P:Program} {n:Nat} {e:Env} {d ty:Nat} {pos:String} {af:Array Edge}
theorem r_peqAt {t t' T i b:Nat} {x y:Operand} {te:TypeId} {j:TypeInfo} {bs:List Nat} {z:Int} (hu:P.underlying t=some (.pointer te)) (hj:P.info? te=some j) (hs:j.size≠0) (hx:ev e x=some (ptrAt bs z)) (hy:ev e y=some (ptr b)) (hb:bs[i]? =some b) (hn:bs.Nodup) (hz:z<bs.length) {a:Act} {w:World} (hB:∀c∈bs,∃cs,Blk w c T cs) (ha:Sat n e a):
  (execOp a.eval ⟨some d,.binOp .eql t x y t',ty,pos,af,none⟩).run P w=.ok (.value (.bool (decide (z=i)))) w:=by
 have hi:=(List.getElem?_eq_some_iff.1 hb).1
 by_cases h:0≤z
 ·have hzl:z.toNat<bs.length:=by omega
  have e1:ptrAt bs z=ptr bs[z.toNat]:=by unfold ptrAt;rw[if_pos h,List.getElem?_eq_getElem hzl];rfl
  rw[e1]at hx
  obtain ⟨cs1,h1⟩:=hB _ (List.getElem_mem hzl)
  obtain ⟨cs2,h2⟩:=hB _ (List.mem_of_getElem? hb)
  rw[r_peql hu hj hs hx hy h1 h2 ha]
  have e2:b=bs[i]:=(List.getElem?_eq_some_iff.1 hb).2.symm
  congr 3
  rw[Bool.eq_iff_iff,decide_eq_true_eq,decide_eq_true_eq,e2]
  constructor
  ·intro e3;have:=nodup_ix hn hzl hi e3;omega
  ·intro e3;subst e3;congr 1
 ·have e1:ptrAt bs z=.pointer none:=by unfold ptrAt;rw[if_neg h]
  rw[e1]at hx
  rw[r_peqN hu hx hy ha]
  congr 3
  rw[eq_comm,decide_eq_false_iff_not]
  omega
end
set_option maxHeartbeats 1000000 in
theorem idxM_c (w:World) (bs:List Nat) (tv:Value) (z:Int) (hO:OS pMap 1 w tv (bs.map ptr)) (hB:∀b∈bs,∃cs,Blk w b tMap cs) (hn:bs.Nodup) (h1: -1≤z) (h2:z<bs.length) (hl:bs.length≤1000000):
  Calls Tryz.prog 36 #[tv,ptrAt bs z] w (Ret fun v w'=>v=.int .i64 z∧Fr 0 [] w w'):=by
 obtain ⟨p,l,c,rfl,hll, -,hx⟩:=hO.openF
 obtain rfl:l=bs.length:=by simpa using hll.symm
 refine startJ (args:=[_,_]) [(0,_),(1,_)] 0 [] [] Tryz.func36 rfl Tryz.ntmps36 rfl rfl .nil ?_
 refine sQ fun K1=>cj_reg (jA (k:=K1 (sQ fun K2=>sQ fun K3=>cj_reg (jM (k:=jE ru71 (k:=jM (k:=K3 (cj_block ?_))))))))
 refine cj_loop (σ:=Nat) (fun s=>[(0,.slice p bs.length c),(1,ptrAt bs z),(7,.int .i64 (bs.length:Nat)),(8,.int .i64 (s:Nat))]) (fun _=>[]) (fun s _=>s≤bs.length∧(z<0∨(s:Int)≤z)) (fun s=>bs.length - s) 0 sR (fun w' hH hf=>⟨hH,Nat.zero_le _,by omega⟩) ?_
 rintro k wk ⟨hk,hkz⟩ hfk hHk KL hKL
 try dsimp only at hk hkz
 refine C.begin _ _ hfk hHk ?_
 try dsimp only
 refine sQ fun K4=>cj_reg (jS (k:=K4 (sQ fun K5=>?_)))
 refine cj_dec rfl (fun h9=>?_) (fun h9=>?_)
 ·have hk':k<bs.length:=by omega
  obtain ⟨bq,rfl,hsq⟩:=hx (by omega)
  have hcell:∀w',Fm.ok ⟨w,0,[]⟩ w'→w'.cell? ⟨bq,0+k*1,none⟩=some (ptr bs[k]):=fun w' hf=>by
   have h:=hsq ⟨w,0,[]⟩ rfl rfl w' hf k (ptr bs[k]) (by rw[List.getElem?_map,List.getElem?_eq_getElem hk'];rfl)
   simpa using h
  refine cj_skip (K5 (sQ fun K6=>cj_block (sQ fun K7=>cj_reg (jM (k:=jA (k:=K7 (sQ fun K8=>cj_reg (jM (k:=jM (k:=jM (k:=jJ ru71 so79 (k:=?_))))))))))))
  refine j_valw rfl (fun a w ha hH hf=>r_load ag79 rfl (hcell w hf) ha) ?_
  refine j_valw rfl (fun a w ha hH hf=>r_peqAt (i:=k) (T:=tMap) ud79 nf81 ns81 rfl rfl (List.getElem?_eq_getElem hk') hn h2 (fun c hc=>by obtain ⟨cs,h⟩:=hB c hc;exact ⟨cs,fr_row hf rfl _ _ h⟩) ha) ?_
  refine K8 ?_
  refine cj_dec rfl (fun hq=>?_) (fun hq=>?_)
  ·refine sQ fun K9=>cj_reg (jM (k:=jA (k:=K9 (CJ.t [(4,_)] (k:=cj_ret ?_)))))
   first
    |exact ej_ret1 Tryz.results36 rfl fun w' hH hf=>⟨by rw[hq],hf⟩
    |exact ej_ret1 Tryz.results36 rfl fun w' hH hf=>⟨by rw[hz],hf⟩
  ·refine cj_skip (K6 (cj_reg (jI (k:=jM (k:=j_nil (ej_then ?_))))))
   exact fun w' hH hf=>hKL (k+1) _ w' ⟨hk',by omega⟩ hf hH (by first|omega|(simp only;omega)) ⟨rfl,rfl,rfl,rfl,trivial⟩
 ·have hz:z= -1:=by omega
  refine cj_exit (K2 (sQ fun K10=>cj_reg (jA (k:=K10 (cj_ret ?_)))))
  first
   |exact ej_ret1 Tryz.results36 rfl fun w' hH hf=>⟨by rw[hq],hf⟩
   |exact ej_ret1 Tryz.results36 rfl fun w' hH hf=>⟨by rw[hz],hf⟩
set_option maxHeartbeats 1000000 in
theorem idxF_c (w:World) (bs:List Nat) (tv:Value) (z:Int) (hO:OS pFun 1 w tv (bs.map ptr)) (hB:∀b∈bs,∃cs,Blk w b tFun cs) (hn:bs.Nodup) (h1: -1≤z) (h2:z<bs.length) (hl:bs.length≤1000000):
  Calls Tryz.prog 37 #[tv,ptrAt bs z] w (Ret fun v w'=>v=.int .i64 z∧Fr 0 [] w w'):=by
 obtain ⟨p,l,c,rfl,hll, -,hx⟩:=hO.openF
 obtain rfl:l=bs.length:=by simpa using hll.symm
 refine startJ (args:=[_,_]) [(0,_),(1,_)] 0 [] [] Tryz.func37 rfl Tryz.ntmps37 rfl rfl .nil ?_
 refine sQ fun K1=>cj_reg (jA (k:=K1 (sQ fun K2=>sQ fun K3=>cj_reg (jM (k:=jE ru73 (k:=jM (k:=K3 (cj_block ?_))))))))
 refine cj_loop (σ:=Nat) (fun s=>[(0,.slice p bs.length c),(1,ptrAt bs z),(7,.int .i64 (bs.length:Nat)),(8,.int .i64 (s:Nat))]) (fun _=>[]) (fun s _=>s≤bs.length∧(z<0∨(s:Int)≤z)) (fun s=>bs.length - s) 0 sR (fun w' hH hf=>⟨hH,Nat.zero_le _,by omega⟩) ?_
 rintro k wk ⟨hk,hkz⟩ hfk hHk KL hKL
 try dsimp only at hk hkz
 refine C.begin _ _ hfk hHk ?_
 try dsimp only
 refine sQ fun K4=>cj_reg (jS (k:=K4 (sQ fun K5=>?_)))
 refine cj_dec rfl (fun h9=>?_) (fun h9=>?_)
 ·have hk':k<bs.length:=by omega
  obtain ⟨bq,rfl,hsq⟩:=hx (by omega)
  have hcell:∀w',Fm.ok ⟨w,0,[]⟩ w'→w'.cell? ⟨bq,0+k*1,none⟩=some (ptr bs[k]):=fun w' hf=>by
   have h:=hsq ⟨w,0,[]⟩ rfl rfl w' hf k (ptr bs[k]) (by rw[List.getElem?_map,List.getElem?_eq_getElem hk'];rfl)
   simpa using h
  refine cj_skip (K5 (sQ fun K6=>cj_block (sQ fun K7=>cj_reg (jM (k:=jA (k:=K7 (sQ fun K8=>cj_reg (jM (k:=jM (k:=jM (k:=jJ ru73 so84 (k:=?_))))))))))))
  refine j_valw rfl (fun a w ha hH hf=>r_load ag84 rfl (hcell w hf) ha) ?_
  refine j_valw rfl (fun a w ha hH hf=>r_peqAt (i:=k) (T:=tFun) ud84 nf86 ns86 rfl rfl (List.getElem?_eq_getElem hk') hn h2 (fun c hc=>by obtain ⟨cs,h⟩:=hB c hc;exact ⟨cs,fr_row hf rfl _ _ h⟩) ha) ?_
  refine K8 ?_
  refine cj_dec rfl (fun hq=>?_) (fun hq=>?_)
  ·refine sQ fun K9=>cj_reg (jM (k:=jA (k:=K9 (CJ.t [(4,_)] (k:=cj_ret ?_)))))
   first
    |exact ej_ret1 Tryz.results37 rfl fun w' hH hf=>⟨by rw[hq],hf⟩
    |exact ej_ret1 Tryz.results37 rfl fun w' hH hf=>⟨by rw[hz],hf⟩
  ·refine cj_skip (K6 (cj_reg (jI (k:=jM (k:=j_nil (ej_then ?_))))))
   exact fun w' hH hf=>hKL (k+1) _ w' ⟨hk',by omega⟩ hf hH (by first|omega|(simp only;omega)) ⟨rfl,rfl,rfl,rfl,trivial⟩
 ·have hz:z= -1:=by omega
  refine cj_exit (K2 (sQ fun K10=>cj_reg (jA (k:=K10 (cj_ret ?_)))))
  first
   |exact ej_ret1 Tryz.results37 rfl fun w' hH hf=>⟨by rw[hq],hf⟩
   |exact ej_ret1 Tryz.results37 rfl fun w' hH hf=>⟨by rw[hz],hf⟩
set_option maxHeartbeats 1000000 in
theorem idxL_c (w:World) (bs:List Nat) (tv:Value) (z:Int) (hO:OS pLoc 1 w tv (bs.map ptr)) (hB:∀b∈bs,∃cs,Blk w b tLoc cs) (hn:bs.Nodup) (h1: -1≤z) (h2:z<bs.length) (hl:bs.length≤1000000):
  Calls Tryz.prog 38 #[tv,ptrAt bs z] w (Ret fun v w'=>v=.int .i64 z∧Fr 0 [] w w'):=by
 obtain ⟨p,l,c,rfl,hll, -,hx⟩:=hO.openF
 obtain rfl:l=bs.length:=by simpa using hll.symm
 refine startJ (args:=[_,_]) [(0,_),(1,_)] 0 [] [] Tryz.func38 rfl Tryz.ntmps38 rfl rfl .nil ?_
 refine sQ fun K1=>cj_reg (jA (k:=K1 (sQ fun K2=>sQ fun K3=>cj_reg (jM (k:=jE ru72 (k:=jM (k:=K3 (cj_block ?_))))))))
 refine cj_loop (σ:=Nat) (fun s=>[(0,.slice p bs.length c),(1,ptrAt bs z),(7,.int .i64 (bs.length:Nat)),(8,.int .i64 (s:Nat))]) (fun _=>[]) (fun s _=>s≤bs.length∧(z<0∨(s:Int)≤z)) (fun s=>bs.length - s) 0 sR (fun w' hH hf=>⟨hH,Nat.zero_le _,by omega⟩) ?_
 rintro k wk ⟨hk,hkz⟩ hfk hHk KL hKL
 try dsimp only at hk hkz
 refine C.begin _ _ hfk hHk ?_
 try dsimp only
 refine sQ fun K4=>cj_reg (jS (k:=K4 (sQ fun K5=>?_)))
 refine cj_dec rfl (fun h9=>?_) (fun h9=>?_)
 ·have hk':k<bs.length:=by omega
  obtain ⟨bq,rfl,hsq⟩:=hx (by omega)
  have hcell:∀w',Fm.ok ⟨w,0,[]⟩ w'→w'.cell? ⟨bq,0+k*1,none⟩=some (ptr bs[k]):=fun w' hf=>by
   have h:=hsq ⟨w,0,[]⟩ rfl rfl w' hf k (ptr bs[k]) (by rw[List.getElem?_map,List.getElem?_eq_getElem hk'];rfl)
   simpa using h
  refine cj_skip (K5 (sQ fun K6=>cj_block (sQ fun K7=>cj_reg (jM (k:=jA (k:=K7 (sQ fun K8=>cj_reg (jM (k:=jM (k:=jM (k:=jJ ru72 so90 (k:=?_))))))))))))
  refine j_valw rfl (fun a w ha hH hf=>r_load ag90 rfl (hcell w hf) ha) ?_
  refine j_valw rfl (fun a w ha hH hf=>r_peqAt (i:=k) (T:=tLoc) ud90 nf93 ns93 rfl rfl (List.getElem?_eq_getElem hk') hn h2 (fun c hc=>by obtain ⟨cs,h⟩:=hB c hc;exact ⟨cs,fr_row hf rfl _ _ h⟩) ha) ?_
  refine K8 ?_
  refine cj_dec rfl (fun hq=>?_) (fun hq=>?_)
  ·refine sQ fun K9=>cj_reg (jM (k:=jA (k:=K9 (CJ.t [(4,_)] (k:=cj_ret ?_)))))
   first
    |exact ej_ret1 Tryz.results38 rfl fun w' hH hf=>⟨by rw[hq],hf⟩
    |exact ej_ret1 Tryz.results38 rfl fun w' hH hf=>⟨by rw[hz],hf⟩
  ·refine cj_skip (K6 (cj_reg (jI (k:=jM (k:=j_nil (ej_then ?_))))))
   exact fun w' hH hf=>hKL (k+1) _ w' ⟨hk',by omega⟩ hf hH (by first|omega|(simp only;omega)) ⟨rfl,rfl,rfl,rfl,trivial⟩
 ·have hz:z= -1:=by omega
  refine cj_exit (K2 (sQ fun K10=>cj_reg (jA (k:=K10 (cj_ret ?_)))))
  first
   |exact ej_ret1 Tryz.results38 rfl fun w' hH hf=>⟨by rw[hq],hf⟩
   |exact ej_ret1 Tryz.results38 rfl fun w' hH hf=>⟨by rw[hz],hf⟩
structure PlnM (x:PProf):Prop where
 samples:∀s∈x.samples,s.values.length≤1000∧s.stack.length≤1000∧LabP s∧∀k∈s.stack,0≤k∧k<x.locs.length
 nsam:x.samples.length≤10000
 ntyp:x.types.length≤1000
 ncom:x.comments.length≤1000
 nm:x.mappings.length≤10000
 nf:x.funcs.length≤10000
 nl:x.locs.length≤10000
 locs:∀l∈x.locs,(-1≤l.mapping∧l.mapping<x.mappings.length)∧l.lines.length≤1000∧∀n∈l.lines, -1≤n.fn∧n.fn<x.funcs.length
abbrev eB:ByteArray:=⟨#[]⟩
theorem fr_mapE {W:List Nat} {B:Nat} {w w':World} (h:Fr B W w w') (hT:W.all (fun t=> !Nat.beq t 1000000)=true) {b:Nat}:∀(es:Array MapEntry) (ck:Nat),w.heap[b]? =some (.map es ck)→w'.heap[b]? =some (.map es ck):=fun es ck hb=>fr_map h hT es ck hb
end Go.Proofs.YtffghbkcomlefaaGreatDoor
namespace Go.Fw
open Go
variable {w:World}
theorem Hp.sw2 {f:Fm} {a b c:Ent} {R:Heap} (h:Hp f w (a::b::c::R)):Hp f w (a::c::b::R):=Go.Proofs.YtffghbkcomlefaaGreatDoor.Hp.rot3 (Hp.swap h)
theorem Hp.head2 {f:Fm} {a b:Ent} {R:Heap} (h:Hp f w (a::b::R)):Hp f w [a,b]:=⟨h.1,h.2.1,fun he z hz hze=>h.2.2.1 he z (by simp at hz;subst hz;simp) hze,h.2.2.2.1,h.2.2.2.2.1,fun _ z hz=>(by cases hz),trivial⟩
theorem take_flat {α:Type} {xs:List α} {c:α→List Value} {k:Nat} (hk:k<xs.length):(xs.take (k+1)).flatMap c=(xs.take k).flatMap c++c xs[k]:=by
 rw[← List.take_append_getElem hk,List.flatMap_append];simp
end Go.Fw
namespace Go.Proofs.YtffghbkcomlefaaGreatDoor
open Go Go.Fw Go.Proofs Go.Proofs.Tryz
variable {W:List Nat} {B:Nat} {w w':World}
abbrev tIP:Nat:=33
abbrev tTy:Nat:=31
abbrev tMp:Nat:=78
abbrev tFn:Nat:=83
abbrev tLc:Nat:=89
abbrev tLn:Nat:=95
abbrev tInt:Nat:=3
abbrev tSm:Nat:=55
def cTyI (t:PType):List Value:=[.string t.ty,.string t.unit]
def cMpI (m:PMapping):List Value:=[.int .u64 m.id,.int .u64 m.start,.int .u64 m.limit,.int .u64 m.offset,.string m.file,.string m.build,.bool m.fu,.bool m.fi,.bool m.li,.bool m.inl]
def cFnI (f:PFunc):List Value:=[.int .u64 f.id,.string f.name,.string f.system,.string f.file,.int .i64 f.start]
def cLnI (n:PLine):List Value:=[.int .i64 n.fn,.int .i64 n.line]
def cLcI (q:PLoc×Value):List Value:=[.int .u64 q.1.id,.int .i64 q.1.mapping,.int .u64 q.1.addr,q.2]
structure SV where (st vs tx nu:Value)
def cSmI (q:PSample×SV):List Value:=[q.2.st,q.2.vs,q.2.tx,q.2.nu]
structure SmV (w:World) (q:PSample×SV):Prop where
 st:OS tInt 1 w q.2.st (q.1.stack.map (.int .i64))
 vs:OS tI64 1 w q.2.vs (q.1.values.map (.int .i64))
 tx:TxV w q.2.tx q.1
 nu:NuV w q.2.nu q.1
def LcsV (w:World) (qs:List (PLoc×Value)):Prop:=∀q∈qs,OS tLn 2 w q.2 (q.1.lines.flatMap cLnI)
def SmsV (w:World) (qs:List (PSample×SV)):Prop:=∀q∈qs,SmV w q
theorem SmV.mono {q:PSample×SV} (h:SmV w q) (k1:∀b cs,Blk w b tInt cs→Blk w' b tInt cs) (k2:∀b cs,Blk w b tI64 cs→Blk w' b tI64 cs) (k3:∀b cs,Blk w b tTx cs→Blk w' b tTx cs) (k4:∀b cs,Blk w b tStr cs→Blk w' b tStr cs) (k5:∀b cs,Blk w b tNu cs→Blk w' b tNu cs):SmV w' q:=
 ⟨h.st.mono k1,h.vs.mono k2,h.tx.mono k3 k4,h.nu.mono k5 k2⟩
def cOP (x:PProf) (vT vS vM vL vF vC:Value) (p:PType):List Value:=[vT,.string x.deflt,vS,vM,vL,vF,vC,.string x.drop,.string x.keep,.int .i64 x.time,.int .i64 x.dur,.int .i64 x.period,.string p.ty,.string p.unit]
abbrev vN:Value:=.slice none 0 0
abbrev zIP:List Value:=[.slice none 0 0,.string ⟨#[]⟩,.slice none 0 0,.slice none 0 0,.slice none 0 0,.slice none 0 0,.slice none 0 0,.string ⟨#[]⟩,.string ⟨#[]⟩,.int .i64 0,.int .i64 0,.int .i64 0,.string ⟨#[]⟩,.string ⟨#[]⟩]
abbrev eI (b T:Nat) (cs:List Value):Ent:=⟨b,T,cs,true,true,none⟩
structure PV (w:World) (x:PProf) (vT vM vF vL vC:Value):Prop where
 ty:OS tTy 2 w vT (x.types.flatMap cTyI)
 mp:OS tMp 10 w vM (x.mappings.flatMap cMpI)
 fn:OS tFn 5 w vF (x.funcs.flatMap cFnI)
 lc:∃lq:List (PLoc×Value),lq.map (·.1)=x.locs∧OS tLc 4 w vL (lq.flatMap cLcI)∧LcsV w lq
 co:OS tStr 1 w vC (x.comments.map .string)
theorem PV.fr {x:PProf} {vT vM vF vL vC:Value} (h:PV w x vT vM vF vL vC) (k:Fr B W w w') (hW:([tTy,tMp,tFn,tLc,tLn,tStr].all fun T=>W.all fun t=> !Nat.beq t T)=true):PV w' x vT vM vF vL vC:=by
 simp only[List.all_cons,List.all_nil,Bool.and_true,Bool.and_eq_true]at hW
 obtain ⟨h1,h2,h3,h4,h5,h6⟩:=hW
 obtain ⟨lq,e,h7,h8⟩:=h.lc
 exact ⟨h.ty.mono (fr_row k h1),h.mp.mono (fr_row k h2),h.fn.mono (fr_row k h3),⟨lq,e,h7.mono (fr_row k h4),fun q hq=>(h8 q hq).mono (fr_row k h5)⟩,h.co.mono (fr_row k h6)⟩
theorem SmsV.fr {qs:List (PSample×SV)} (h:SmsV w qs) (k:Fr B W w w') (hW:([tInt,tI64,tTx,tStr,tNu].all fun T=>W.all fun t=> !Nat.beq t T)=true):SmsV w' qs:=fun q hq=>by
 simp only[List.all_cons,List.all_nil,Bool.and_true,Bool.and_eq_true]at hW
 obtain ⟨h1,h2,h3,h4,h5⟩:=hW
 exact (h q hq).mono (fr_row k h1) (fr_row k h2) (fr_row k h3) (fr_row k h4) (fr_row k h5)
theorem Own.osM {T sz l c:Nat} {y:Ent} {p:Option Addr} {xs:List Value} {f:Fm} {H:Heap} (h:Own T sz y p l c xs) (hH:Hp f w H) (hy:y∈H):OS T sz w (.slice p l c) xs:=
 ⟨y,p,l,c,rfl,h,fun ho=>by have:=hH.blk hy ho;rw[h.hT]at this;exact this⟩
def GotP (w:World) (cs:List Value) (x:PProf):Prop:=∃vT vS vM vL vF vC sq,cs=cOP x vT vS vM vL vF vC x.per∧PV w x vT vM vF vL vC∧(sq:List (PSample×SV)).map (·.1)=x.samples∧OS tSm 4 w vS (sq.flatMap cSmI)∧SmsV w sq
set_option maxHeartbeats 4000000 in
theorem plain_c (w:World) (x:PProf) (g:G) (hQ:OfS w x g) (hx:PlnM x):Calls Tryz.prog 15 #[ptr g.pb] w (Ret fun v w'=>(∃cs,v=.agg (List.toArray cs)∧GotP w' cs x)∧Fr 0 [] w w'):=by
 obtain ⟨tyv,sav,mav,lov,fuv,cov,hpf,hty,hsa,hma,hlo,hfu,hco⟩:=hQ.prof
 obtain ⟨p1,l1,c1,rfl,hl1, -,hx1⟩:=hty.openF
 obtain ⟨p2,l2,c2,rfl,hl2, -,hx2⟩:=hsa.openF
 obtain ⟨p3,l3,c3,rfl,hl3, -,hx3⟩:=hma.openF
 obtain ⟨p4,l4,c4,rfl,hl4, -,hx4⟩:=hlo.openF
 obtain ⟨p5,l5,c5,rfl,hl5, -,hx5⟩:=hfu.openF
 obtain ⟨p6,l6,c6,rfl,hl6, -, -⟩:=hco.openF
 obtain rfl:l1=x.types.length:=by have:=hQ.types.1;simp at hl1;omega
 obtain rfl:l2=x.samples.length:=by have:=hQ.sams.1;simp at hl2;omega
 obtain rfl:l3=x.mappings.length:=by have:=hQ.maps.1;simp at hl3;omega
 obtain rfl:l4=x.locs.length:=by have:=hQ.locs.1;simp at hl4;omega
 obtain rfl:l5=x.funcs.length:=by have:=hQ.funs.1;simp at hl5;omega
 obtain rfl:l6=x.comments.length:=by simp at hl6;omega
 have hc0:=mc (f:=⟨w,w.heap.size,[]⟩) hpf rfl
 have hcp:=mc (f:=⟨w,w.heap.size,[]⟩) hQ.per rfl
 have hn1:=hx.ntyp
 have hn2:=hx.nsam
 have hn6:=hx.ncom
 have hn3:=hx.nm
 have hn5:=hx.nf
 have hn4:=hx.nl
 have hBm:∀b∈g.maps,∃cs,Blk w b tMap cs:=Each.all (hQ.maps.mono (ψ:=fun b _=>∃cs,Blk w b tMap cs) fun b m h=>⟨_,h⟩)
 have hBf:∀b∈g.funs,∃cs,Blk w b tFun cs:=Each.all (hQ.funs.mono (ψ:=fun b _=>∃cs,Blk w b tFun cs) fun b m h=>⟨_,h⟩)
 have hBl:∀b∈g.locs,∃cs,Blk w b tLoc cs:=Each.all (hQ.locs.mono (ψ:=fun b _=>∃cs,Blk w b tLoc cs) fun b m h=>by obtain ⟨ls,h1, -⟩:=h.ex;exact ⟨_,h1⟩)
 refine startJ (args:=[_]) [(0,_)] w.heap.size [] [] Tryz.func15 rfl Tryz.ntmps15 rfl rfl .nil ?_
 refine sQ fun K1=>cj_reg (j_allocA (zs:=[(.slice none 0 0),(.string ⟨#[]⟩),(.slice none 0 0),(.slice none 0 0),(.slice none 0 0),(.slice none 0 0),(.slice none 0 0),(.string ⟨#[]⟩),(.string ⟨#[]⟩),(.int .i64 0),(.int .i64 0),(.int .i64 0),(.string ⟨#[]⟩),(.string ⟨#[]⟩)]) zv33 rfl fun b2=>K1 ?_)
 refine cj_seqJ ((fun s:{q:Nat×Ent×Option Addr×Nat//Own tStr 1 q.2.1 q.2.2.1 x.comments.length q.2.2.2 (x.comments.map .string)}=>[(0,ptr g.pb),(2,ptr b2),(3,ptr s.1.1)])) ((fun s=>[eI s.1.1 tIP (cOP x vN vN vN vN vN (.slice s.1.2.2.1 x.comments.length s.1.2.2.2) ⟨eB,eB⟩),eI b2 tIP zIP,s.1.2.1])) (fun KJ hKJ=>?_) (fun b3=>?_)
 ·refine cj_drawF 33 31 (lts [0,1,2,3,5,6,7,8,10,11,12,13,14,15,16,17,18,19,20,21,22,23,24,25,26,27,28,29]++(4,false)::((9,false)::(lts [30]++(31,false)::(32,false)::[]))) [] rfl (by kernel_rfl) (by kernel_rfl) ?_
  refine df_val rfl rfl (sub_of [] rfl) (fun _ _ h=>r_move rfl h) (df_val rfl rfl (sub_of [] rfl) (fun _ _ h=>r_nil rfl h) (df_val rfl rfl (sub_of [] rfl) (fun _ _ h=>r_fl (q:=1) (ft:=9) ru75 rfl so9 rfl h) (df_ld rfl rfl (sub_of [] rfl) (fun a w ha hS=>r_load ag9 rfl (hc0 w (hS.2) 1 _ rfl) ha) (df_val rfl rfl (sub_of [] rfl) (fun _ _ h=>r_move rfl h) (df_val rfl rfl (sub_of [] rfl) (fun _ _ h=>r_nil rfl h) (df_val rfl rfl (sub_of [] rfl) (fun _ _ h=>r_fl (q:=6) (ft:=29) ru75 rfl so29 rfl h) (df_ld rfl rfl (sub_of [] rfl) (fun a w ha hS=>r_load ag29 rfl (hc0 w (hS.2) 6 _ rfl) ha) (df_val rfl rfl (sub_of [] rfl) (fun _ _ h=>r_move rfl h) (df_val rfl rfl (sub_of [] rfl) (fun _ _ h=>r_nil rfl h) (df_val rfl rfl (sub_of [] rfl) (fun _ _ h=>r_fl (q:=7) (ft:=9) ru75 rfl so9 rfl h) (df_ld rfl rfl (sub_of [] rfl) (fun a w ha hS=>r_load ag9 rfl (hc0 w (hS.2) 7 _ rfl) ha) (df_val rfl rfl (sub_of [] rfl) (fun _ _ h=>r_move rfl h) (df_val rfl rfl (sub_of [] rfl) (fun _ _ h=>r_nil rfl h) ?_)))))))))))))
  refine df_val rfl rfl (sub_of [] rfl) (fun _ _ h=>r_fl (q:=8) (ft:=9) ru75 rfl so9 rfl h) (df_ld rfl rfl (sub_of [] rfl) (fun a w ha hS=>r_load ag9 rfl (hc0 w (hS.2) 8 _ rfl) ha) (df_val rfl rfl (sub_of [] rfl) (fun _ _ h=>r_move rfl h) (df_val rfl rfl (sub_of [] rfl) (fun _ _ h=>r_nil rfl h) (df_val rfl rfl (sub_of [] rfl) (fun _ _ h=>r_fl (q:=9) (ft:=2) ru75 rfl so2 rfl h) (df_ld rfl rfl (sub_of [] rfl) (fun a w ha hS=>r_load ag2 rfl (hc0 w (hS.2) 9 _ rfl) ha) (df_val rfl rfl (sub_of [] rfl) (fun _ _ h=>r_move rfl h) (df_val rfl rfl (sub_of [] rfl) (fun _ _ h=>r_nil rfl h) (df_val rfl rfl (sub_of [] rfl) (fun _ _ h=>r_fl (q:=10) (ft:=2) ru75 rfl so2 rfl h) (df_ld rfl rfl (sub_of [] rfl) (fun a w ha hS=>r_load ag2 rfl (hc0 w (hS.2) 10 _ rfl) ha) (df_val rfl rfl (sub_of [] rfl) (fun _ _ h=>r_move rfl h) (df_val rfl rfl (sub_of [] rfl) (fun _ _ h=>r_nil rfl h) (df_val rfl rfl (sub_of [] rfl) (fun _ _ h=>r_fl (q:=12) (ft:=2) ru75 rfl so2 rfl h) (df_ld rfl rfl (sub_of [] rfl) (fun a w ha hS=>r_load ag2 rfl (hc0 w (hS.2) 12 _ rfl) ha) ?_)))))))))))))
  refine df_fork rfl rfl rfl (fun K2 hK2=>?_) (fun K2 hK2=>?_)
  ·refine j_allocA (zs:=[(.slice none 0 0),(.string ⟨#[]⟩),(.slice none 0 0),(.slice none 0 0),(.slice none 0 0),(.slice none 0 0),(.slice none 0 0),(.string ⟨#[]⟩),(.string ⟨#[]⟩),(.int .i64 0),(.int .i64 0),(.int .i64 0),(.string ⟨#[]⟩),(.string ⟨#[]⟩)]) zv33 rfl fun b3=>j_nil (ej_then (hK2 _ _ (sub_of [] rfl) ?_));clear hK2 K2
   refine dE (h:=fun Kd=>j_bslice0 ru29 so9 rfl fun b24=>Kd (sb []) (dE (h:=fun Kd=>?_)))
   first|refine j_appS 0 rfl Own.empty ru29 el9 rfl rfl rfl hco rfl (fun z hz=>by obtain ⟨u, -,rfl⟩:=List.mem_map.1 hz;rfl) (by omega) rfl fun y29 p29 c29 hO29=>?_|refine j_appS 1 rfl Own.empty ru29 el9 rfl rfl rfl hco rfl (fun z hz=>by obtain ⟨u, -,rfl⟩:=List.mem_map.1 hz;rfl) (by omega) rfl fun y29 p29 c29 hO29=>?_
   refine Kd (sb []) ?_
   rw[Nat.zero_add,List.nil_append]at hO29
   first|refine dj_eqv (u:=.slice p29 x.comments.length c29) (by rw[Nat.zero_add]) ?_|refine df_eqv (u:=.slice p29 x.comments.length c29) (by rw[Nat.zero_add]) ?_
   refine dj_val rfl rfl (sub_of [] rfl) (fun _ _ h=>r_build (cs:=[(.slice none 0 0),_,(.slice none 0 0),(.slice none 0 0),(.slice none 0 0),(.slice none 0 0),_,_,_,_,_,_,(.string ⟨#[]⟩),(.string ⟨#[]⟩)]) bt33 rfl rfl h) (dE (h:=fun Kd=>jB [_,_,_,_,_,_,_,_,_,_,_,_,_,_] (_::_::_::_) 1 so33 (k:=Kd (sb []) (dj_end ?_))))
   first
    |exact ej_then (hKJ ⟨(b3,y29,p29,c29),hO29⟩ _ _ ⟨rfl,rfl,rfl,trivial⟩ fun w h=>Hp.sw2 h)
    |exact ej_then (hKJ ⟨(b3,y29,p29,c29),hO29⟩ _ _ ⟨rfl,rfl,rfl,trivial⟩ fun w h=>Hp.rot3 h)
  ·refine j_bslice0 ru29 so9 rfl fun b24=>j_nil (ej_then (hK2 _ _ (sub_of [] rfl) ?_));clear hK2 K2
   refine df_fork rfl rfl rfl (fun K2 hK2=>?_) (fun K2 hK2=>?_)
   ·refine j_allocA (zs:=[(.slice none 0 0),(.string ⟨#[]⟩),(.slice none 0 0),(.slice none 0 0),(.slice none 0 0),(.slice none 0 0),(.slice none 0 0),(.string ⟨#[]⟩),(.string ⟨#[]⟩),(.int .i64 0),(.int .i64 0),(.int .i64 0),(.string ⟨#[]⟩),(.string ⟨#[]⟩)]) zv33 rfl fun b3=>j_nil (ej_then (hK2 _ _ (sub_of [] rfl) ?_));clear hK2 K2
    refine dE (h:=fun Kd=>?_)
    first|refine j_appS 0 rfl Own.empty ru29 el9 rfl rfl rfl hco rfl (fun z hz=>by obtain ⟨u, -,rfl⟩:=List.mem_map.1 hz;rfl) (by omega) rfl fun y29 p29 c29 hO29=>?_|refine j_appS 1 rfl Own.empty ru29 el9 rfl rfl rfl hco rfl (fun z hz=>by obtain ⟨u, -,rfl⟩:=List.mem_map.1 hz;rfl) (by omega) rfl fun y29 p29 c29 hO29=>?_
    refine Kd (sb []) ?_
    rw[Nat.zero_add,List.nil_append]at hO29
    first|refine dj_eqv (u:=.slice p29 x.comments.length c29) (by rw[Nat.zero_add]) ?_|refine df_eqv (u:=.slice p29 x.comments.length c29) (by rw[Nat.zero_add]) ?_
    refine dj_val rfl rfl (sub_of [] rfl) (fun _ _ h=>r_build (cs:=[(.slice none 0 0),_,(.slice none 0 0),(.slice none 0 0),(.slice none 0 0),(.slice none 0 0),_,_,_,_,_,_,(.string ⟨#[]⟩),(.string ⟨#[]⟩)]) bt33 rfl rfl h) (dE (h:=fun Kd=>jB [_,_,_,_,_,_,_,_,_,_,_,_,_,_] (_::_::_::_) 0 so33 (k:=Kd (sb []) (dj_end ?_))))
    first
     |exact ej_then (hKJ ⟨(b3,y29,p29,c29),hO29⟩ _ _ ⟨rfl,rfl,rfl,trivial⟩ fun w h=>Hp.sw2 h)
     |exact ej_then (hKJ ⟨(b3,y29,p29,c29),hO29⟩ _ _ ⟨rfl,rfl,rfl,trivial⟩ fun w h=>Hp.rot3 h)
   ·first|refine j_appS 0 rfl Own.empty ru29 el9 rfl rfl rfl hco rfl (fun z hz=>by obtain ⟨u, -,rfl⟩:=List.mem_map.1 hz;rfl) (by omega) rfl fun y29 p29 c29 hO29=>?_|refine j_appS 1 rfl Own.empty ru29 el9 rfl rfl rfl hco rfl (fun z hz=>by obtain ⟨u, -,rfl⟩:=List.mem_map.1 hz;rfl) (by omega) rfl fun y29 p29 c29 hO29=>?_
    refine j_nil (ej_then (hK2 _ _ (sub_of [] rfl) ?_));clear hK2 K2
    rw[Nat.zero_add,List.nil_append]at hO29
    first|refine dj_eqv (u:=.slice p29 x.comments.length c29) (by rw[Nat.zero_add]) ?_|refine df_eqv (u:=.slice p29 x.comments.length c29) (by rw[Nat.zero_add]) ?_
    refine df_val rfl rfl (sub_of [] rfl) (fun _ _ h=>r_build (cs:=[(.slice none 0 0),_,(.slice none 0 0),(.slice none 0 0),(.slice none 0 0),(.slice none 0 0),_,_,_,_,_,_,(.string ⟨#[]⟩),(.string ⟨#[]⟩)]) bt33 rfl rfl h) ?_
    refine df_al rfl fun K2 hK2=>?_
    refine j_allocA (zs:=[(.slice none 0 0),(.string ⟨#[]⟩),(.slice none 0 0),(.slice none 0 0),(.slice none 0 0),(.slice none 0 0),(.slice none 0 0),(.string ⟨#[]⟩),(.string ⟨#[]⟩),(.int .i64 0),(.int .i64 0),(.int .i64 0),(.string ⟨#[]⟩),(.string ⟨#[]⟩)]) zv33 rfl fun b3=>j_nil (ej_then (hK2 _ _ (sub_of [] rfl) ?_));clear hK2 K2
    refine dE (h:=fun Kd=>jB [_,_,_,_,_,_,_,_,_,_,_,_,_,_] (_::_::_::_) 0 so33 (k:=Kd (sb []) (dj_end ?_)))
    first
     |exact ej_then (hKJ ⟨(b3,y29,p29,c29),hO29⟩ _ _ ⟨rfl,rfl,rfl,trivial⟩ fun w h=>Hp.sw2 h)
     |exact ej_then (hKJ ⟨(b3,y29,p29,c29),hO29⟩ _ _ ⟨rfl,rfl,rfl,trivial⟩ fun w h=>Hp.rot3 h)
 ·obtain ⟨⟨b3,yC,pC,cC⟩,hOC⟩:=b3
  replace hOC:Own tStr 1 yC pC x.comments.length cC (x.comments.map .string):=hOC
  refine cj_seqF fun K2 hK2=>sQ fun K3=>cj_reg (jM (k:=jN (k:=jF 11 ru75 so67 (k:=jL ag67 hc0 11 (k:=?_)))))
  refine j_val rfl (fun _ _ h=>r_pnneq ud67 rfl h) (K3 (CJ.t [(0,_),(2,_),(3,_),(55,_)] (k:=?_)))
  refine cj_if_t rfl (cj_drawI 17 (lts [0,1,2,3,4,5,6,7,8,9,10,11,12,13,14,15]++(16,false)::[]) [] rfl (by kernel_rfl) (by kernel_rfl) (dM [] (k:=dN [] (k:=dF [] 11 ru75 so67 (k:=dL [] ag67 hc0 11 (k:=dN [] (k:=dF [] 0 ru122 so9 (k:=dL [] ag9 hcp 0 (k:=dM [] (k:=dN [] (k:=dF [] 11 ru75 so67 (k:=dL [] ag67 hc0 11 (k:=dN [] (k:=?_))))))))))))))
  refine dF [] 1 ru122 so9 (k:=dL [] ag9 hcp 1 (k:=?_))
  refine dj_val rfl rfl (sub_of [] rfl) (fun _ _ h=>r_build (cs:=[_,_]) bt31 rfl rfl h) (dF [] 12 ru33 so31 (k:=dE (h:=fun Kd=>jB [_,_,_,_,_,_,_,_,_,_,_,_,_,_] (_::_::_::_) 0 so31 (k:=Kd (sb []) (dj_end (ej_then (hK2 _ _ _ (CJ.t [(0,_),(2,_),(3,_)] (k:=sQ fun K4=>sQ fun K5=>cj_reg (jM (k:=jN (k:=jF 0 ru75 so69 (k:=?_)))))))))))))
  refine jL ag69 hc0 0 (k:=jE ru69 (k:=jM (k:=K5 (cj_block ?_))))
  refine cj_loop (σ:=Nat×Ent×Option Addr×Nat) (fun s=>[(0,ptr g.pb),(2,ptr b2),(3,ptr b3),(75,.slice p1 x.types.length c1),(76,.int .i64 (x.types.length:Nat)),(77,.int .i64 (s.1:Nat))])
   (fun s=>s.2.1::eI b3 tIP (cOP x (.slice s.2.2.1 s.1 s.2.2.2) (vN) (vN) (vN) (vN) (.slice pC x.comments.length cC) x.per)::eI b2 tIP zIP::[yC])
   (fun s _=>s.1≤x.types.length∧Own tTy 2 s.2.1 s.2.2.1 s.1 s.2.2.2 ((x.types.take s.1).flatMap cTyI)) (fun s=>x.types.length - s.1)
   (0,nilE tTy,none,0) sR (fun w' hH hf=>⟨Hp.off hH,Nat.zero_le _,Own.nil⟩) ?_
  rintro ⟨k1,y1,q1,d1⟩ w1 ⟨hk1,hO1⟩ hf1 hH1 KL1 hKL1
  try dsimp only at hk1 hO1
  refine C.begin _ _ hf1 hH1 ?_
  try dsimp only
  refine sQ fun K6=>cj_reg (jS (k:=K6 (sQ fun K7=>?_)))
  refine cj_dec rfl (fun h78=>?_) (fun h78=>?_)
  ·have hk':k1<x.types.length:=by omega
   obtain ⟨bq,rfl,hsq⟩:=hx1 (by omega)
   have hkb:k1<g.types.length:=by rw[hQ.types.1];exact hk'
   have hst:=hQ.types.2 _ _ _ (List.getElem?_eq_getElem hkb) (List.getElem?_eq_getElem hk')
   have hcell:∀w',Fm.ok ⟨w,w.heap.size,[]⟩ w'→w'.cell? ⟨bq,0+k1*1,none⟩=some (ptr g.types[k1]):=fun w' hf=>by
    have h:=hsq ⟨w,w.heap.size,[]⟩ rfl rfl w' hf k1 (ptr g.types[k1]) (by rw[List.getElem?_map,List.getElem?_eq_getElem hkb];rfl)
    simpa using h
   have hcm:=mc (f:=⟨w,w.heap.size,[]⟩) (T:=tVT) hst rfl
   refine cj_skip (K7 (sQ fun K8=>cj_block (sQ fun K9=>cj_reg (jJ ru69 so67 (k:=?_)))))
   refine j_valw rfl (fun a w ha hH hf=>r_load ag67 rfl (hcell w hf) ha) (jA (k:=K9 ?_))
   refine cj_drawI 14 (lts [0,1,2,3,4,5,6,7,8,9,10]++(11,false)::((12,false)::(lts [13]++(14,false)::[]))) [1] rfl (by kernel_rfl) (by kernel_rfl) (dF [1] 0 ru33 so24 (k:=dH [1] 0 ag24 (k:=dM [1] (k:=dN [1] (k:=dF [1] 0 ru122 so9 (k:=dL [1] ag9 hcm 0 (k:=dM [1] (k:=dN [1] (k:=dF [1] 1 ru122 so9 (k:=dL [1] ag9 hcm 1 (k:=?_)))))))))))
   refine dj_val rfl rfl (sub_of [1] rfl) (fun _ _ h=>r_build (cs:=[_,_]) bt31 rfl rfl h) (dE (h:=fun Kd=>j_bslice1 ru24 so31 zv31 rfl rfl rfl rfl rfl fun b92=>Kd (sb [2]) (dE (h:=fun Kd=>?_))))
   refine j_appO 0 rfl hO1 ru24 el31 rfl rfl rfl rfl rfl (by omega) rfl fun y93 p93 c93 hO93=>?_
   refine Kd (sb [1]) (dF [1] 0 ru33 so24 (k:=dE (h:=fun Kd=>jB [_,_,_,_,_,_,_,_,_,_,_,_,_,_] (_::_::_) 1 so24 (k:=Kd (.inl rfl) (K8 (CJ.t [(0,_),(2,_),(3,_),(75,_),(76,_),(77,_)] (k:=cj_reg (jI (k:=jM (k:=j_nil (ej_then ?_)))))))))))
   exact fun w' hH hf=>hKL1 (k1+1,y93,p93,c93) _ w' ⟨hk',by rw[take_flat hk'];exact hO93⟩ hf hH (by simp only;omega) sR
  ·have hke1:k1=x.types.length:=by omega
   rw[List.take_of_length_le (by omega)]at hO1
   refine cj_exit (K4 (sQ fun K10=>sQ fun K11=>cj_reg (jM (k:=jN (k:=jF 3 ru75 so71 (k:=jL ag71 hc0 3 (k:=jE ru71 (k:=jM (k:=K11 (cj_block ?_))))))))))
   refine cj_loop (σ:=Nat×Ent×Option Addr×Nat) (fun s=>[(0,ptr g.pb),(2,ptr b2),(3,ptr b3),(99,.slice p3 x.mappings.length c3),(100,.int .i64 (x.mappings.length:Nat)),(101,.int .i64 (s.1:Nat))])
    (fun s=>s.2.1::eI b3 tIP (cOP x (.slice q1 k1 d1) (vN) (.slice s.2.2.1 s.1 s.2.2.2) (vN) (vN) (.slice pC x.comments.length cC) x.per)::eI b2 tIP zIP::y1::[yC])
    (fun s _=>s.1≤x.mappings.length∧Own tMp 10 s.2.1 s.2.2.1 s.1 s.2.2.2 ((x.mappings.take s.1).flatMap cMpI)) (fun s=>x.mappings.length - s.1)
    (0,nilE tMp,none,0) sR (fun w' hH hf=>⟨Hp.off (Hp.rot3 hH),Nat.zero_le _,Own.nil⟩) ?_
   rintro ⟨k3,y3,q3,d3⟩ w3 ⟨hk3,hO3⟩ hf3 hH3 KL3 hKL3
   try dsimp only at hk3 hO3
   refine C.begin _ _ hf3 hH3 ?_
   try dsimp only
   refine sQ fun K12=>cj_reg (jS (k:=K12 (sQ fun K13=>?_)))
   refine cj_dec rfl (fun h102=>?_) (fun h102=>?_)
   ·have hk':k3<x.mappings.length:=by omega
    obtain ⟨bq,rfl,hsq⟩:=hx3 (by omega)
    have hkb:k3<g.maps.length:=by rw[hQ.maps.1];exact hk'
    have hst:=hQ.maps.2 _ _ _ (List.getElem?_eq_getElem hkb) (List.getElem?_eq_getElem hk')
    have hcell:∀w',Fm.ok ⟨w,w.heap.size,[]⟩ w'→w'.cell? ⟨bq,0+k3*1,none⟩=some (ptr g.maps[k3]):=fun w' hf=>by
     have h:=hsq ⟨w,w.heap.size,[]⟩ rfl rfl w' hf k3 (ptr g.maps[k3]) (by rw[List.getElem?_map,List.getElem?_eq_getElem hkb];rfl)
     simpa using h
    have hcm:=mc (f:=⟨w,w.heap.size,[]⟩) (T:=tMap) hst rfl
    refine cj_skip (K13 (sQ fun K14=>cj_block (sQ fun K15=>cj_reg (jJ ru71 so79 (k:=?_)))))
    refine j_valw rfl (fun a w ha hH hf=>r_load ag79 rfl (hcell w hf) ha) (jA (k:=K15 ?_))
    refine cj_drawI 46 (lts [0,1,2,3,4,5,6,7,8,9,10,11,12,13,14,15,16,17,18,19,20,21,22,23,24,25,26,27,28,29,30,31,32,33,34,35,36,37,38,39,40,41,42]++(43,false)::((44,false)::(lts [45]++(46,false)::[]))) [1] rfl (by kernel_rfl) (by kernel_rfl) (dF [1] 3 ru33 so26 (k:=dH [1] 0 ag26 (k:=dM [1] (k:=dN [1] (k:=dF [1] 0 ru81 so76 (k:=dL [1] ag76 hcm 0 (k:=dM [1] (k:=dN [1] (k:=dF [1] 1 ru81 so76 (k:=dL [1] ag76 hcm 1 (k:=dM [1] (k:=dN [1] (k:=dF [1] 2 ru81 so76 (k:=?_))))))))))))))
    refine dL [1] ag76 hcm 2 (k:=dM [1] (k:=dN [1] (k:=dF [1] 3 ru81 so76 (k:=dL [1] ag76 hcm 3 (k:=dM [1] (k:=dN [1] (k:=dF [1] 4 ru81 so9 (k:=dL [1] ag9 hcm 4 (k:=dM [1] (k:=dN [1] (k:=dF [1] 5 ru81 so9 (k:=dL [1] ag9 hcm 5 (k:=dM [1] (k:=?_))))))))))))))
    refine dN [1] (k:=dF [1] 6 ru81 so4 (k:=dL [1] ag4 hcm 6 (k:=dM [1] (k:=dN [1] (k:=dF [1] 7 ru81 so4 (k:=dL [1] ag4 hcm 7 (k:=dM [1] (k:=dN [1] (k:=dF [1] 8 ru81 so4 (k:=dL [1] ag4 hcm 8 (k:=dM [1] (k:=dN [1] (k:=dF [1] 9 ru81 so4 (k:=?_))))))))))))))
    refine dL [1] ag4 hcm 9 (k:=?_)
    refine dj_val rfl rfl (sub_of [1] rfl) (fun _ _ h=>r_build (cs:=[_,_,_,_,_,_,_,_,_,_]) bt78 rfl rfl h) (dE (h:=fun Kd=>j_bslice1 ru26 so78 zv78 rfl rfl rfl rfl rfl fun b148=>Kd (sb [2]) (dE (h:=fun Kd=>?_))))
    refine j_appO 0 rfl hO3 ru26 el78 rfl rfl rfl rfl rfl (by omega) rfl fun y149 p149 c149 hO149=>?_
    refine Kd (sb [1]) (dF [1] 3 ru33 so26 (k:=dE (h:=fun Kd=>jB [_,_,_,_,_,_,_,_,_,_,_,_,_,_] (_::_::_) 1 so26 (k:=Kd (.inl rfl) (K14 (CJ.t [(0,_),(2,_),(3,_),(99,_),(100,_),(101,_)] (k:=cj_reg (jI (k:=jM (k:=j_nil (ej_then ?_)))))))))))
    exact fun w' hH hf=>hKL3 (k3+1,y149,p149,c149) _ w' ⟨hk',by rw[take_flat hk'];exact hO149⟩ hf hH (by simp only;omega) sR
   ·have hke3:k3=x.mappings.length:=by omega
    rw[List.take_of_length_le (by omega)]at hO3
    refine cj_exit (K10 (sQ fun K16=>sQ fun K17=>cj_reg (jM (k:=jN (k:=jF 5 ru75 so73 (k:=jL ag73 hc0 5 (k:=jE ru73 (k:=jM (k:=K17 (cj_block ?_))))))))))
    refine cj_loop (σ:=Nat×Ent×Option Addr×Nat) (fun s=>[(0,ptr g.pb),(2,ptr b2),(3,ptr b3),(155,.slice p5 x.funcs.length c5),(156,.int .i64 (x.funcs.length:Nat)),(157,.int .i64 (s.1:Nat))])
     (fun s=>s.2.1::eI b3 tIP (cOP x (.slice q1 k1 d1) (vN) (.slice q3 k3 d3) (vN) (.slice s.2.2.1 s.1 s.2.2.2) (.slice pC x.comments.length cC) x.per)::eI b2 tIP zIP::y3::y1::[yC])
     (fun s _=>s.1≤x.funcs.length∧Own tFn 5 s.2.1 s.2.2.1 s.1 s.2.2.2 ((x.funcs.take s.1).flatMap cFnI)) (fun s=>x.funcs.length - s.1)
     (0,nilE tFn,none,0) sR (fun w' hH hf=>⟨Hp.off (Hp.rot3 hH),Nat.zero_le _,Own.nil⟩) ?_
    rintro ⟨k5,y5,q5,d5⟩ w5 ⟨hk5,hO5⟩ hf5 hH5 KL5 hKL5
    try dsimp only at hk5 hO5
    refine C.begin _ _ hf5 hH5 ?_
    try dsimp only
    refine sQ fun K18=>cj_reg (jS (k:=K18 (sQ fun K19=>?_)))
    refine cj_dec rfl (fun h158=>?_) (fun h158=>?_)
    ·have hk':k5<x.funcs.length:=by omega
     obtain ⟨bq,rfl,hsq⟩:=hx5 (by omega)
     have hkb:k5<g.funs.length:=by rw[hQ.funs.1];exact hk'
     have hst:=hQ.funs.2 _ _ _ (List.getElem?_eq_getElem hkb) (List.getElem?_eq_getElem hk')
     have hcell:∀w',Fm.ok ⟨w,w.heap.size,[]⟩ w'→w'.cell? ⟨bq,0+k5*1,none⟩=some (ptr g.funs[k5]):=fun w' hf=>by
      have h:=hsq ⟨w,w.heap.size,[]⟩ rfl rfl w' hf k5 (ptr g.funs[k5]) (by rw[List.getElem?_map,List.getElem?_eq_getElem hkb];rfl)
      simpa using h
     have hcm:=mc (f:=⟨w,w.heap.size,[]⟩) (T:=tFun) hst rfl
     refine cj_skip (K19 (sQ fun K20=>cj_block (sQ fun K21=>cj_reg (jJ ru73 so84 (k:=?_)))))
     refine j_valw rfl (fun a w ha hH hf=>r_load ag84 rfl (hcell w hf) ha) (jA (k:=K21 ?_))
     refine cj_drawI 26 (lts [0,1,2,3,4,5,6,7,8,9,10,11,12,13,14,15,16,17,18,19,20,21,22]++(23,false)::((24,false)::(lts [25]++(26,false)::[]))) [1] rfl (by kernel_rfl) (by kernel_rfl) (dF [1] 5 ru33 so28 (k:=dH [1] 0 ag28 (k:=dM [1] (k:=dN [1] (k:=dF [1] 0 ru86 so76 (k:=dL [1] ag76 hcm 0 (k:=dM [1] (k:=dN [1] (k:=dF [1] 1 ru86 so9 (k:=dL [1] ag9 hcm 1 (k:=dM [1] (k:=dN [1] (k:=dF [1] 2 ru86 so9 (k:=?_))))))))))))))
     refine dL [1] ag9 hcm 2 (k:=dM [1] (k:=dN [1] (k:=dF [1] 3 ru86 so9 (k:=dL [1] ag9 hcm 3 (k:=dM [1] (k:=dN [1] (k:=dF [1] 4 ru86 so2 (k:=dL [1] ag2 hcm 4 (k:=?_)))))))))
     refine dj_val rfl rfl (sub_of [1] rfl) (fun _ _ h=>r_build (cs:=[_,_,_,_,_]) bt83 rfl rfl h) (dE (h:=fun Kd=>j_bslice1 ru28 so83 zv83 rfl rfl rfl rfl rfl fun b184=>Kd (sb [2]) (dE (h:=fun Kd=>?_))))
     refine j_appO 0 rfl hO5 ru28 el83 rfl rfl rfl rfl rfl (by omega) rfl fun y185 p185 c185 hO185=>?_
     refine Kd (sb [1]) (dF [1] 5 ru33 so28 (k:=dE (h:=fun Kd=>jB [_,_,_,_,_,_,_,_,_,_,_,_,_,_] (_::_::_) 1 so28 (k:=Kd (.inl rfl) (K20 (CJ.t [(0,_),(2,_),(3,_),(155,_),(156,_),(157,_)] (k:=cj_reg (jI (k:=jM (k:=j_nil (ej_then ?_)))))))))))
     exact fun w' hH hf=>hKL5 (k5+1,y185,p185,c185) _ w' ⟨hk',by rw[take_flat hk'];exact hO185⟩ hf hH (by simp only;omega) sR
    ·have hke5:k5=x.funcs.length:=by omega
     rw[List.take_of_length_le (by omega)]at hO5
     refine cj_exit (K16 (sQ fun K22=>sQ fun K23=>cj_reg (jM (k:=jN (k:=jF 4 ru75 so72 (k:=jL ag72 hc0 4 (k:=jE ru72 (k:=jM (k:=K23 (cj_block ?_))))))))))
     refine cj_loop (σ:=Nat×Ent×Option Addr×Nat×List (PLoc×Value)×Heap) (fun s=>[(0,ptr g.pb),(2,ptr b2),(3,ptr b3),(191,.slice p4 x.locs.length c4),(192,.int .i64 (x.locs.length:Nat)),(193,.int .i64 (s.1:Nat))])
      (fun s=>s.2.1::eI b3 tIP (cOP x (.slice q1 k1 d1) (vN) (.slice q3 k3 d3) (.slice s.2.2.1 s.1 s.2.2.2.1) (.slice q5 k5 d5) (.slice pC x.comments.length cC) x.per)::eI b2 tIP zIP::s.2.2.2.2.2)
      (fun s _=>s.1≤x.locs.length∧s.2.2.2.2.1.map (·.1)=x.locs.take s.1∧Own tLc 4 s.2.1 s.2.2.1 s.1 s.2.2.2.1 (s.2.2.2.2.1.flatMap cLcI)∧(∀q∈s.2.2.2.2.1,∃z∈s.2.2.2.2.2,∃p c,q.2=.slice p q.1.lines.length c∧Own tLn 2 z p q.1.lines.length c (q.1.lines.flatMap cLnI))∧∀z∈[y5,y3,y1,yC],z∈s.2.2.2.2.2) (fun s=>x.locs.length - s.1)
      (0,nilE tLc,none,0,[],[y5,y3,y1,yC]) sR (fun w' hH hf=>⟨Hp.off (Hp.rot3 hH),Nat.zero_le _,rfl,Own.nil,fun q hq=>(by cases hq),fun z hz=>hz⟩) ?_
     rintro ⟨k4,y4,q4,d4,lq,RL⟩ w4 ⟨hk4,hlq,hO4,hLQ,hRL⟩ hf4 hH4 KL4 hKL4
     try dsimp only at hk4 hlq hO4 hLQ hRL
     refine C.begin _ _ hf4 hH4 ?_
     try dsimp only
     refine sQ fun K24=>cj_reg (jS (k:=K24 (sQ fun K25=>?_)))
     refine cj_dec rfl (fun h194=>?_) (fun h194=>?_)
     ·have hk':k4<x.locs.length:=by omega
      obtain ⟨bq,rfl,hsq⟩:=hx4 (by omega)
      have hkb:k4<g.locs.length:=by rw[hQ.locs.1];exact hk'
      obtain ⟨lsv,hst,hls⟩:=(hQ.locs.2 _ _ _ (List.getElem?_eq_getElem hkb) (List.getElem?_eq_getElem hk')).ex
      obtain ⟨pL,lL,cL,rfl,hlL, -,hLx⟩:=hls.openF
      obtain rfl:lL=x.locs[k4].lines.length:=by rw[flatMap_len (c:=cLine g.funs) (sz:=3) (fun _=>rfl)]at hlL;omega
      have hcell:∀w',Fm.ok ⟨w,w.heap.size,[]⟩ w'→w'.cell? ⟨bq,0+k4*1,none⟩=some (ptr g.locs[k4]):=fun w' hf=>by
       have h:=hsq ⟨w,w.heap.size,[]⟩ rfl rfl w' hf k4 (ptr g.locs[k4]) (by rw[List.getElem?_map,List.getElem?_eq_getElem hkb];rfl)
       simpa using h
      have hcl:=mc (f:=⟨w,w.heap.size,[]⟩) (T:=tLoc) hst rfl
      obtain ⟨⟨hm1,hm2⟩,hl60,hln⟩:=hx.locs _ (List.getElem_mem hk')
      refine cj_skip (K25 (sQ fun K26=>cj_block (sQ fun K27=>cj_reg (jJ ru72 so90 (k:=?_)))))
      refine j_valw rfl (fun a w ha hH hf=>r_load ag90 rfl (hcell w hf) ha) (jA (k:=K27 ?_))
      refine cj_seqJ ((fun b12:Nat=>[(0,ptr g.pb),(2,ptr b2),(3,ptr b3),(11,ptr g.locs[k4]),(12,ptr b12),(191,.slice (some ⟨bq,0,none⟩) x.locs.length c4),(192,.int .i64 (x.locs.length:Nat)),(193,.int .i64 (k4:Nat))])) ((fun b12:Nat=>eI b12 tLc [.int .u64 x.locs[k4].id,.int .i64 x.locs[k4].mapping,.int .u64 x.locs[k4].addr,vN]::y4::eI b3 tIP (cOP x (.slice q1 k1 d1) (vN) (.slice q3 k3 d3) (.slice q4 k4 d4) (.slice q5 k5 d5) (.slice pC x.comments.length cC) x.per)::eI b2 tIP zIP::RL)) (fun KJ hKJ=>?_) (fun b12=>?_)
      ·refine cj_drawF 20 18 (lts [0,1,2,3,4,5,6,7,8,9,10,11,13,14,15,16]++(12,false)::(lts [17]++(18,false)::(19,false)::[])) [] rfl (by kernel_rfl) (by kernel_rfl) ?_
       refine df_val rfl rfl (sub_of [] rfl) (fun _ _ h=>r_move rfl h) (df_val rfl rfl (sub_of [] rfl) (fun _ _ h=>r_nil rfl h) (df_val rfl rfl (sub_of [] rfl) (fun _ _ h=>r_fl (q:=0) (ft:=76) ru93 rfl so76 rfl h) (df_ld rfl rfl (sub_of [] rfl) (fun a w ha hS=>r_load ag76 rfl (hcl w (hS.2) 0 _ rfl) ha) (df_val rfl rfl (sub_of [] rfl) (fun _ _ h=>r_move rfl h) (df_val rfl rfl (sub_of [] rfl) (fun _ _ h=>r_nil rfl h) (df_val rfl rfl (sub_of [] rfl) (fun _ _ h=>r_fl (q:=3) (ft:=71) ru75 rfl so71 rfl h) (df_ld rfl rfl (sub_of [] rfl) (fun a w ha hS=>r_load ag71 rfl (hc0 w (hS.2) 3 _ rfl) ha) (df_val rfl rfl (sub_of [] rfl) (fun _ _ h=>r_move rfl h) (df_val rfl rfl (sub_of [] rfl) (fun _ _ h=>r_nil rfl h) (df_val rfl rfl (sub_of [] rfl) (fun _ _ h=>r_fl (q:=1) (ft:=79) ru93 rfl so79 rfl h) (df_ld rfl rfl (sub_of [] rfl) (fun a w ha hS=>r_load ag79 rfl (hcl w (hS.2) 1 _ rfl) ha) (df_val rfl rfl (sub_of [] rfl) (fun _ _ h=>r_move rfl h) (df_val rfl rfl (sub_of [] rfl) (fun _ _ h=>r_nil rfl h) ?_)))))))))))))
       refine df_val rfl rfl (sub_of [] rfl) (fun _ _ h=>r_fl (q:=2) (ft:=76) ru93 rfl so76 rfl h) (df_ld rfl rfl (sub_of [] rfl) (fun a w ha hS=>r_load ag76 rfl (hcl w (hS.2) 2 _ rfl) ha) ?_)
       refine df_fork rfl rfl rfl (fun K2 hK2=>?_) (fun K2 hK2=>?_)
       ·refine j_allocA (zs:=[(.int .u64 0),(.int .i64 0),(.int .u64 0),(.slice none 0 0)]) zv89 rfl fun b12=>j_nil (ej_then (hK2 _ _ (sub_of [] rfl) ?_));clear hK2 K2
        refine dE (h:=fun Kd=>?_)
        refine j_callQ (φ:=fun v=>v=.int .i64 x.locs[k4].mapping) Tryz.call36 rfl rfl (fun w3 hH hf=>idxM_c w3 g.maps _ x.locs[k4].mapping (hma.mono (fr_row hf rfl)) (fun b hb=>by obtain ⟨cs,h⟩:=hBm b hb;exact ⟨cs,fr_row hf rfl _ _ h⟩) hQ.nmaps hm1 (by rw[hQ.maps.1];exact hm2) (by rw[hQ.maps.1];omega)) fun v hv=>?_
        subst hv
        refine Kd (sb []) (dj_val rfl rfl (sub_of [] rfl) (fun _ _ h=>r_build (cs:=[_,_,_,(.slice none 0 0)]) bt89 rfl rfl h) (dE (h:=fun Kd=>jB [_,_,_,_] (_::_::_::_::_) 0 so89 (k:=Kd (sb []) (dj_end ?_)))))
        exact ej_then (hKJ b12 _ _ ⟨rfl,rfl,rfl,rfl,rfl,rfl,rfl,rfl,trivial⟩ fun w h=>h)
       ·refine j_callQ (φ:=fun v=>v=.int .i64 x.locs[k4].mapping) Tryz.call36 rfl rfl (fun w3 hH hf=>idxM_c w3 g.maps _ x.locs[k4].mapping (hma.mono (fr_row hf rfl)) (fun b hb=>by obtain ⟨cs,h⟩:=hBm b hb;exact ⟨cs,fr_row hf rfl _ _ h⟩) hQ.nmaps hm1 (by rw[hQ.maps.1];exact hm2) (by rw[hQ.maps.1];omega)) fun v hv=>?_
        subst hv
        refine j_nil (ej_then (hK2 _ _ (sub_of [] rfl) ?_));clear hK2 K2
        refine df_val rfl rfl (sub_of [] rfl) (fun _ _ h=>r_build (cs:=[_,_,_,(.slice none 0 0)]) bt89 rfl rfl h) ?_
        refine df_al rfl fun K2 hK2=>?_
        refine j_allocA (zs:=[(.int .u64 0),(.int .i64 0),(.int .u64 0),(.slice none 0 0)]) zv89 rfl fun b12=>j_nil (ej_then (hK2 _ _ (sub_of [] rfl) ?_));clear hK2 K2
        refine dE (h:=fun Kd=>jB [_,_,_,_] (_::_::_::_::_) 0 so89 (k:=Kd (sb []) (dj_end ?_)))
        exact ej_then (hKJ b12 _ _ ⟨rfl,rfl,rfl,rfl,rfl,rfl,rfl,rfl,trivial⟩ fun w h=>h)
      ·refine sQ fun K28=>sQ fun K29=>cj_reg (jM (k:=jN (k:=jF 3 ru93 so91 (k:=jL ag91 hcl 3 (k:=jE ru91 (k:=jM (k:=K29 (CJ.t [(0,_),(2,_),(3,_),(12,_),(191,_),(192,_),(193,_),(218,_),(219,_),(220,_)] (k:=cj_block ?_)))))))))
       refine cj_loop (σ:=Nat×Ent×Option Addr×Nat) (fun s=>[(0,ptr g.pb),(2,ptr b2),(3,ptr b3),(12,ptr b12),(191,.slice (some ⟨bq,0,none⟩) x.locs.length c4),(192,.int .i64 (x.locs.length:Nat)),(193,.int .i64 (k4:Nat)),(218,.slice pL x.locs[k4].lines.length cL),(219,.int .i64 (x.locs[k4].lines.length:Nat)),(220,.int .i64 (s.1:Nat))])
        (fun s=>s.2.1::eI b12 tLc [.int .u64 x.locs[k4].id,.int .i64 x.locs[k4].mapping,.int .u64 x.locs[k4].addr,.slice s.2.2.1 s.1 s.2.2.2]::y4::eI b3 tIP (cOP x (.slice q1 k1 d1) (vN) (.slice q3 k3 d3) (.slice q4 k4 d4) (.slice q5 k5 d5) (.slice pC x.comments.length cC) x.per)::eI b2 tIP zIP::RL)
        (fun s _=>s.1≤x.locs[k4].lines.length∧Own tLn 2 s.2.1 s.2.2.1 s.1 s.2.2.2 ((x.locs[k4].lines.take s.1).flatMap cLnI)) (fun s=>x.locs[k4].lines.length - s.1)
        (0,nilE tLn,none,0) sR (fun w' hH hf=>⟨Hp.off hH,Nat.zero_le _,Own.nil⟩) ?_
       rintro ⟨j,yj,qj,dj⟩ wj ⟨hj,hOj⟩ hfj hHj KLj hKLj
       try dsimp only at hj hOj
       refine C.begin _ _ hfj hHj ?_
       try dsimp only
       refine sQ fun K30=>cj_reg (jS (k:=K30 (sQ fun K31=>?_)))
       refine cj_dec rfl (fun h221=>?_) (fun h221=>?_)
       ·have hj':j<x.locs[k4].lines.length:=by omega
        obtain ⟨bl,rfl,hlc⟩:=hLx (by omega)
        obtain ⟨hfn1,hfn2⟩:=hln _ (List.getElem_mem hj')
        have hcr:∀w',Fm.ok ⟨w,w.heap.size,[]⟩ w'→∀(i:Nat) (u:Value),(cLine g.funs x.locs[k4].lines[j])[i]? =some u→w'.cell? ⟨bl,0+j*3+i,none⟩=some u:=fun w' hf i u hu=>by rw[Nat.zero_add];exact hlc ⟨w,w.heap.size,[]⟩ rfl rfl w' hf _ _ (flatMap_get (c:=cLine g.funs) (sz:=3) (fun _=>rfl) (List.getElem?_eq_getElem hj') i u hu)
        refine cj_skip (K31 (sQ fun K32=>cj_block (sQ fun K33=>cj_reg (jJ ru91 so97 (k:=?_)))))
        refine j_valw rfl (fun a w ha hH hf=>r_loadA (vs:=cLine g.funs x.locs[k4].lines[j]) ag97 so97 rfl rfl (hcr w hf) ha) (j_allocA (zs:=[(.pointer none),(.int .i64 0),(.int .u64 0)]) zv97 rfl fun b14=>jB [_,_,_] (_::_::_::_::_::_::_) 0 so97 (k:=K33 ?_))
        refine cj_drawI 15 (lts [0,1,2,3,4,5,6,7,9,10]++(8,false)::(lts [11]++(12,false)::((13,false)::(lts [14]++(15,false)::[])))) [2,0] rfl (by kernel_rfl) (by kernel_rfl) (dF [2,0] 3 ru89 so87 (k:=dH [2,0] 0 ag87 (k:=dM [2,0] (k:=dN [2,0] (k:=dF [2,0] 5 ru75 so73 (k:=dL [2,0] ag73 hc0 5 (k:=dF [2,0] 0 ru97 so84 (k:=dH [2,0] 1 ag84 (k:=dF [2,0] 1 ru97 so2 (k:=dH [2,0] 1 ag2 (k:=dE (h:=fun Kd=>?_))))))))))))
        refine j_callQ (φ:=fun v=>v=.int .i64 x.locs[k4].lines[j].fn) Tryz.call37 rfl rfl (fun w3 hH hf=>idxF_c w3 g.funs _ x.locs[k4].lines[j].fn (hfu.mono (fr_row hf rfl)) (fun b hb=>by obtain ⟨cs,h⟩:=hBf b hb;exact ⟨cs,fr_row hf rfl _ _ h⟩) hQ.nfuns hfn1 (by rw[hQ.funs.1];exact hfn2) (by rw[hQ.funs.1];omega)) fun v hv=>?_
        subst hv
        refine Kd (sb [2,0]) (dj_val rfl rfl (sub_of [2,0] rfl) (fun _ _ h=>r_build (cs:=[_,_]) bt95 rfl rfl h) (dE (h:=fun Kd=>j_bslice1 ru87 so95 zv95 rfl rfl rfl rfl rfl fun b236=>Kd (sb [3,1]) (dE (h:=fun Kd=>?_)))))
        refine j_appO 1 rfl hOj ru87 el95 rfl rfl rfl rfl rfl (by omega) rfl fun y237 p237 c237 hO237=>?_
        refine Kd (sb [2,0]) (dF [2,0] 3 ru89 so87 (k:=dE (h:=fun Kd=>jB [_,_,_,_] (_::_::_::_::_::_::_) 2 so87 (k:=Kd (.inl rfl) (K32 (CJ.t [(0,_),(2,_),(3,_),(12,_),(191,_),(192,_),(193,_),(218,_),(219,_),(220,_)] (k:=cj_reg (jI (k:=jM (k:=j_nil (ej_then ?_)))))))))))
        exact fun w' hH hf=>hKLj (j+1,y237,p237,c237) _ w' ⟨hj',by rw[take_flat hj'];exact hO237⟩ hf (hH.drop 0) (by simp only;omega) sR
       ·have hje:j=x.locs[k4].lines.length:=by omega
        subst hje
        rw[List.take_of_length_le (Nat.le_refl _)]at hOj
        clear hKLj hj h221
        refine cj_exit (K28 (cj_reg (jF 4 ru33 so27 (k:=jH 3 ag27 (k:=?_)))))
        refine j_valw rfl (fun a w ha hH hf=>r_ldA (vs:=[_,_,_,_]) 1 rfl rfl ag89 so89 rfl rfl rfl ha hH) (j_bslice1 ru27 so89 zv89 rfl rfl rfl rfl rfl fun b243=>?_)
        refine j_appO 2 rfl hO4 ru27 el89 rfl rfl rfl rfl rfl (by omega) rfl fun y244 p244 c244 hO244=>?_
        refine jF 4 ru33 so27 (k:=jB [_,_,_,_,_,_,_,_,_,_,_,_,_,_] (_::_::_::_::_::_) 3 so27 (k:=K26 (cj_reg (jI (k:=jM (k:=j_nil (ej_then ?_)))))))
        exact fun w' hH hf=>hKL4 (k4+1,y244,p244,c244,lq++[(x.locs[k4],.slice qj x.locs[k4].lines.length dj)],yj::RL) _ w' ⟨hk',by rw[List.map_append,hlq, ← List.take_append_getElem hk'];rfl,by rw[List.flatMap_append];exact hO244,fun q hq=>by
          rcases List.mem_append.1 hq with hq|hq
          ·obtain ⟨z,hz,h⟩:=hLQ q hq
           exact ⟨z,List.mem_cons_of_mem _ hz,h⟩
          ·simp at hq;subst hq
           exact ⟨yj,List.Mem.head _,qj,dj,rfl,hOj⟩,fun z hz=>List.mem_cons_of_mem _ (hRL z hz)⟩ hf (Hp.rot4 (hH.drop 1)) (by simp only;omega) ⟨rfl,rfl,rfl,rfl,rfl,rfl,trivial⟩
     ·have hke4:k4=x.locs.length:=by omega
      subst hke4
      rw[List.take_of_length_le (Nat.le_refl _)]at hlq
      clear hKL4 hk4 h194
      refine cj_exit (K22 (CJ.t [(0,_),(2,_),(3,_)] (k:=sQ fun K34=>sQ fun K35=>cj_reg (jM (k:=jN (k:=jF 2 ru75 so70 (k:=jL ag70 hc0 2 (k:=jE ru70 (k:=jM (k:=K35 (cj_block ?_)))))))))))
      intro v5 hH5' hf5'
      have hPV:PV v5 x (.slice q1 k1 d1) (.slice q3 k3 d3) (.slice q5 k5 d5) (.slice q4 x.locs.length d4) (.slice pC x.comments.length cC):=⟨?h1,?h2,?h3,⟨lq,hlq,hO4.os hH5' (i:=0) rfl,fun q hq=>?h4⟩,?h5⟩
      case h1=>exact Own.osM hO1 hH5' (by simp only[List.mem_cons];exact .inr (.inr (.inr (hRL y1 (by simp)))))
      case h2=>exact Own.osM hO3 hH5' (by simp only[List.mem_cons];exact .inr (.inr (.inr (hRL y3 (by simp)))))
      case h3=>exact Own.osM hO5 hH5' (by simp only[List.mem_cons];exact .inr (.inr (.inr (hRL y5 (by simp)))))
      case h4=>
       obtain ⟨z,hz,p,c,e,h⟩:=hLQ q hq
       rw[e]
       exact Own.osM h hH5' (by simp only[List.mem_cons];exact .inr (.inr (.inr hz)))
      case h5=>exact Own.osM hOC hH5' (by simp only[List.mem_cons];exact .inr (.inr (.inr (hRL yC (by simp)))))
      refine c_loop (σ:=Nat×List (PSample×SV)×Ent×Option Addr×Nat) (fun s=>[(0,ptr g.pb),(2,ptr b2),(3,ptr b3),(250,.slice p2 x.samples.length c2),(251,.int .i64 (x.samples.length:Nat)),(252,.int .i64 (s.1:Nat))])
       (fun s w'=>s.1≤x.samples.length∧Hp ⟨w,w.heap.size,[]⟩ w' [s.2.2.1,eI b3 tIP (cOP x (.slice q1 k1 d1) (.slice s.2.2.2.1 s.1 s.2.2.2.2) (.slice q3 k3 d3) (.slice q4 x.locs.length d4) (.slice q5 k5 d5) (.slice pC x.comments.length cC) x.per),eI b2 tIP zIP]∧Fm.ok ⟨w,w.heap.size,[]⟩ w'∧PV w' x (.slice q1 k1 d1) (.slice q3 k3 d3) (.slice q5 k5 d5) (.slice q4 x.locs.length d4) (.slice pC x.comments.length cC)∧s.2.1.map (·.1)=x.samples.take s.1∧Own tSm 4 s.2.2.1 s.2.2.2.1 s.1 s.2.2.2.2 (s.2.1.flatMap cSmI)∧SmsV w' s.2.1) (fun s=>x.samples.length - s.1)
       (0,[],nilE tSm,none,0) sR ⟨Nat.zero_le _,Hp.off (Hp.head2 (hH5'.drop 0)),hf5',hPV,rfl,Own.nil,fun q hq=>(by cases hq)⟩ ?_
      clear hPV hH5' hf5'
      rintro ⟨k2,sq,y2,q2,d2⟩ u2 ⟨hk2,hHu,hfu,hPV,hsq2,hO2,hSM⟩ KL2 hKL2
      try dsimp only at hk2 hHu hfu hPV hsq2 hO2 hSM
      have hsz:w.heap.size≤u2.heap.size:=hfu.size
      have hc0:=mc (f:=⟨u2,w.heap.size,[tSm,tIP]⟩) (fr_row hfu rfl _ _ hpf) rfl
      refine C.begin ⟨u2,w.heap.size,[tSm,tIP]⟩ [y2,eI b3 tIP (cOP x (.slice q1 k1 d1) (.slice q2 k2 d2) (.slice q3 k3 d3) (.slice q4 x.locs.length d4) (.slice q5 k5 d5) (.slice pC x.comments.length cC) x.per),eI b2 tIP zIP] ok_refl (Hp.again (Nat.le_refl _) hHu (TagOK.own (.row (.row .nil rfl) rfl) hO2 rfl)) ?_
      try dsimp only
      refine sQ fun K36=>cj_reg (jS (k:=K36 (sQ fun K37=>?_)))
      refine cj_dec rfl (fun h253=>?_) (fun h253=>?_)
      ·have hk':k2<x.samples.length:=by omega
       obtain ⟨bq,rfl,hsq⟩:=hx2 (by omega)
       have hkb:k2<g.sams.length:=by rw[hQ.sams.1];exact hk'
       have hSQ:=hQ.sams.2 _ _ _ (List.getElem?_eq_getElem hkb) (List.getElem?_eq_getElem hk')
       have hSQu:SamR u2 g.locs g.sams[k2] x.samples[k2]:=hSQ.mono (fun cs=>fr_row hfu rfl _ cs) (fr_row hfu rfl) (fr_row hfu rfl) (fr_row hfu rfl) fun b es ck h=>fr_mapE hfu rfl es ck h
       obtain ⟨ls,vs,lm,nm,um,iv,xv,hst,hls,hvs, -⟩:=id hSQu
       obtain ⟨pS,lS,cS,rfl,hlS, -,hSx⟩:=hls.openF
       obtain rfl:lS=x.samples[k2].stack.length:=by simpa using hlS.symm
       obtain ⟨pV,lV,cV,rfl,hlV, -, -⟩:=hvs.openF
       obtain rfl:lV=x.samples[k2].values.length:=by simpa using hlV.symm
       obtain ⟨hval,hs60,hLab,hsk⟩:=hx.samples _ (List.getElem_mem hk')
       have hcell:∀w',Fm.ok ⟨u2,w.heap.size,[tSm,tIP]⟩ w'→w'.cell? ⟨bq,0+k2*1,none⟩=some (ptr g.sams[k2]):=fun w' hf=>by
        have hfw:Fm.ok ⟨w,w.heap.size,[tSm,tIP]⟩ w':=Fr.trans (hfu.mono (.inl (Nat.le_refl _))) hf (.inl (Nat.le_refl _))
        have h:=hsq ⟨w,w.heap.size,[tSm,tIP]⟩ rfl rfl w' hfw k2 (ptr g.sams[k2]) (by rw[List.getElem?_map,List.getElem?_eq_getElem hkb];rfl)
        simpa using h
       have hcs:=mc (f:=⟨u2,w.heap.size,[tSm,tIP]⟩) (T:=tSam) hst rfl
       have hloU:OS pLoc 1 u2 _ (g.locs.map ptr):=hlo.mono (fr_row hfu rfl)
       have hBlU:∀b∈g.locs,∃cs,Blk u2 b tLoc cs:=fun b hb=>by obtain ⟨cs,h⟩:=hBl b hb;exact ⟨cs,fr_row hfu rfl _ _ h⟩
       refine cj_skip (K37 (sQ fun K38=>cj_block (sQ fun K39=>cj_reg (jJ ru70 so98 (k:=?_)))))
       refine j_valw rfl (fun a w ha hH hf=>r_load ag98 rfl (hcell w hf) ha) (jA (k:=K39 (sQ fun K40=>cj_reg ?_)))
       refine j_bslice0 ru49 so2 rfl fun b256=>jM (k:=jN (k:=jF 1 ru103 so49 (k:=jL ag49 hcs 1 (k:=?_))))
       refine j_appS 0 rfl Own.empty ru49 el2 rfl rfl rfl hvs rfl (fun z hz=>by obtain ⟨u, -,rfl⟩:=List.mem_map.1 hz;rfl) (by omega) rfl fun y261 p261 c261 hO261=>?_
       rw[Nat.zero_add,List.nil_append]at hO261
       refine j_eqv (u:=.slice p261 x.samples[k2].values.length c261) (by rw[Nat.zero_add]) ?_
       refine j_val rfl (fun _ _ h=>r_build (cs:=[(.slice none 0 0),_,(.slice none 0 0),(.slice none 0 0)]) bt55 rfl rfl h) (j_allocA (zs:=[(.slice none 0 0),(.slice none 0 0),(.slice none 0 0),(.slice none 0 0)]) zv55 rfl fun b17=>jB [_,_,_,_] (_::_::_::_::_::_) 0 so55 (k:=K40 (CJ.t [(0,_),(2,_),(3,_),(16,_),(17,_),(250,_),(251,_),(252,_)] (k:=sQ fun K41=>sQ fun K42=>cj_reg (jM (k:=jN (k:=jF 0 ru103 so72 (k:=jL ag72 hcs 0 (k:=jE ru72 (k:=jM (k:=?_)))))))))))
       refine K42 (cj_block ?_)
       refine cj_loop (σ:=Nat×Ent×Option Addr×Nat) (fun s=>[(0,ptr g.pb),(2,ptr b2),(3,ptr b3),(16,ptr g.sams[k2]),(17,ptr b17),(250,.slice (some ⟨bq,0,none⟩) x.samples.length c2),(251,.int .i64 (x.samples.length:Nat)),(252,.int .i64 (k2:Nat)),(266,.slice pS x.samples[k2].stack.length cS),(267,.int .i64 (x.samples[k2].stack.length:Nat)),(268,.int .i64 (s.1:Nat))])
        (fun s=>s.2.1::eI b17 tSm [.slice s.2.2.1 s.1 s.2.2.2,.slice p261 x.samples[k2].values.length c261,vN,vN]::y261::y2::eI b3 tIP (cOP x (.slice q1 k1 d1) (.slice q2 k2 d2) (.slice q3 k3 d3) (.slice q4 x.locs.length d4) (.slice q5 k5 d5) (.slice pC x.comments.length cC) x.per)::[eI b2 tIP zIP])
        (fun s _=>s.1≤x.samples[k2].stack.length∧Own tInt 1 s.2.1 s.2.2.1 s.1 s.2.2.2 ((x.samples[k2].stack.take s.1).map (.int .i64))) (fun s=>x.samples[k2].stack.length - s.1)
        (0,nilE tInt,none,0) sR (fun w' hH hf=>⟨Hp.off hH,Nat.zero_le _,Own.nil⟩) ?_
       rintro ⟨m,ym,qm,dm⟩ wm ⟨hm,hOm⟩ hfm hHm KLm hKLm
       try dsimp only at hm hOm
       refine C.begin _ _ hfm hHm ?_
       try dsimp only
       refine sQ fun K43=>cj_reg (jS (k:=K43 (sQ fun K44=>?_)))
       refine cj_dec rfl (fun h269=>?_) (fun h269=>?_)
       ·have hm':m<x.samples[k2].stack.length:=by omega
        obtain ⟨bi,rfl,hcx⟩:=hSx (by omega)
        obtain ⟨hz0,hzl⟩:=hsk _ (List.getElem_mem hm')
        have hci1:∀w',Fm.ok ⟨u2,w.heap.size,[tSm,tIP]⟩ w'→w'.cell? ⟨bi,0+m*1,none⟩=some (ptrAt g.locs x.samples[k2].stack[m]):=fun w' hf=>by
         have h:=hcx ⟨u2,w.heap.size,[tSm,tIP]⟩ rfl rfl w' hf m (ptrAt g.locs x.samples[k2].stack[m]) (by rw[List.getElem?_map,List.getElem?_eq_getElem hm'];rfl)
         simpa using h
        refine cj_skip (K44 (sQ fun K45=>cj_block (sQ fun K46=>cj_reg (jJ ru72 so90 (k:=?_)))))
        refine j_valw rfl (fun a w ha hH hf=>r_load ag90 rfl (hci1 w hf) ha) (jA (k:=K46 ?_))
        refine cj_drawI 11 (lts [0,1,2,3,4,5,6]++(7,false)::((8,false)::((9,false)::(lts [10]++(11,false)::[])))) [1] rfl (by kernel_rfl) (by kernel_rfl) (dF [1] 0 ru55 so51 (k:=dH [1] 0 ag51 (k:=dM [1] (k:=dN [1] (k:=dF [1] 4 ru75 so72 (k:=dL [1] ag72 hc0 4 (k:=dM [1] (k:=dE (h:=fun Kd=>?_)))))))))
        refine j_callQ (φ:=fun v=>v=.int .i64 x.samples[k2].stack[m]) Tryz.call38 rfl rfl (fun w3 hH hf=>idxL_c w3 g.locs _ x.samples[k2].stack[m] (hloU.mono (fr_row hf rfl)) (fun b hb=>by obtain ⟨cs,h⟩:=hBlU b hb;exact ⟨cs,fr_row hf rfl _ _ h⟩) hQ.nlocs (by omega) (by rw[hQ.locs.1];exact hzl) (by rw[hQ.locs.1];omega)) fun v hv=>?_
        subst hv
        refine Kd (sb [1]) (dE (h:=fun Kd=>j_bslice1 ru51 so3 zv3 rfl rfl rfl rfl rfl fun b280=>Kd (sb [2]) (dE (h:=fun Kd=>?_))))
        refine j_appO 0 rfl hOm ru51 el3 rfl rfl rfl rfl rfl (by omega) rfl fun y281 p281 c281 hO281=>?_
        refine Kd (sb [1]) (dF [1] 0 ru55 so51 (k:=dE (h:=fun Kd=>jB [_,_,_,_] (_::_::_::_::_::_::_) 1 so51 (k:=Kd (.inl rfl) (K45 (CJ.t [(0,_),(2,_),(3,_),(16,_),(17,_),(250,_),(251,_),(252,_),(266,_),(267,_),(268,_)] (k:=cj_reg (jI (k:=jM (k:=j_nil (ej_then ?_)))))))))))
        exact fun w' hH hf=>hKLm (m+1,y281,p281,c281) _ w' ⟨hm',by rw[← List.take_append_getElem hm',List.map_append];exact hO281⟩ hf hH (by simp only;omega) sR
       ·have hme:m=x.samples[k2].stack.length:=by omega
        subst hme
        rw[List.take_of_length_le (Nat.le_refl _)]at hOm
        clear hKLm hm h269
        refine cj_exit (K41 (sQ fun K47=>cj_reg (jM (k:=?_))))
        refine j_callE (R:=fun w1 v w2=>(∃vt vn,v=.tuple #[vt,vn]∧TxV w2 vt x.samples[k2]∧NuV w2 vn x.samples[k2])∧Fr 0 [] w1 w2) Tryz.call39 rfl rfl (fun w1 hH hf=>labels_c w1 g.locs g.sams[k2] x.samples[k2] (hSQu.mono (fun cs=>fr_row hf rfl _ cs) (fr_row hf rfl) (fr_row hf rfl) (fr_row hf rfl) fun b es ck h=>fr_mapE hf rfl es ck h) hLab) fun w1 v w2 hH1 hf1 hR=>?_
        obtain ⟨⟨vt,vn,rfl,hTx,hNu⟩,hf12⟩:=hR
        obtain ⟨pt9,lt9,ct9,rfl⟩:∃p l c,vt=.slice p l c:=by obtain ⟨_,⟨_,p,l,c,e,_⟩,_⟩:=hTx;exact ⟨p,l,c,e⟩
        obtain ⟨pn9,ln9,cn9,rfl⟩:∃p l c,vn=.slice p l c:=by obtain ⟨_,⟨_,p,l,c,e,_⟩,_⟩:=hNu;exact ⟨p,l,c,e⟩
        have hH2:=hH1.fr hf12
        have hfu2:Fm.ok ⟨u2,w.heap.size,[tSm,tIP]⟩ w2:=hf1.fr hf12
        have hst4:OS tInt 1 w2 (.slice qm x.samples[k2].stack.length dm) (x.samples[k2].stack.map (.int .i64)):=hOm.os hH2 (i:=0) rfl
        have hvs4:OS tI64 1 w2 (.slice p261 x.samples[k2].values.length c261) (x.samples[k2].values.map (.int .i64)):=hO261.os hH2 (i:=2) rfl
        refine J.begin ⟨w2,w.heap.size,[tSm,tIP]⟩ [eI b17 tSm [.slice qm x.samples[k2].stack.length dm,.slice p261 x.samples[k2].values.length c261,vN,vN],y2,eI b3 tIP (cOP x (.slice q1 k1 d1) (.slice q2 k2 d2) (.slice q3 k3 d3) (.slice q4 x.locs.length d4) (.slice q5 k5 d5) (.slice pC x.comments.length cC) x.per),eI b2 tIP zIP] ok_refl (Hp.again hsz ((hH2.drop 0).drop 1) (TagOK.row (TagOK.own (.row (.row .nil rfl) rfl) hO2 rfl) rfl)) ?_
        refine jM (k:=jX (k:=jX (k:=jF 2 ru55 so52 (k:=jB [_,_,_,_] (_::_::_::_::_) 0 so52 (k:=jF 3 ru55 so53 (k:=jB [_,_,_,_] (_::_::_::_::_) 0 so53 (k:=K47 (cj_reg (jF 2 ru33 so25 (k:=jH 2 ag25 (k:=?_)))))))))))
        refine j_valw rfl (fun a w ha hH hf=>r_ldA (vs:=[_,_,_,_]) 0 rfl rfl ag55 so55 rfl rfl rfl ha hH) (j_bslice1 ru25 so55 zv55 rfl rfl rfl rfl rfl fun b294=>?_)
        refine j_appO 1 rfl hO2 ru25 el55 rfl rfl rfl rfl rfl (by omega) rfl fun y295 p295 c295 hO295=>?_
        refine jF 2 ru33 so25 (k:=jB [_,_,_,_,_,_,_,_,_,_,_,_,_,_] (_::_::_::_::_) 2 so25 (k:=K38 (CJ.t [(0,_),(2,_),(3,_),(250,_),(251,_),(252,_)] (k:=cj_reg (jI (k:=jM (k:=j_nil (ej_then ?_))))))))
        intro w9 hH hf
        have hsz2:w.heap.size≤w2.heap.size:=Nat.le_trans hsz hfu2.size
        have hfr29:Fr w.heap.size [tSm,tIP] u2 w9:=Fr.trans hfu2 hf (.inr ⟨Nat.le_refl _,fun _ h=>h⟩)
        have hfw:Fm.ok ⟨w,w.heap.size,[]⟩ w9:=ok_back (W0:=[]) hfu (.inl (Nat.le_refl _)) hfr29
        exact hKL2 (k2+1,sq++[(x.samples[k2],⟨.slice qm x.samples[k2].stack.length dm,.slice p261 x.samples[k2].values.length c261,.slice pt9 lt9 ct9,.slice pn9 ln9 cn9⟩)],y295,p295,c295) _ w9 ⟨hk',Hp.back hsz2 (.inl (Nat.le_refl _)) (hH.drop 0),hfw,hPV.fr hfr29 rfl,by rw[List.map_append,hsq2, ← List.take_append_getElem hk'];rfl,by rw[List.flatMap_append];exact hO295,fun q hq=>by
          rcases List.mem_append.1 hq with hq|hq
          ·exact hSM.fr hfr29 rfl q hq
          ·simp at hq;subst hq
           exact ⟨hst4.mono (fr_row hf rfl),hvs4.mono (fr_row hf rfl),hTx.mono (fr_row hf rfl) (fr_row hf rfl),hNu.mono (fr_row hf rfl) (fr_row hf rfl)⟩⟩ (by simp only;omega) ⟨rfl,rfl,rfl,rfl,rfl,rfl,trivial⟩
      ·have hke2:k2=x.samples.length:=by omega
       subst hke2
       rw[List.take_of_length_le (Nat.le_refl _)]at hsq2
       refine cj_exit (K34 (sQ fun K48=>cj_reg (j_valw rfl (fun a w ha hH hf=>r_ldA (vs:=[_,_,_,_,_,_,_,_,_,_,_,_,_,_]) 1 rfl rfl ag33 so33 rfl rfl rfl ha hH) ?_)))
       refine j_storeW 2 rfl rfl rfl rfl so33 rfl rfl rfl rfl rfl ?_
       refine K48 (cj_ret ?_)
       exact ej_ret1C Tryz.results15 ag33 so33 rfl rfl (fun w' hH hf=>⟨_,hH.get (i:=2) rfl rfl⟩) fun w' hH hf=>⟨⟨_,rfl,_,_,_,_,_,_,sq,rfl,hPV.fr hf rfl,hsq2,hO2.os hH (i:=0) rfl,hSM.fr hf rfl⟩,fr_all (ok_back (W0:=[]) hfu (.inl (Nat.le_refl _)) hf)⟩
set_option maxHeartbeats 4000000 in
theorem of_r (w:World) (cs:List Value) (x:PProf) (h:RProf w cs x) (hx:PlnM x):
  Calls Tryz.prog 13 #[.agg cs.toArray] w (Ret fun v w'=>(∃g,v=ptr g.pb∧OfP w.heap.size w' x g∧OfR w.heap.size w' x g)∧Fr 0 [] w w'):=by
 obtain ⟨la,lsa,lm,ll,lf,lcm,rfl,hla,hls,hlm,hll,hlf,hlc, -⟩:=h
 obtain ⟨pt,ct,rfl, -,hxt⟩:=hla.open
 obtain ⟨ps,csm,rfl, -,hxs⟩:=hls.open
 obtain ⟨pm,cm,rfl, -,hxm⟩:=hlm.open
 obtain ⟨pl,cl,rfl, -,hxl⟩:=hll.open
 obtain ⟨pf,cf,rfl, -,hxf⟩:=hlf.open
 obtain ⟨pc,cc,rfl, -, -⟩:=hlc.open
 have hKd:=fun W=>keepOf (W:=W) (Keep.refl w) (Nat.le_refl _)
 have n1:=hx.ntyp
 have n2:=hx.nsam
 have n3:=hx.ncom
 have n4:=hx.nm
 have n5:=hx.nf
 have n6:=hx.nl
 refine startJ (args:=[_]) [(0,_)] w.heap.size [] [] func13 rfl ntmps13 rfl rfl .nil ?_
 refine sQ fun K1=>cj_reg (j_boxA (vs:=[_,_,_,_,_,_,_,_,_,_,_,_,_,_]) rfl rfl fun b1=>jA (k:=K1 ?_))
 refine cj_seqF fun K2 hK2=>cj_drawI 22 (lts [0,1,3,4,6,7,8,9,10,11,12,13,14,15,16,17]++(2,false)::((5,false)::((18,false)::(lts [19]++(20,false)::lts [21])))) [0] rfl (by kernel_rfl) (by kernel_rfl) (dF [0] 1 ru33 so9 (k:=dH [0] 0 ag9 (k:=dF [0] 6 ru33 so29 (k:=dH [0] 0 ag29 (k:=dF [0] 7 ru33 so9 (k:=dH [0] 0 ag9 (k:=dF [0] 8 ru33 so9 (k:=dH [0] 0 ag9 (k:=dF [0] 9 ru33 so2 (k:=dH [0] 0 ag2 (k:=dF [0] 10 ru33 so2 (k:=dH [0] 0 ag2 (k:=?_)))))))))))))
 refine dF [0] 11 ru33 so2 (k:=dH [0] 0 ag2 (k:=dF [0] 12 ru33 so31 (k:=?_)))
 refine dj_ld rfl rfl (sub_of [0] rfl) (fun a w ha hS=>r_ldSA (vs:=[_,_]) 0 rfl rfl ag31 so31 rfl rfl rfl ha hS) (dE (h:=fun Kd=>j_bslice0 ru29 so9 rfl fun b23=>Kd (sb [1]) (dE (h:=fun Kd=>?_))))
 refine j_appL 0 rfl Own.empty ru29 ru29 el9 rfl rfl rfl rfl (fun w hH hf w1 k1=>hlc.first1 (g:=.string) (fun _ _ h=>h) w1 ((hKd _ _ hf).trans k1)) (fun _=>rfl) (by omega) rfl fun y26 p26 c26 hO26=>?_
 refine Kd (sb [1]) (dE (h:=fun Kd=>?_))
 refine j_callN (T:=tVT) (cs:=cVT x.per) call29 rfl rfl (fun w hH hf=>typeOf_c w _ x.per rfl) fun b39=>?_
 refine Kd (sb [2]) (dj_val rfl rfl (sub_of [2] rfl) (fun _ _ h=>r_build (cs:=[(.slice none 0 0),_,(.slice none 0 0),(.slice none 0 0),(.slice none 0 0),(.slice none 0 0),_,_,_,_,_,_,_,(.slice none 0 0),(.int .i64 0),(.int .i64 0),(.slice none 0 0),(.int .i64 0)]) bt75 rfl rfl h) (dE (h:=fun Kd=>j_boxA (vs:=[_,_,_,_,_,_,_,_,_,_,_,_,_,_,_,_,_,_]) rfl rfl fun b41=>Kd (sb [3]) (dA [3] (k:=dj_end (ej_then (hK2 _ _ _ (CJ.t [(1,_),(3,_)] (k:=sQ fun K3=>sQ fun K4=>cj_reg (jF 0 ru33 so24 (k:=jH 3 ag24 (k:=?_))))))))))))
 refine jE ru24 (k:=jM (k:=K4 (cj_block ?_)))
 refine cj_loop (σ:=Nat×Ent×Option Addr×Nat×List Nat) (fun s=>[(1,ptr b1),(3,ptr b41),(43,.slice pt x.types.length ct),(44,.int .i64 (x.types.length:Nat)),(45,.int .i64 (s.1:Nat))])
  (fun s=>[s.2.1,eProf b41 x (.slice s.2.2.1 s.1 s.2.2.2.1) (.slice none 0 0) (.slice none 0 0) (.slice none 0 0) (.slice none 0 0) (.slice p26 (0+x.comments.length) c26) b39,⟨b39,tVT,cVT x.per,false,true,none⟩,ro y26,⟨b1,33,[.slice pt x.types.length ct,.string x.deflt,.slice ps x.samples.length csm,.slice pm x.mappings.length cm,.slice pl x.locs.length cl,.slice pf x.funcs.length cf,.slice pc x.comments.length cc,.string x.drop,.string x.keep,.int .i64 x.time,.int .i64 x.dur,.int .i64 x.period,.string x.per.ty,.string x.per.unit],false,true,none⟩])
  (fun s w'=>s.1≤x.types.length∧Own pVT 1 s.2.1 s.2.2.1 s.1 s.2.2.2.1 (s.2.2.2.2.map ptr)∧Part (b39+1) w' s.2.2.2.2 (x.types.take s.1) φT∧(w.heap.size≤b39∧w.heap.size≤b41∧b39<w'.heap.size))
  (fun s=>x.types.length - s.1) (0,nilE pVT,none,0,[]) sR (fun w' hH hf=>⟨hH.roTail.off,Nat.zero_le _,Own.nil,Part.nil,⟨hH.fresh' (i:=1) rfl rfl,hH.fresh' (i:=0) rfl rfl,(hH.get (i:=1) rfl rfl).lt⟩⟩) ?_
 rintro ⟨kT,yT,pT,cT,bT⟩ w1 ⟨hk,hOT,hpT,hB39⟩ hf1 hH1 KLT hKLT
 have hs1:w.heap.size≤w1.heap.size:=hf1.size
 have hk1:Keep w w1:=hKd _ _ hf1
 have hKd:=fun W=>keepOf (W:=W) hk1 (Nat.le_refl _)
 have hH:=hH1.again (W:=[tProf,pVT,pMap,pFun,pLoc,pSam]) (Nat.le_refl _) (TagOK.own (.row (.ro (.ro (.ro .nil rfl) rfl) rfl) rfl) hOT rfl)
 have hgT:=hH.geT hOT.hw hs1
 refine C.begin ⟨w1,w.heap.size,[tProf,pVT,pMap,pFun,pLoc,pSam]⟩ [yT,eProf b41 x (.slice pT kT cT) (.slice none 0 0) (.slice none 0 0) (.slice none 0 0) (.slice none 0 0) (.slice p26 (0+x.comments.length) c26) b39,⟨b39,tVT,cVT x.per,false,true,none⟩,ro y26,⟨b1,33,[.slice pt x.types.length ct,.string x.deflt,.slice ps x.samples.length csm,.slice pm x.mappings.length cm,.slice pl x.locs.length cl,.slice pf x.funcs.length cf,.slice pc x.comments.length cc,.string x.drop,.string x.keep,.int .i64 x.time,.int .i64 x.dur,.int .i64 x.period,.string x.per.ty,.string x.per.unit],false,true,none⟩] ok_refl hH ?_
 try dsimp only
 clear hH
 refine sQ fun K5=>cj_reg (jS (k:=K5 (sQ fun K6=>?_)))
 refine cj_dec rfl (fun h46=>?_) (fun h46=>?_)
 ·have hkT:kT<x.types.length:=by omega
  obtain ⟨qb,qo,cs,rfl,hcs,hR,hcell⟩:=hxt kT x.types[kT] (List.getElem?_eq_getElem hkT)
  unfold RType at hR
  subst hR
  refine cj_skip (K6 (sQ fun K7=>cj_block (sQ fun K8=>cj_reg (jJ ru24 so31 (k:=?_)))))
  refine j_valw rfl (fun a w ha hH hf=>r_loadA ag31 so31 rfl rfl (hcell w (hKd _ _ hf)) ha) (j_allocA (zs:=[(.string ⟨#[]⟩),(.string ⟨#[]⟩)]) zv31 rfl fun b5=>jB [_,_] [_,_,_,_,_,_] 0 so31 (k:=K8 ?_))
  refine cj_drawI 11 (lts [0,1,2,3,4,5]++(6,false)::((7,false)::((8,false)::(lts [9,10]++(11,false)::[])))) [0,2] rfl (by kernel_rfl) (by kernel_rfl) (dM [0,2] (k:=dM [0,2] (k:=dN [0,2] (k:=dF [0,2] 0 ru75 so69 (k:=dH [0,2] 1 ag69 (k:=?_))))))
  refine dj_ld rfl rfl (sub_of [0,2] rfl) (fun a w ha hS=>r_ldSA (vs:=[_,_]) 0 rfl rfl ag31 so31 rfl rfl rfl ha hS) (dE (h:=fun Kd=>?_))
  refine j_callN (T:=tVT) (cs:=cVT x.types[kT]) call29 rfl rfl (fun w hH hf=>typeOf_c w _ x.types[kT] rfl) fun b55=>?_
  refine Kd (sb [1,3]) (dE (h:=fun Kd=>j_bslice1 ru69 so67 zv67 rfl rfl rfl rfl rfl fun b56=>Kd (sb [2,4]) (dE (h:=fun Kd=>?_))))
  refine j_appO 2 rfl hOT ru69 el67 rfl rfl rfl rfl rfl (by omega) rfl fun y57 p57 c57 hO57=>?_
  refine Kd (sb [1,3]) (dN [1,3] (k:=dF [1,3] 0 ru75 so69 (k:=dE (h:=fun Kd=>jB [_,_,_,_,_,_,_,_,_,_,_,_,_,_,_,_,_,_] [_,_,_,_,_,_,_] 3 so69 (k:=Kd (.inl rfl) (K7 (CJ.t [(1,_),(3,_),(43,_),(44,_),(45,_)] (k:=cj_reg (jI (k:=jM (k:=j_nil (ej_then ?_))))))))))))
  exact fun w' hH hf=>hKLT (kT+1,y57,p57,c57,bT++[b55]) _ w' ⟨hkT,by rw[← ptrs_push];exact hO57,hpT.push hkT hf.size (fun _ _ h=>ok_blk hf h rfl) (hH.get (i:=0) rfl rfl) (hH.fresh' (i:=0) rfl rfl) hB39.2.2 (hH.get (i:=0) rfl rfl).lt,⟨hB39.1,hB39.2.1,Nat.lt_of_lt_of_le hB39.2.2 hf.size⟩⟩ (ok_back hf1 (.inl (Nat.le_refl _)) hf) (hH.2.2.2.2.2.2.back hf1.size (.inl (Nat.le_refl _))) (by simp only;omega) sR
 ·have hPT:=hpT.full (by omega)
  refine cj_exit (K3 (sQ fun K9=>sQ fun K10=>cj_reg (jF 3 ru33 so26 (k:=jH 4 ag26 (k:=jE ru26 (k:=jM (k:=K10 (cj_block ?_))))))))
  refine cj_loop (σ:=Nat×Ent×Option Addr×Nat×List Nat) (fun s=>[(1,ptr b1),(3,ptr b41),(62,.slice pm x.mappings.length cm),(63,.int .i64 (x.mappings.length:Nat)),(64,.int .i64 (s.1:Nat))])
   (fun s=>[s.2.1,ro yT,eProf b41 x (.slice pT kT cT) (.slice none 0 0) (.slice s.2.2.1 s.1 s.2.2.2.1) (.slice none 0 0) (.slice none 0 0) (.slice p26 (0+x.comments.length) c26) b39,⟨b39,tVT,cVT x.per,false,true,none⟩,ro y26,⟨b1,33,[.slice pt x.types.length ct,.string x.deflt,.slice ps x.samples.length csm,.slice pm x.mappings.length cm,.slice pl x.locs.length cl,.slice pf x.funcs.length cf,.slice pc x.comments.length cc,.string x.drop,.string x.keep,.int .i64 x.time,.int .i64 x.dur,.int .i64 x.period,.string x.per.ty,.string x.per.unit],false,true,none⟩])
   (fun s w'=>s.1≤x.mappings.length∧Own pMap 1 s.2.1 s.2.2.1 s.1 s.2.2.2.1 (s.2.2.2.2.map ptr)∧Part w.heap.size w' s.2.2.2.2 (x.mappings.take s.1) φM∧(w.heap.size≤b39∧w.heap.size≤b41∧b39<w'.heap.size)∧Part (b39+1) w' bT x.types φT)
   (fun s=>x.mappings.length - s.1) (0,nilE pMap,none,0,[]) sR (fun w' hH hf=>⟨Hp.off (hH.roHead),Nat.zero_le _,Own.nil,Part.nil,⟨hB39.1,hB39.2.1,Nat.lt_of_lt_of_le hB39.2.2 hf.size⟩,hPT.mono hf.size (fun _ _ h=>ok_blk hf h rfl)⟩) ?_
  rintro ⟨kM,yM,pM,cM,bM⟩ w2 ⟨hk,hOM,hpM,hB39,hPT⟩ hf2 hH2 KLM hKLM
  have hs2:w.heap.size≤w2.heap.size:=Nat.le_trans hs1 hf2.size
  have hk2:Keep w w2:=hKd _ _ hf2
  have hKd:=fun W=>keepOf (W:=W) hk2 (Nat.le_refl _)
  have hH:=hH2.again (W:=[tProf,pVT,pMap,pFun,pLoc,pSam]) hs1 (TagOK.own (.ro (.row (.ro (.ro (.ro .nil rfl) rfl) rfl) rfl) rfl) hOM rfl)
  have hgM:=hH.geT hOM.hw hs2
  refine C.begin ⟨w2,w.heap.size,[tProf,pVT,pMap,pFun,pLoc,pSam]⟩ [yM,ro yT,eProf b41 x (.slice pT kT cT) (.slice none 0 0) (.slice pM kM cM) (.slice none 0 0) (.slice none 0 0) (.slice p26 (0+x.comments.length) c26) b39,⟨b39,tVT,cVT x.per,false,true,none⟩,ro y26,⟨b1,33,[.slice pt x.types.length ct,.string x.deflt,.slice ps x.samples.length csm,.slice pm x.mappings.length cm,.slice pl x.locs.length cl,.slice pf x.funcs.length cf,.slice pc x.comments.length cc,.string x.drop,.string x.keep,.int .i64 x.time,.int .i64 x.dur,.int .i64 x.period,.string x.per.ty,.string x.per.unit],false,true,none⟩] ok_refl hH ?_
  try dsimp only
  clear hH
  refine sQ fun K11=>cj_reg (jS (k:=K11 (sQ fun K12=>?_)))
  refine cj_dec rfl (fun h65=>?_) (fun h65=>?_)
  ·have hkM:kM<x.mappings.length:=by omega
   obtain ⟨qb,qo,cs,rfl,hcs,hR,hcell⟩:=hxm kM x.mappings[kM] (List.getElem?_eq_getElem hkM)
   obtain ⟨rfl, -⟩:=hR
   refine cj_skip (K12 (sQ fun K13=>cj_block (sQ fun K14=>cj_reg (jJ ru26 so78 (k:=?_)))))
   refine j_valw rfl (fun a w ha hH hf=>r_loadA ag78 so78 rfl rfl (hcell w (hKd _ _ hf)) ha) (j_allocA (zs:=[(.int .u64 0),(.int .u64 0),(.int .u64 0),(.int .u64 0),(.string ⟨#[]⟩),(.string ⟨#[]⟩),(.bool false),(.bool false),(.bool false),(.bool false)]) zv78 rfl fun b7=>jB [_,_,_,_,_,_,_,_,_,_] [_,_,_,_,_,_,_] 0 so78 (k:=K14 ?_))
   refine cj_drawI 31 (lts [0,1,2,3,4,5,6,7,8,9,10,11,12,13,14,15,16,17,18,19,20,21,22,23,24,25]++(26,false)::((27,false)::((28,false)::(lts [29,30]++(31,false)::[])))) [0,3] rfl (by kernel_rfl) (by kernel_rfl) (dM [0,3] (k:=dM [0,3] (k:=dN [0,3] (k:=dF [0,3] 3 ru75 so71 (k:=dH [0,3] 1 ag71 (k:=dF [0,3] 0 ru78 so76 (k:=dH [0,3] 0 ag76 (k:=dF [0,3] 1 ru78 so76 (k:=dH [0,3] 0 ag76 (k:=dF [0,3] 2 ru78 so76 (k:=dH [0,3] 0 ag76 (k:=dF [0,3] 3 ru78 so76 (k:=dH [0,3] 0 ag76 (k:=?_))))))))))))))
   refine dF [0,3] 4 ru78 so9 (k:=dH [0,3] 0 ag9 (k:=dF [0,3] 5 ru78 so9 (k:=dH [0,3] 0 ag9 (k:=dF [0,3] 6 ru78 so4 (k:=dH [0,3] 0 ag4 (k:=dF [0,3] 7 ru78 so4 (k:=dH [0,3] 0 ag4 (k:=dF [0,3] 8 ru78 so4 (k:=dH [0,3] 0 ag4 (k:=dF [0,3] 9 ru78 so4 (k:=dH [0,3] 0 ag4 (k:=?_))))))))))))
   refine dj_val rfl rfl (sub_of [0,3] rfl) (fun _ _ h=>r_build (cs:=[_,_,_,_,_,_,_,_,_,_,(.int .i64 0),(.int .i64 0)]) bt81 rfl rfl h) (dE (h:=fun Kd=>j_boxA (vs:=[_,_,_,_,_,_,_,_,_,_,_,_]) rfl rfl fun b94=>Kd (sb [1,4]) (dE (h:=fun Kd=>j_bslice1 ru71 so79 zv79 rfl rfl rfl rfl rfl fun b95=>Kd (sb [2,5]) (dE (h:=fun Kd=>?_))))))
   refine j_appO 2 rfl hOM ru71 el79 rfl rfl rfl rfl rfl (by omega) rfl fun y96 p96 c96 hO96=>?_
   refine Kd (sb [1,4]) (dN [1,4] (k:=dF [1,4] 3 ru75 so71 (k:=dE (h:=fun Kd=>jB [_,_,_,_,_,_,_,_,_,_,_,_,_,_,_,_,_,_] [_,_,_,_,_,_,_,_] 4 so71 (k:=Kd (.inl rfl) (K13 (CJ.t [(1,_),(3,_),(62,_),(63,_),(64,_)] (k:=cj_reg (jI (k:=jM (k:=j_nil (ej_then ?_))))))))))))
   exact fun w' hH hf=>hKLM (kM+1,y96,p96,c96,bM++[b94]) _ w' ⟨hkM,by rw[← ptrs_push];exact hO96,hpM.push hkM hf.size (fun _ _ h=>ok_blk hf h rfl) (hH.get (i:=0) rfl rfl) (hH.fresh' (i:=0) rfl rfl) hs2 (hH.get (i:=0) rfl rfl).lt,⟨hB39.1,hB39.2.1,Nat.lt_of_lt_of_le hB39.2.2 hf.size⟩,hPT.mono hf.size (fun _ _ h=>ok_blk hf h rfl)⟩ (ok_back hf2 (.inr fun _ h=>h) hf) (hH.2.2.2.2.2.2.back hf2.size (.inr fun _ h=>h)) (by simp only;omega) sR
  ·have hPM:=hpM.full (by omega)
   refine cj_exit (K9 (sQ fun K15=>sQ fun K16=>cj_reg (jF 5 ru33 so28 (k:=jH 5 ag28 (k:=jE ru28 (k:=jM (k:=K16 (cj_block ?_))))))))
   refine cj_loop (σ:=Nat×Ent×Option Addr×Nat×List Nat) (fun s=>[(1,ptr b1),(3,ptr b41),(101,.slice pf x.funcs.length cf),(102,.int .i64 (x.funcs.length:Nat)),(103,.int .i64 (s.1:Nat))])
    (fun s=>[s.2.1,ro yM,ro yT,eProf b41 x (.slice pT kT cT) (.slice none 0 0) (.slice pM kM cM) (.slice none 0 0) (.slice s.2.2.1 s.1 s.2.2.2.1) (.slice p26 (0+x.comments.length) c26) b39,⟨b39,tVT,cVT x.per,false,true,none⟩,ro y26,⟨b1,33,[.slice pt x.types.length ct,.string x.deflt,.slice ps x.samples.length csm,.slice pm x.mappings.length cm,.slice pl x.locs.length cl,.slice pf x.funcs.length cf,.slice pc x.comments.length cc,.string x.drop,.string x.keep,.int .i64 x.time,.int .i64 x.dur,.int .i64 x.period,.string x.per.ty,.string x.per.unit],false,true,none⟩])
    (fun s w'=>s.1≤x.funcs.length∧Own pFun 1 s.2.1 s.2.2.1 s.1 s.2.2.2.1 (s.2.2.2.2.map ptr)∧Part w.heap.size w' s.2.2.2.2 (x.funcs.take s.1) φF∧(w.heap.size≤b39∧w.heap.size≤b41∧b39<w'.heap.size)∧Part (b39+1) w' bT x.types φT∧Part w.heap.size w' bM x.mappings φM)
    (fun s=>x.funcs.length - s.1) (0,nilE pFun,none,0,[]) sR (fun w' hH hf=>⟨Hp.off (hH.roHead),Nat.zero_le _,Own.nil,Part.nil,⟨hB39.1,hB39.2.1,Nat.lt_of_lt_of_le hB39.2.2 hf.size⟩,hPT.mono hf.size (fun _ _ h=>ok_blk hf h rfl),hPM.mono hf.size (fun _ _ h=>ok_blk hf h rfl)⟩) ?_
   rintro ⟨kF,yF,pF,cF,bF⟩ w3 ⟨hk,hOF,hpF,hB39,hPT,hPM⟩ hf3 hH3 KLF hKLF
   have hs3:w.heap.size≤w3.heap.size:=Nat.le_trans hs2 hf3.size
   have hk3:Keep w w3:=hKd _ _ hf3
   have hKd:=fun W=>keepOf (W:=W) hk3 (Nat.le_refl _)
   have hH:=hH3.again (W:=[tProf,pVT,pMap,pFun,pLoc,pSam]) hs2 (TagOK.own (.ro (.ro (.row (.ro (.ro (.ro .nil rfl) rfl) rfl) rfl) rfl) rfl) hOF rfl)
   have hgF:=hH.geT hOF.hw hs3
   refine C.begin ⟨w3,w.heap.size,[tProf,pVT,pMap,pFun,pLoc,pSam]⟩ [yF,ro yM,ro yT,eProf b41 x (.slice pT kT cT) (.slice none 0 0) (.slice pM kM cM) (.slice none 0 0) (.slice pF kF cF) (.slice p26 (0+x.comments.length) c26) b39,⟨b39,tVT,cVT x.per,false,true,none⟩,ro y26,⟨b1,33,[.slice pt x.types.length ct,.string x.deflt,.slice ps x.samples.length csm,.slice pm x.mappings.length cm,.slice pl x.locs.length cl,.slice pf x.funcs.length cf,.slice pc x.comments.length cc,.string x.drop,.string x.keep,.int .i64 x.time,.int .i64 x.dur,.int .i64 x.period,.string x.per.ty,.string x.per.unit],false,true,none⟩] ok_refl hH ?_
   try dsimp only
   clear hH
   refine sQ fun K17=>cj_reg (jS (k:=K17 (sQ fun K18=>?_)))
   refine cj_dec rfl (fun h104=>?_) (fun h104=>?_)
   ·have hkF:kF<x.funcs.length:=by omega
    obtain ⟨qb,qo,cs,rfl,hcs,hR,hcell⟩:=hxf kF x.funcs[kF] (List.getElem?_eq_getElem hkF)
    obtain ⟨rfl, -⟩:=hR
    refine cj_skip (K18 (sQ fun K19=>cj_block (sQ fun K20=>cj_reg (jJ ru28 so83 (k:=?_)))))
    refine j_valw rfl (fun a w ha hH hf=>r_loadA ag83 so83 rfl rfl (hcell w (hKd _ _ hf)) ha) (j_allocA (zs:=[(.int .u64 0),(.string ⟨#[]⟩),(.string ⟨#[]⟩),(.string ⟨#[]⟩),(.int .i64 0)]) zv83 rfl fun b9=>jB [_,_,_,_,_] [_,_,_,_,_,_,_,_] 0 so83 (k:=K20 ?_))
    refine cj_drawI 21 (lts [0,1,2,3,4,5,6,7,8,9,10,11,12,13,14,15]++(16,false)::((17,false)::((18,false)::(lts [19,20]++(21,false)::[])))) [0,4] rfl (by kernel_rfl) (by kernel_rfl) (dM [0,4] (k:=dM [0,4] (k:=dN [0,4] (k:=dF [0,4] 5 ru75 so73 (k:=dH [0,4] 1 ag73 (k:=dF [0,4] 0 ru83 so76 (k:=dH [0,4] 0 ag76 (k:=dF [0,4] 1 ru83 so9 (k:=dH [0,4] 0 ag9 (k:=dF [0,4] 2 ru83 so9 (k:=dH [0,4] 0 ag9 (k:=dF [0,4] 3 ru83 so9 (k:=dH [0,4] 0 ag9 (k:=?_))))))))))))))
    refine dF [0,4] 4 ru83 so2 (k:=dH [0,4] 0 ag2 (k:=?_))
    refine dj_val rfl rfl (sub_of [0,4] rfl) (fun _ _ h=>r_build (cs:=[_,_,_,_,_,(.int .i64 0),(.int .i64 0),(.int .i64 0)]) bt86 rfl rfl h) (dE (h:=fun Kd=>j_boxA (vs:=[_,_,_,_,_,_,_,_]) rfl rfl fun b123=>Kd (sb [1,5]) (dE (h:=fun Kd=>j_bslice1 ru73 so84 zv84 rfl rfl rfl rfl rfl fun b124=>Kd (sb [2,6]) (dE (h:=fun Kd=>?_))))))
    refine j_appO 2 rfl hOF ru73 el84 rfl rfl rfl rfl rfl (by omega) rfl fun y125 p125 c125 hO125=>?_
    refine Kd (sb [1,5]) (dN [1,5] (k:=dF [1,5] 5 ru75 so73 (k:=dE (h:=fun Kd=>jB [_,_,_,_,_,_,_,_,_,_,_,_,_,_,_,_,_,_] [_,_,_,_,_,_,_,_,_] 5 so73 (k:=Kd (.inl rfl) (K19 (CJ.t [(1,_),(3,_),(101,_),(102,_),(103,_)] (k:=cj_reg (jI (k:=jM (k:=j_nil (ej_then ?_))))))))))))
    exact fun w' hH hf=>hKLF (kF+1,y125,p125,c125,bF++[b123]) _ w' ⟨hkF,by rw[← ptrs_push];exact hO125,hpF.push hkF hf.size (fun _ _ h=>ok_blk hf h rfl) (hH.get (i:=0) rfl rfl) (hH.fresh' (i:=0) rfl rfl) hs3 (hH.get (i:=0) rfl rfl).lt,⟨hB39.1,hB39.2.1,Nat.lt_of_lt_of_le hB39.2.2 hf.size⟩,hPT.mono hf.size (fun _ _ h=>ok_blk hf h rfl),hPM.mono hf.size (fun _ _ h=>ok_blk hf h rfl)⟩ (ok_back hf3 (.inr fun _ h=>h) hf) (hH.2.2.2.2.2.2.back hf3.size (.inr fun _ h=>h)) (by simp only;omega) sR
   ·have hPF:=hpF.full (by omega)
    refine cj_exit (K15 (sQ fun K21=>sQ fun K22=>cj_reg (jF 4 ru33 so27 (k:=jH 6 ag27 (k:=jE ru27 (k:=jM (k:=K22 (cj_block ?_))))))))
    refine cj_loop (σ:=Nat×Ent×Option Addr×Nat×List Nat) (fun s=>[(1,ptr b1),(3,ptr b41),(130,.slice pl x.locs.length cl),(131,.int .i64 (x.locs.length:Nat)),(132,.int .i64 (s.1:Nat))])
     (fun s=>[s.2.1,ro yF,ro yM,ro yT,eProf b41 x (.slice pT kT cT) (.slice none 0 0) (.slice pM kM cM) (.slice s.2.2.1 s.1 s.2.2.2.1) (.slice pF kF cF) (.slice p26 (0+x.comments.length) c26) b39,⟨b39,tVT,cVT x.per,false,true,none⟩,ro y26,⟨b1,33,[.slice pt x.types.length ct,.string x.deflt,.slice ps x.samples.length csm,.slice pm x.mappings.length cm,.slice pl x.locs.length cl,.slice pf x.funcs.length cf,.slice pc x.comments.length cc,.string x.drop,.string x.keep,.int .i64 x.time,.int .i64 x.dur,.int .i64 x.period,.string x.per.ty,.string x.per.unit],false,true,none⟩])
     (fun s w'=>s.1≤x.locs.length∧(Own pLoc 1 s.2.1 s.2.2.1 s.1 s.2.2.2.1 (s.2.2.2.2.map ptr)∧(s.2.1.on=true→0<s.1))∧Part w.heap.size w' s.2.2.2.2 (x.locs.take s.1) (fun v b l=>LocP v bM bF b l∧RowGe w.heap.size v b)∧(w.heap.size≤b39∧w.heap.size≤b41∧b39<w'.heap.size)∧Part (b39+1) w' bT x.types φT∧Part w.heap.size w' bM x.mappings φM∧Part w.heap.size w' bF x.funcs φF)
     (fun s=>x.locs.length - s.1) (0,nilE pLoc,none,0,[]) sR (fun w' hH hf=>⟨Hp.off (hH.roHead),Nat.zero_le _,⟨Own.nil,fun h=>by cases h⟩,Part.nil,⟨hB39.1,hB39.2.1,Nat.lt_of_lt_of_le hB39.2.2 hf.size⟩,hPT.mono hf.size (fun _ _ h=>ok_blk hf h rfl),hPM.mono hf.size (fun _ _ h=>ok_blk hf h rfl),hPF.mono hf.size (fun _ _ h=>ok_blk hf h rfl)⟩) ?_
    rintro ⟨kL,yL,pL,cL,bL⟩ w4 ⟨hk,⟨hOL,hnL⟩,hpL,hB39,hPT,hPM,hPF⟩ hf4 hH4 KLL hKLL
    have hs4:w.heap.size≤w4.heap.size:=Nat.le_trans hs3 hf4.size
    have hk4:Keep w w4:=hKd _ _ hf4
    have hKd:=fun W=>keepOf (W:=W) hk4 (Nat.le_refl _)
    have hH:=hH4.again (W:=[tProf,pVT,pMap,pFun,pLoc,pSam]) hs3 (TagOK.own (.ro (.ro (.ro (.row (.ro (.ro (.ro .nil rfl) rfl) rfl) rfl) rfl) rfl) rfl) hOL rfl)
    have hgL:=hH.geT hOL.hw hs4
    refine C.begin ⟨w4,w.heap.size,[tProf,pVT,pMap,pFun,pLoc,pSam]⟩ [yL,ro yF,ro yM,ro yT,eProf b41 x (.slice pT kT cT) (.slice none 0 0) (.slice pM kM cM) (.slice pL kL cL) (.slice pF kF cF) (.slice p26 (0+x.comments.length) c26) b39,⟨b39,tVT,cVT x.per,false,true,none⟩,ro y26,⟨b1,33,[.slice pt x.types.length ct,.string x.deflt,.slice ps x.samples.length csm,.slice pm x.mappings.length cm,.slice pl x.locs.length cl,.slice pf x.funcs.length cf,.slice pc x.comments.length cc,.string x.drop,.string x.keep,.int .i64 x.time,.int .i64 x.dur,.int .i64 x.period,.string x.per.ty,.string x.per.unit],false,true,none⟩] ok_refl hH ?_
    try dsimp only
    clear hH
    refine sQ fun K23=>cj_reg (jS (k:=K23 (sQ fun K24=>?_)))
    refine cj_dec rfl (fun h133=>?_) (fun h133=>?_)
    ·have hkL:kL<x.locs.length:=by omega
     obtain ⟨qb,qo,cs,rfl,hcs,hR,hcell⟩:=hxl kL x.locs[kL] (List.getElem?_eq_getElem hkL)
     obtain ⟨l1,rfl, -, -, -,hl1⟩:=hR
     obtain ⟨p1,c1,rfl, -,hx1⟩:=hl1.open
     obtain ⟨hmap,n7,hlin⟩:=hx.locs x.locs[kL] (List.getElem_mem hkL)
     have hlM:kM=bM.length:=by have:=hOM.sl.1;simp at this;omega
     have hlF:kF=bF.length:=by have:=hOF.sl.1;simp at this;omega
     have hlM2:=hPM.each.1
     have hlF2:=hPF.each.1
     refine cj_skip (K24 (sQ fun K25=>cj_block (sQ fun K26=>cj_reg (jJ ru27 so89 (k:=?_)))))
     refine j_valw rfl (fun a w ha hH hf=>r_loadA ag89 so89 rfl rfl (hcell w (hKd _ _ hf)) ha) (j_allocA (zs:=[(.int .u64 0),(.int .i64 0),(.int .u64 0),(.slice none 0 0)]) zv89 rfl fun b11=>jB [_,_,_,_] [_,_,_,_,_,_,_,_,_] 0 so89 (k:=K26 (sQ fun K27=>cj_reg (jF 0 ru89 so76 (k:=jH 0 ag76 (k:=jF 2 ru89 so76 (k:=jH 0 ag76 (k:=?_))))))))
     refine j_val rfl (fun _ _ h=>r_build (cs:=[_,(.pointer none),_,(.slice none 0 0),(.bool false),(.int .u64 0)]) bt93 rfl rfl h) (j_boxA (vs:=[_,_,_,_,_,_]) rfl rfl fun b141=>jA (k:=K27 (CJ.t [(1,_),(3,_),(11,_),(12,_),(130,_),(131,_),(132,_)] (k:=sQ fun K28=>sQ fun K29=>cj_reg (jF 1 ru89 so3 (k:=jH 1 ag3 (k:=?_)))))))
     refine j_val rfl (fun _ _ h=>r_geq rfl rfl h) (K29 ?_)
     refine cj_dec rfl (fun h144=>?_) (fun h144=>?_)
     ·have hzM:x.locs[kL].mapping=((x.locs[kL].mapping.toNat:Nat):Int):=by omega
      have hltM:x.locs[kL].mapping.toNat<kM:=by omega
      obtain ⟨honM,hpeM⟩:=hOM.pos (by omega)
      refine cj_drawI 11 (lts [0,1,2,3,4,5,6,7,8,9,10]++(11,false)::[]) [1,6,4] rfl (by kernel_rfl) (by kernel_rfl) (dM [1,6,4] (k:=dM [1,6,4] (k:=dN [1,6,4] (k:=dF [1,6,4] 3 ru75 so71 (k:=dH [1,6,4] 1 ag71 (k:=dF [1,6,4] 1 ru89 so3 (k:=dH [1,6,4] 0 ag3 (k:=?_))))))))
      refine dj_val rfl rfl (sub_of [1,6,4] rfl) (fun _ _ h=>r_idxI _ ru71 so79 rfl hpeM rfl hzM hltM h) (dj_ld rfl rfl (sub_of [1,6,4] rfl) (fun a w ha hS=>r_load ag79 rfl (hOM.cell (hS.1 (ro yM) (by simp) honM) (ptrAt_pos h144 (hlM▸hltM))) ha) (dN [1,6,4] (k:=dF [1,6,4] 1 ru93 so79 (k:=dE (h:=fun Kd=>jB [_,_,_,_,_,_] [_,_,_,_,_,_,_,_,_,_] 0 so79 (k:=Kd (.inl rfl) (K28 (CJ.t [(1,_),(3,_),(11,_),(12,_),(130,_),(131,_),(132,_)] (k:=sQ fun K30=>sQ fun K31=>cj_reg (jF 3 ru89 so87 (k:=jH 1 ag87 (k:=?_))))))))))))
      refine jE ru87 (k:=jM (k:=K31 (cj_block ?_)))
      refine cj_loop (σ:=Nat×Ent×Option Addr×Nat) (fun s=>[(1,ptr b1),(3,ptr b41),(12,ptr b141),(130,.slice (some ⟨qb,qo,none⟩) x.locs.length cl),(131,.int .i64 (x.locs.length:Nat)),(132,.int .i64 (kL:Nat)),(157,.slice p1 x.locs[kL].lines.length c1),(158,.int .i64 (x.locs[kL].lines.length:Nat)),(159,.int .i64 (s.1:Nat))])
       (fun s=>[s.2.1,⟨b141,tLoc,cLoc bM x.locs[kL] (.slice s.2.2.1 s.1 s.2.2.2),true,true,none⟩,yL,ro yF,ro yM,ro yT,eProf b41 x (.slice pT kT cT) (.slice none 0 0) (.slice pM kM cM) (.slice pL kL cL) (.slice pF kF cF) (.slice p26 (0+x.comments.length) c26) b39,⟨b39,tVT,cVT x.per,false,true,none⟩,ro y26,⟨b1,33,[.slice pt x.types.length ct,.string x.deflt,.slice ps x.samples.length csm,.slice pm x.mappings.length cm,.slice (some ⟨qb,qo,none⟩) x.locs.length cl,.slice pf x.funcs.length cf,.slice pc x.comments.length cc,.string x.drop,.string x.keep,.int .i64 x.time,.int .i64 x.dur,.int .i64 x.period,.string x.per.ty,.string x.per.unit],false,true,none⟩])
       (fun s w'=>s.1≤x.locs[kL].lines.length∧Own tLine 3 s.2.1 s.2.2.1 s.1 s.2.2.2 ((x.locs[kL].lines.take s.1).flatMap (cLine bF)))
       (fun s=>x.locs[kL].lines.length - s.1) (0,nilE tLine,none,0) sR (fun w' hH hf=>⟨(hH.drop 1).off,Nat.zero_le _,Own.nil⟩) ?_
      rintro ⟨j,yN,pN,cN⟩ wN ⟨hj,hON⟩ hfN hHN KN hKN
      refine C.begin _ _ hfN hHN ?_
      try dsimp only
      refine sQ fun K32=>cj_reg (jS (k:=K32 (sQ fun K33=>?_)))
      refine cj_dec rfl (fun h160=>?_) (fun h160=>?_)
      ·have hj':j<x.locs[kL].lines.length:=by omega
       obtain ⟨qb2,qo2,cs2,rfl, -,hR2,hcell2⟩:=hx1 j x.locs[kL].lines[j] (List.getElem?_eq_getElem hj')
       obtain ⟨rfl, -, -⟩:=hR2
       have hfn:=hlin x.locs[kL].lines[j] (List.getElem_mem hj')
       refine cj_skip (K33 (sQ fun K34=>cj_block (sQ fun K35=>cj_reg (jJ ru87 so95 (k:=?_)))))
       refine j_valw rfl (fun a w ha hH hf=>r_loadA ag95 so95 rfl rfl (hcell2 w (hKd _ _ hf)) ha) (j_allocA (zs:=[(.int .i64 0),(.int .i64 0)]) zv95 rfl fun b14=>jB [_,_] [_,_,_,_,_,_,_,_,_,_,_] 0 so95 (k:=K35 (sQ fun K36=>cj_reg (jF 1 ru95 so2 (k:=jH 0 ag2 (k:=?_))))))
       refine j_val rfl (fun _ _ h=>r_build (cs:=[(.pointer none),_,(.int .u64 0)]) bt97 rfl rfl h) (j_allocA (zs:=[(.pointer none),(.int .i64 0),(.int .u64 0)]) zv97 rfl fun b15=>jB [_,_,_] [_,_,_,_,_,_,_,_,_,_,_,_] 0 so97 (k:=K36 (sQ fun K37=>sQ fun K38=>cj_reg (jF 0 ru95 so3 (k:=jH 1 ag3 (k:=?_))))))
       refine j_val rfl (fun _ _ h=>r_geq rfl rfl h) (K38 (CJ.t [(1,_),(3,_),(12,_),(14,_),(15,_),(130,_),(131,_),(132,_),(157,_),(158,_),(159,_),(168,_)] (k:=?_)))
       refine cj_dec rfl (fun h168=>?_) (fun h168=>?_)
       ·have hzF:x.locs[kL].lines[j].fn=((x.locs[kL].lines[j].fn.toNat:Nat):Int):=by omega
        have hltF:x.locs[kL].lines[j].fn.toNat<kF:=by omega
        obtain ⟨honF,hpeF⟩:=hOF.pos (by omega)
        refine cj_drawI 9 (lts [0,1,2,3,4,5,6,7,8]++(9,false)::[]) [1,8,5] rfl (by kernel_rfl) (by kernel_rfl) (dM [1,8,5] (k:=dN [1,8,5] (k:=dF [1,8,5] 5 ru75 so73 (k:=dH [1,8,5] 1 ag73 (k:=dF [1,8,5] 0 ru95 so3 (k:=dH [1,8,5] 0 ag3 (k:=?_)))))))
        refine dj_val rfl rfl (sub_of [1,8,5] rfl) (fun _ _ h=>r_idxI _ ru73 so84 rfl hpeF rfl hzF hltF h) (dj_ld rfl rfl (sub_of [1,8,5] rfl) (fun a w ha hS=>r_load ag84 rfl (hOF.cell (hS.1 (ro yF) (by simp) honF) (ptrAt_pos h168 (hlF▸hltF))) ha) (dF [1,8,5] 0 ru97 so84 (k:=dE (h:=fun Kd=>jB [_,_,_] [_,_,_,_,_,_,_,_,_,_,_,_] 0 so84 (k:=Kd (.inl rfl) (K37 ?_))))))
        refine cj_drawI 10 (lts [0,1,2,3,4,5]++(6,false)::((7,false)::(lts [8,9]++(10,false)::[]))) [0,3] rfl (by kernel_rfl) (by kernel_rfl) (dM [0,3] (k:=dM [0,3] (k:=dN [0,3] (k:=dF [0,3] 3 ru93 so91 (k:=dH [0,3] 1 ag91 (k:=?_))))))
        refine dj_ld rfl rfl (sub_of [0,3] rfl) (fun a w ha hS=>r_ldSA (vs:=[_,_,_]) 0 rfl rfl ag97 so97 rfl rfl rfl ha hS) (dE (h:=fun Kd=>j_bslice1 ru91 so97 zv97 rfl rfl rfl rfl rfl fun b184=>Kd (sb [1,4]) (dE (h:=fun Kd=>?_))))
        refine j_appO 2 rfl hON ru91 el97 rfl rfl rfl rfl rfl (by omega) rfl fun y185 p185 c185 hO185=>?_
        refine Kd (sb [0,3]) (dN [0,3] (k:=dF [0,3] 3 ru93 so91 (k:=dE (h:=fun Kd=>jB [_,_,_,_,_,_] [_,_,_,_,_,_,_,_,_,_,_,_] 3 so91 (k:=Kd (.inl rfl) (K34 (CJ.t [(1,_),(3,_),(12,_),(130,_),(131,_),(132,_),(157,_),(158,_),(159,_)] (k:=cj_reg (jI (k:=jM (k:=j_nil (ej_then ?_))))))))))))
        have hfm:Own tLine 3 y185 p185 (j+1) c185 ((x.locs[kL].lines.take (j+1)).flatMap (cLine bF)):=by
         rw[← flatMap_step hj']
         first
         |exact hO185
         |(rw[show cLine bF x.locs[kL].lines[j]=[.pointer none,.int .i64 x.locs[kL].lines[j].line,.int .u64 0] from by simp[cLine,ptrAt_neg h168]];exact hO185)
        exact fun w' hH hf=>hKN (j+1,y185,p185,c185) _ w' ⟨hj',hfm⟩ hf hH.2.2.2.2.2.2 (by simp only;omega) ⟨rfl,rfl,rfl,rfl,rfl,rfl,rfl,rfl,rfl,trivial⟩
       ·refine cj_skip (K37 (cj_drawI 10 (lts [0,1,2,3,4,5]++(6,false)::((7,false)::(lts [8,9]++(10,false)::[]))) [0,3] rfl (by kernel_rfl) (by kernel_rfl) (dM [0,3] (k:=dM [0,3] (k:=dN [0,3] (k:=dF [0,3] 3 ru93 so91 (k:=dH [0,3] 1 ag91 (k:=?_))))))))
        refine dj_ld rfl rfl (sub_of [0,3] rfl) (fun a w ha hS=>r_ldSA (vs:=[_,_,_]) 0 rfl rfl ag97 so97 rfl rfl rfl ha hS) (dE (h:=fun Kd=>j_bslice1 ru91 so97 zv97 rfl rfl rfl rfl rfl fun b184=>Kd (sb [1,4]) (dE (h:=fun Kd=>?_))))
        refine j_appO 2 rfl hON ru91 el97 rfl rfl rfl rfl rfl (by omega) rfl fun y185 p185 c185 hO185=>?_
        refine Kd (sb [0,3]) (dN [0,3] (k:=dF [0,3] 3 ru93 so91 (k:=dE (h:=fun Kd=>jB [_,_,_,_,_,_] [_,_,_,_,_,_,_,_,_,_,_,_] 3 so91 (k:=Kd (.inl rfl) (K34 (CJ.t [(1,_),(3,_),(12,_),(130,_),(131,_),(132,_),(157,_),(158,_),(159,_)] (k:=cj_reg (jI (k:=jM (k:=j_nil (ej_then ?_))))))))))))
        have hfm:Own tLine 3 y185 p185 (j+1) c185 ((x.locs[kL].lines.take (j+1)).flatMap (cLine bF)):=by
         rw[← flatMap_step hj']
         first
         |exact hO185
         |(rw[show cLine bF x.locs[kL].lines[j]=[.pointer none,.int .i64 x.locs[kL].lines[j].line,.int .u64 0] from by simp[cLine,ptrAt_neg h168]];exact hO185)
        exact fun w' hH hf=>hKN (j+1,y185,p185,c185) _ w' ⟨hj',hfm⟩ hf hH.2.2.2.2.2.2 (by simp only;omega) ⟨rfl,rfl,rfl,rfl,rfl,rfl,rfl,rfl,rfl,trivial⟩
      ·have hON':Own tLine 3 yN pN j cN (x.locs[kL].lines.flatMap (cLine bF)):=by rw[List.take_of_length_le (by omega)]at hON;exact hON
       refine cj_exit (K30 (cj_reg (jM (k:=jM (k:=jN (k:=jF 4 ru75 so72 (k:=jH 6 ag72 (k:=jM (k:=?_)))))))))
       refine j_bslice1 ru72 so90 zv90 rfl rfl rfl rfl rfl fun b195=>?_
       refine j_appO 2 rfl hOL ru72 el90 rfl rfl rfl rfl rfl (by omega) rfl fun y196 p196 c196 hO196=>?_
       refine jN (k:=jF 4 ru75 so72 (k:=jB [_,_,_,_,_,_,_,_,_,_,_,_,_,_,_,_,_,_] [_,_,_,_,_,_,_,_,_,_] 6 so72 (k:=K25 (CJ.t [(1,_),(3,_),(130,_),(131,_),(132,_)] (k:=cj_reg (jI (k:=jM (k:=j_nil (ej_then ?_)))))))))
       exact fun w' hH hf=>hKLL (kL+1,y196,p196,c196,bL++[b141]) _ w' ⟨hkL,⟨by rw[← ptrs_push];exact hO196,fun _=>Nat.succ_pos _⟩,hpL.push hkL hf.size (fun _ _ h=>⟨h.1.mono (fun _ _ h=>ok_blk hf h rfl) (fun _ _ h=>ok_blk hf h rfl),h.2.mono fun _ _ h=>ok_blk hf h rfl⟩) ⟨⟨_,hH.get (i:=1) rfl rfl,hON'.os (i:=0) hH rfl⟩,⟨_,hH.get (i:=1) rfl rfl,rowGe_own hON' hH (i:=0) rfl hs4⟩⟩ (hH.fresh' (i:=1) rfl rfl) hs4 (hH.get (i:=1) rfl rfl).lt,⟨hB39.1,hB39.2.1,Nat.lt_of_lt_of_le hB39.2.2 hf.size⟩,hPT.mono hf.size (fun _ _ h=>ok_blk hf h rfl),hPM.mono hf.size (fun _ _ h=>ok_blk hf h rfl),hPF.mono hf.size (fun _ _ h=>ok_blk hf h rfl)⟩ (ok_back hf4 (.inr fun _ h=>h) hf) (hH.2.2.2.2.2.2.back hf4.size (.inr fun _ h=>h)) (by simp only;omega) sR
     ·refine cj_skip (K28 (sQ fun K39=>sQ fun K40=>cj_reg (jF 3 ru89 so87 (k:=jH 1 ag87 (k:=jE ru87 (k:=jM (k:=K40 (cj_block ?_))))))))
      refine cj_loop (σ:=Nat×Ent×Option Addr×Nat) (fun s=>[(1,ptr b1),(3,ptr b41),(12,ptr b141),(130,.slice (some ⟨qb,qo,none⟩) x.locs.length cl),(131,.int .i64 (x.locs.length:Nat)),(132,.int .i64 (kL:Nat)),(157,.slice p1 x.locs[kL].lines.length c1),(158,.int .i64 (x.locs[kL].lines.length:Nat)),(159,.int .i64 (s.1:Nat))])
       (fun s=>[s.2.1,⟨b141,tLoc,cLoc bM x.locs[kL] (.slice s.2.2.1 s.1 s.2.2.2),true,true,none⟩,yL,ro yF,ro yM,ro yT,eProf b41 x (.slice pT kT cT) (.slice none 0 0) (.slice pM kM cM) (.slice pL kL cL) (.slice pF kF cF) (.slice p26 (0+x.comments.length) c26) b39,⟨b39,tVT,cVT x.per,false,true,none⟩,ro y26,⟨b1,33,[.slice pt x.types.length ct,.string x.deflt,.slice ps x.samples.length csm,.slice pm x.mappings.length cm,.slice (some ⟨qb,qo,none⟩) x.locs.length cl,.slice pf x.funcs.length cf,.slice pc x.comments.length cc,.string x.drop,.string x.keep,.int .i64 x.time,.int .i64 x.dur,.int .i64 x.period,.string x.per.ty,.string x.per.unit],false,true,none⟩])
       (fun s w'=>s.1≤x.locs[kL].lines.length∧Own tLine 3 s.2.1 s.2.2.1 s.1 s.2.2.2 ((x.locs[kL].lines.take s.1).flatMap (cLine bF)))
       (fun s=>x.locs[kL].lines.length - s.1) (0,nilE tLine,none,0) sR (fun w' hH hf=>⟨by
       have e:cLoc bM x.locs[kL] (.slice none 0 0)=[.int .u64 x.locs[kL].id,.pointer none,.int .u64 x.locs[kL].addr,.slice none 0 0,.bool false,.int .u64 0]:=by simp[cLoc,ptrAt_neg h144]
       show Hp _ _ (_::⟨b141,tLoc,cLoc bM x.locs[kL] (.slice none 0 0),true,true,none⟩::_)
       rw[e]
       exact (hH.drop 1).off,Nat.zero_le _,Own.nil⟩) ?_
      rintro ⟨j,yN,pN,cN⟩ wN ⟨hj,hON⟩ hfN hHN KN hKN
      refine C.begin _ _ hfN hHN ?_
      try dsimp only
      refine sQ fun K41=>cj_reg (jS (k:=K41 (sQ fun K42=>?_)))
      refine cj_dec rfl (fun h160=>?_) (fun h160=>?_)
      ·have hj':j<x.locs[kL].lines.length:=by omega
       obtain ⟨qb2,qo2,cs2,rfl, -,hR2,hcell2⟩:=hx1 j x.locs[kL].lines[j] (List.getElem?_eq_getElem hj')
       obtain ⟨rfl, -, -⟩:=hR2
       have hfn:=hlin x.locs[kL].lines[j] (List.getElem_mem hj')
       refine cj_skip (K42 (sQ fun K43=>cj_block (sQ fun K44=>cj_reg (jJ ru87 so95 (k:=?_)))))
       refine j_valw rfl (fun a w ha hH hf=>r_loadA ag95 so95 rfl rfl (hcell2 w (hKd _ _ hf)) ha) (j_allocA (zs:=[(.int .i64 0),(.int .i64 0)]) zv95 rfl fun b14=>jB [_,_] [_,_,_,_,_,_,_,_,_,_,_] 0 so95 (k:=K44 (sQ fun K45=>cj_reg (jF 1 ru95 so2 (k:=jH 0 ag2 (k:=?_))))))
       refine j_val rfl (fun _ _ h=>r_build (cs:=[(.pointer none),_,(.int .u64 0)]) bt97 rfl rfl h) (j_allocA (zs:=[(.pointer none),(.int .i64 0),(.int .u64 0)]) zv97 rfl fun b15=>jB [_,_,_] [_,_,_,_,_,_,_,_,_,_,_,_] 0 so97 (k:=K45 (sQ fun K46=>sQ fun K47=>cj_reg (jF 0 ru95 so3 (k:=jH 1 ag3 (k:=?_))))))
       refine j_val rfl (fun _ _ h=>r_geq rfl rfl h) (K47 (CJ.t [(1,_),(3,_),(12,_),(14,_),(15,_),(130,_),(131,_),(132,_),(157,_),(158,_),(159,_),(168,_)] (k:=?_)))
       refine cj_dec rfl (fun h168=>?_) (fun h168=>?_)
       ·have hzF:x.locs[kL].lines[j].fn=((x.locs[kL].lines[j].fn.toNat:Nat):Int):=by omega
        have hltF:x.locs[kL].lines[j].fn.toNat<kF:=by omega
        obtain ⟨honF,hpeF⟩:=hOF.pos (by omega)
        refine cj_drawI 9 (lts [0,1,2,3,4,5,6,7,8]++(9,false)::[]) [1,8,5] rfl (by kernel_rfl) (by kernel_rfl) (dM [1,8,5] (k:=dN [1,8,5] (k:=dF [1,8,5] 5 ru75 so73 (k:=dH [1,8,5] 1 ag73 (k:=dF [1,8,5] 0 ru95 so3 (k:=dH [1,8,5] 0 ag3 (k:=?_)))))))
        refine dj_val rfl rfl (sub_of [1,8,5] rfl) (fun _ _ h=>r_idxI _ ru73 so84 rfl hpeF rfl hzF hltF h) (dj_ld rfl rfl (sub_of [1,8,5] rfl) (fun a w ha hS=>r_load ag84 rfl (hOF.cell (hS.1 (ro yF) (by simp) honF) (ptrAt_pos h168 (hlF▸hltF))) ha) (dF [1,8,5] 0 ru97 so84 (k:=dE (h:=fun Kd=>jB [_,_,_] [_,_,_,_,_,_,_,_,_,_,_,_] 0 so84 (k:=Kd (.inl rfl) (K46 ?_))))))
        refine cj_drawI 10 (lts [0,1,2,3,4,5]++(6,false)::((7,false)::(lts [8,9]++(10,false)::[]))) [0,3] rfl (by kernel_rfl) (by kernel_rfl) (dM [0,3] (k:=dM [0,3] (k:=dN [0,3] (k:=dF [0,3] 3 ru93 so91 (k:=dH [0,3] 1 ag91 (k:=?_))))))
        refine dj_ld rfl rfl (sub_of [0,3] rfl) (fun a w ha hS=>r_ldSA (vs:=[_,_,_]) 0 rfl rfl ag97 so97 rfl rfl rfl ha hS) (dE (h:=fun Kd=>j_bslice1 ru91 so97 zv97 rfl rfl rfl rfl rfl fun b184=>Kd (sb [1,4]) (dE (h:=fun Kd=>?_))))
        refine j_appO 2 rfl hON ru91 el97 rfl rfl rfl rfl rfl (by omega) rfl fun y185 p185 c185 hO185=>?_
        refine Kd (sb [0,3]) (dN [0,3] (k:=dF [0,3] 3 ru93 so91 (k:=dE (h:=fun Kd=>jB [_,_,_,_,_,_] [_,_,_,_,_,_,_,_,_,_,_,_] 3 so91 (k:=Kd (.inl rfl) (K43 (CJ.t [(1,_),(3,_),(12,_),(130,_),(131,_),(132,_),(157,_),(158,_),(159,_)] (k:=cj_reg (jI (k:=jM (k:=j_nil (ej_then ?_))))))))))))
        have hfm:Own tLine 3 y185 p185 (j+1) c185 ((x.locs[kL].lines.take (j+1)).flatMap (cLine bF)):=by
         rw[← flatMap_step hj']
         first
         |exact hO185
         |(rw[show cLine bF x.locs[kL].lines[j]=[.pointer none,.int .i64 x.locs[kL].lines[j].line,.int .u64 0] from by simp[cLine,ptrAt_neg h168]];exact hO185)
        exact fun w' hH hf=>hKN (j+1,y185,p185,c185) _ w' ⟨hj',hfm⟩ hf hH.2.2.2.2.2.2 (by simp only;omega) ⟨rfl,rfl,rfl,rfl,rfl,rfl,rfl,rfl,rfl,trivial⟩
       ·refine cj_skip (K46 (cj_drawI 10 (lts [0,1,2,3,4,5]++(6,false)::((7,false)::(lts [8,9]++(10,false)::[]))) [0,3] rfl (by kernel_rfl) (by kernel_rfl) (dM [0,3] (k:=dM [0,3] (k:=dN [0,3] (k:=dF [0,3] 3 ru93 so91 (k:=dH [0,3] 1 ag91 (k:=?_))))))))
        refine dj_ld rfl rfl (sub_of [0,3] rfl) (fun a w ha hS=>r_ldSA (vs:=[_,_,_]) 0 rfl rfl ag97 so97 rfl rfl rfl ha hS) (dE (h:=fun Kd=>j_bslice1 ru91 so97 zv97 rfl rfl rfl rfl rfl fun b184=>Kd (sb [1,4]) (dE (h:=fun Kd=>?_))))
        refine j_appO 2 rfl hON ru91 el97 rfl rfl rfl rfl rfl (by omega) rfl fun y185 p185 c185 hO185=>?_
        refine Kd (sb [0,3]) (dN [0,3] (k:=dF [0,3] 3 ru93 so91 (k:=dE (h:=fun Kd=>jB [_,_,_,_,_,_] [_,_,_,_,_,_,_,_,_,_,_,_] 3 so91 (k:=Kd (.inl rfl) (K43 (CJ.t [(1,_),(3,_),(12,_),(130,_),(131,_),(132,_),(157,_),(158,_),(159,_)] (k:=cj_reg (jI (k:=jM (k:=j_nil (ej_then ?_))))))))))))
        have hfm:Own tLine 3 y185 p185 (j+1) c185 ((x.locs[kL].lines.take (j+1)).flatMap (cLine bF)):=by
         rw[← flatMap_step hj']
         first
         |exact hO185
         |(rw[show cLine bF x.locs[kL].lines[j]=[.pointer none,.int .i64 x.locs[kL].lines[j].line,.int .u64 0] from by simp[cLine,ptrAt_neg h168]];exact hO185)
        exact fun w' hH hf=>hKN (j+1,y185,p185,c185) _ w' ⟨hj',hfm⟩ hf hH.2.2.2.2.2.2 (by simp only;omega) ⟨rfl,rfl,rfl,rfl,rfl,rfl,rfl,rfl,rfl,trivial⟩
      ·have hON':Own tLine 3 yN pN j cN (x.locs[kL].lines.flatMap (cLine bF)):=by rw[List.take_of_length_le (by omega)]at hON;exact hON
       refine cj_exit (K39 (cj_reg (jM (k:=jM (k:=jN (k:=jF 4 ru75 so72 (k:=jH 6 ag72 (k:=jM (k:=?_)))))))))
       refine j_bslice1 ru72 so90 zv90 rfl rfl rfl rfl rfl fun b195=>?_
       refine j_appO 2 rfl hOL ru72 el90 rfl rfl rfl rfl rfl (by omega) rfl fun y196 p196 c196 hO196=>?_
       refine jN (k:=jF 4 ru75 so72 (k:=jB [_,_,_,_,_,_,_,_,_,_,_,_,_,_,_,_,_,_] [_,_,_,_,_,_,_,_,_,_] 6 so72 (k:=K25 (CJ.t [(1,_),(3,_),(130,_),(131,_),(132,_)] (k:=cj_reg (jI (k:=jM (k:=j_nil (ej_then ?_)))))))))
       exact fun w' hH hf=>hKLL (kL+1,y196,p196,c196,bL++[b141]) _ w' ⟨hkL,⟨by rw[← ptrs_push];exact hO196,fun _=>Nat.succ_pos _⟩,hpL.push hkL hf.size (fun _ _ h=>⟨h.1.mono (fun _ _ h=>ok_blk hf h rfl) (fun _ _ h=>ok_blk hf h rfl),h.2.mono fun _ _ h=>ok_blk hf h rfl⟩) ⟨⟨_,hH.get (i:=1) rfl rfl,hON'.os (i:=0) hH rfl⟩,⟨_,hH.get (i:=1) rfl rfl,rowGe_own hON' hH (i:=0) rfl hs4⟩⟩ (hH.fresh' (i:=1) rfl rfl) hs4 (hH.get (i:=1) rfl rfl).lt,⟨hB39.1,hB39.2.1,Nat.lt_of_lt_of_le hB39.2.2 hf.size⟩,hPT.mono hf.size (fun _ _ h=>ok_blk hf h rfl),hPM.mono hf.size (fun _ _ h=>ok_blk hf h rfl),hPF.mono hf.size (fun _ _ h=>ok_blk hf h rfl)⟩ (ok_back hf4 (.inr fun _ h=>h) hf) (hH.2.2.2.2.2.2.back hf4.size (.inr fun _ h=>h)) (by simp only;omega) sR
    ·have hPL:=hpL.full (by omega)
     refine cj_exit (K21 (sQ fun K48=>sQ fun K49=>cj_reg (jF 2 ru33 so25 (k:=jH 7 ag25 (k:=jE ru25 (k:=jM (k:=K49 (cj_block ?_))))))))
     refine cj_loop (σ:=Nat×Ent×Option Addr×Nat×List Nat) (fun s=>[(3,ptr b41),(201,.slice ps x.samples.length csm),(202,.int .i64 (x.samples.length:Nat)),(203,.int .i64 (s.1:Nat))])
      (fun s=>[s.2.1,ro yL,ro yF,ro yM,ro yT,eProf b41 x (.slice pT kT cT) (.slice s.2.2.1 s.1 s.2.2.2.1) (.slice pM kM cM) (.slice pL kL cL) (.slice pF kF cF) (.slice p26 (0+x.comments.length) c26) b39,⟨b39,tVT,cVT x.per,false,true,none⟩,ro y26,⟨b1,33,[.slice pt x.types.length ct,.string x.deflt,.slice ps x.samples.length csm,.slice pm x.mappings.length cm,.slice pl x.locs.length cl,.slice pf x.funcs.length cf,.slice pc x.comments.length cc,.string x.drop,.string x.keep,.int .i64 x.time,.int .i64 x.dur,.int .i64 x.period,.string x.per.ty,.string x.per.unit],false,true,none⟩])
      (fun s w'=>s.1≤x.samples.length∧Own pSam 1 s.2.1 s.2.2.1 s.1 s.2.2.2.1 (s.2.2.2.2.map ptr)∧Part w.heap.size w' s.2.2.2.2 (x.samples.take s.1) (fun v b s=>SamP v bL b s∧RowNe yL v b)∧(w.heap.size≤b39∧w.heap.size≤b41∧b39<w'.heap.size)∧Part (b39+1) w' bT x.types φT∧Part w.heap.size w' bM x.mappings φM∧Part w.heap.size w' bF x.funcs φF∧Part w.heap.size w' bL x.locs (fun v b l=>LocP v bM bF b l∧RowGe w.heap.size v b))
      (fun s=>x.samples.length - s.1) (0,nilE pSam,none,0,[]) sR (fun w' hH hf=>⟨Hp.off (hH.roHead),Nat.zero_le _,Own.nil,Part.nil,⟨hB39.1,hB39.2.1,Nat.lt_of_lt_of_le hB39.2.2 hf.size⟩,hPT.mono hf.size (fun _ _ h=>ok_blk hf h rfl),hPM.mono hf.size (fun _ _ h=>ok_blk hf h rfl),hPF.mono hf.size (fun _ _ h=>ok_blk hf h rfl),hPL.mono hf.size (fun _ _ h=>⟨h.1.mono (fun _ _ h=>ok_blk hf h rfl) (fun _ _ h=>ok_blk hf h rfl),h.2.mono fun _ _ h=>ok_blk hf h rfl⟩)⟩) ?_
     rintro ⟨kS,yS,pS,cS,bS⟩ w5 ⟨hk,hOS,hpS,hB39,hPT,hPM,hPF,hPL⟩ hf5 hH5 KLS hKLS
     have hs5:w.heap.size≤w5.heap.size:=Nat.le_trans hs4 hf5.size
     have hk5:Keep w w5:=hKd _ _ hf5
     have hKd:=fun W=>keepOf (W:=W) hk5 (Nat.le_refl _)
     have hH:=hH5.again (W:=[tProf,pSam]) hs4 (TagOK.own (.ro (.ro (.ro (.ro (.row (.ro (.ro (.ro .nil rfl) rfl) rfl) rfl) rfl) rfl) rfl) rfl) hOS rfl)
     have hgS:=hH.geT hOS.hw hs5
     refine C.begin ⟨w5,w.heap.size,[tProf,pSam]⟩ [yS,ro yL,ro yF,ro yM,ro yT,eProf b41 x (.slice pT kT cT) (.slice pS kS cS) (.slice pM kM cM) (.slice pL kL cL) (.slice pF kF cF) (.slice p26 (0+x.comments.length) c26) b39,⟨b39,tVT,cVT x.per,false,true,none⟩,ro y26,⟨b1,33,[.slice pt x.types.length ct,.string x.deflt,.slice ps x.samples.length csm,.slice pm x.mappings.length cm,.slice pl x.locs.length cl,.slice pf x.funcs.length cf,.slice pc x.comments.length cc,.string x.drop,.string x.keep,.int .i64 x.time,.int .i64 x.dur,.int .i64 x.period,.string x.per.ty,.string x.per.unit],false,true,none⟩] ok_refl hH ?_
     try dsimp only
     clear hH
     refine sQ fun K50=>cj_reg (jS (k:=K50 (sQ fun K51=>?_)))
     refine cj_dec rfl (fun h204=>?_) (fun h204=>?_)
     ·have hkS:kS<x.samples.length:=by omega
      obtain ⟨qb,qo,cs,rfl,hcs,hR,hcell⟩:=hxs kS x.samples[kS] (List.getElem?_eq_getElem hkS)
      have hR':=hR
      obtain ⟨l1,l2,l3,l4,rfl,hl1,hl2,hl3,hl4⟩:=hR
      obtain ⟨p1,c1,rfl, -,hx1⟩:=hl1.open
      obtain ⟨p2,c2,rfl, -, -⟩:=hl2.open
      obtain ⟨p3,c3,rfl, -, -⟩:=hl3.open
      obtain ⟨p4,c4,rfl, -, -⟩:=hl4.open
      obtain ⟨m1,m3,m4,m5⟩:=hx.samples x.samples[kS] (List.getElem_mem hkS)
      have hlL:kL=bL.length:=by have:=hOL.sl.1;simp at this;omega
      have hlL2:=hPL.each.1
      refine cj_skip (K51 (sQ fun K52=>cj_block (sQ fun K53=>cj_reg (jJ ru25 so55 (k:=?_)))))
      refine j_valw rfl (fun a w ha hH hf=>r_loadA ag55 so55 rfl rfl (hcell w (hKd _ _ hf)) ha) (j_allocA (zs:=[(.slice none 0 0),(.slice none 0 0),(.slice none 0 0),(.slice none 0 0)]) zv55 rfl fun b17=>jB [_,_,_,_] [_,_,_,_,_,_,_,_,_,_] 0 so55 (k:=K53 (sQ fun K54=>cj_reg ?_)))
      refine j_bslice0 ru49 so2 rfl fun b207=>jF 1 ru55 so49 (k:=jH 1 ag49 (k:=?_))
      refine j_appL 0 rfl Own.empty ru49 ru49 el2 rfl rfl rfl rfl (fun w hH hf w1 k1=>hl2.first1 (g:=.int .i64) (fun _ _ h=>h.1) w1 ((hKd _ _ hf).trans k1)) (fun _=>rfl) (by omega) rfl fun y210 p210 c210 hO210=>?_
      refine j_val rfl (fun _ _ h=>r_build (cs:=[(.slice none 0 0),_,(.map none),(.map none),(.map none),(.slice none 0 0),(.slice none 0 0)]) bt103 rfl rfl h) (j_boxA (vs:=[_,_,_,_,_,_,_]) rfl rfl fun b212=>jA (k:=K54 (CJ.t [(3,_),(17,_),(18,_),(201,_),(202,_),(203,_)] (k:=sQ fun K55=>sQ fun K56=>cj_reg (jF 0 ru55 so51 (k:=jH 2 ag51 (k:=jE ru51 (k:=jM (k:=K56 (cj_block ?_))))))))))
      refine cj_loop (σ:=Nat×Ent×Option Addr×Nat) (fun s=>[(3,ptr b41),(17,ptr b17),(18,ptr b212),(201,.slice (some ⟨qb,qo,none⟩) x.samples.length csm),(202,.int .i64 (x.samples.length:Nat)),(203,.int .i64 (kS:Nat)),(214,.slice p1 x.samples[kS].stack.length c1),(215,.int .i64 (x.samples[kS].stack.length:Nat)),(216,.int .i64 (s.1:Nat))])
       (fun s=>[s.2.1,⟨b212,tSam,cSam (.slice s.2.2.1 s.1 s.2.2.2) (.slice p210 (0+x.samples[kS].values.length) c210) (.map none) (.map none),true,true,none⟩,y210,⟨b17,55,[.slice p1 x.samples[kS].stack.length c1,.slice p2 x.samples[kS].values.length c2,.slice p3 x.samples[kS].texts.length c3,.slice p4 x.samples[kS].nums.length c4],true,true,none⟩,yS,ro yL,ro yF,ro yM,ro yT,eProf b41 x (.slice pT kT cT) (.slice pS kS cS) (.slice pM kM cM) (.slice pL kL cL) (.slice pF kF cF) (.slice p26 (0+x.comments.length) c26) b39,⟨b39,tVT,cVT x.per,false,true,none⟩,ro y26,⟨b1,33,[.slice pt x.types.length ct,.string x.deflt,.slice (some ⟨qb,qo,none⟩) x.samples.length csm,.slice pm x.mappings.length cm,.slice pl x.locs.length cl,.slice pf x.funcs.length cf,.slice pc x.comments.length cc,.string x.drop,.string x.keep,.int .i64 x.time,.int .i64 x.dur,.int .i64 x.period,.string x.per.ty,.string x.per.unit],false,true,none⟩])
       (fun s w'=>s.1≤x.samples[kS].stack.length∧Own pLoc 1 s.2.1 s.2.2.1 s.1 s.2.2.2 ((x.samples[kS].stack.take s.1).map (ptrAt bL)))
       (fun s=>x.samples[kS].stack.length - s.1) (0,nilE pLoc,none,0) sR (fun w' hH hf=>⟨hH.off,Nat.zero_le _,Own.nil⟩) ?_
      rintro ⟨j,yK,pK,cK⟩ wK ⟨hj,hOK⟩ hfK hHK KK hKK
      refine C.begin _ _ hfK hHK ?_
      try dsimp only
      refine sQ fun K57=>cj_reg (jS (k:=K57 (sQ fun K58=>?_)))
      refine cj_dec rfl (fun h217=>?_) (fun h217=>?_)
      ·have hj':j<x.samples[kS].stack.length:=by omega
       obtain ⟨qb2,qo2,cs2,rfl, -,hR2,hcell2⟩:=hx1 j x.samples[kS].stack[j] (List.getElem?_eq_getElem hj')
       obtain ⟨rfl, -⟩:=hR2
       obtain ⟨hz0,hz1⟩:=m5 x.samples[kS].stack[j] (List.getElem_mem hj')
       have hzL:x.samples[kS].stack[j]=((x.samples[kS].stack[j].toNat:Nat):Int):=by omega
       have hltL:x.samples[kS].stack[j].toNat<kL:=by omega
       obtain ⟨honL,hpeL⟩:=hOL.pos (by omega)
       refine cj_skip (K58 (sQ fun K59=>cj_block (sQ fun K60=>cj_reg (jJ ru51 so3 (k:=?_)))))
       refine j_valw rfl (fun a w ha hH hf=>r_load ag3 rfl (hcell2 w (hKd _ _ hf) 0 _ rfl) ha) (jA (k:=K60 ?_))
       refine cj_drawI 16 (lts [0,1,2,3,4,5,6,7,8,9,10,11]++(12,false)::((13,false)::(lts [14,15]++(16,false)::[]))) [1,9,5] rfl (by kernel_rfl) (by kernel_rfl) (dM [1,9,5] (k:=dM [1,9,5] (k:=dN [1,9,5] (k:=dF [1,9,5] 0 ru103 so72 (k:=dH [1,9,5] 0 ag72 (k:=dM [1,9,5] (k:=dN [1,9,5] (k:=dF [1,9,5] 4 ru75 so72 (k:=dH [1,9,5] 1 ag72 (k:=dM [1,9,5] (k:=?_)))))))))))
       refine dj_val rfl rfl (sub_of [1,9,5] rfl) (fun _ _ h=>r_idxI _ ru72 so90 rfl hpeL rfl hzL hltL h) (dj_ld rfl rfl (sub_of [1,9,5] rfl) (fun a w ha hS=>r_load ag90 rfl (hOL.cell (hS.1 (ro yL) (by simp) honL) (ptrAt_pos hz0 (hlL▸hltL))) ha) (dE (h:=fun Kd=>j_bslice1 ru72 so90 zv90 rfl rfl rfl rfl rfl fun b232=>Kd (sb [2,10,6]) (dE (h:=fun Kd=>?_)))))
       refine j_appO 0 rfl hOK ru72 el90 rfl rfl rfl rfl rfl (by omega) rfl fun y233 p233 c233 hO233=>?_
       refine Kd (sb [1,9,5]) (dN [1,9,5] (k:=dF [1,9,5] 0 ru103 so72 (k:=dE (h:=fun Kd=>jB [_,_,_,_,_,_,_] [_,_,_,_,_,_,_,_,_,_,_,_,_] 1 so72 (k:=Kd (.inl rfl) (K59 (CJ.t [(3,_),(17,_),(18,_),(201,_),(202,_),(203,_),(214,_),(215,_),(216,_)] (k:=cj_reg (jI (k:=jM (k:=j_nil (ej_then ?_))))))))))))
       exact fun w' hH hf=>hKK (j+1,y233,p233,c233) _ w' ⟨hj',by rw[← ids_step (g:=ptrAt bL) hj'];exact hO233⟩ hf hH (by simp only;omega) ⟨rfl,rfl,rfl,rfl,rfl,rfl,rfl,rfl,rfl,trivial⟩
      ·have hOK':Own pLoc 1 yK pK j cK (x.samples[kS].stack.map (ptrAt bL)):=by rw[List.take_of_length_le (by omega)]at hOK;exact hOK
       refine cj_exit (K55 (sQ fun K61=>cj_reg (jM (k:=?_))))
       refine j_valw rfl (fun a w ha hH hf=>r_ldA (vs:=[_,_,_,_]) 3 rfl rfl ag55 so55 rfl rfl rfl ha hH) ?_
       refine j_callE (R:=fun w1 _ w'=>(∃lm nm,Blk w' b212 tSam (cSam (.slice pK j cK) (.slice p210 (0+x.samples[kS].values.length) c210) lm nm)∧LabM tStr w' lm (labT x.samples[kS])∧LabM tI64 w' nm (labN x.samples[kS]))∧Fr b212 [tSam,1000000] w1 w') call30 rfl rfl (fun w' hH hf=>implLabeled_c w w' b212 _ _ _ x.samples[kS] hR' (hKd _ _ hf) (Nat.le_trans hs5 (hH.fresh' (i:=1) rfl rfl)) m4 (hH.get (i:=1) rfl rfl)) fun w0 v w2 hH hf hRet=>?_
       obtain ⟨⟨lm,nm,hbx,hlm2,hnm2⟩,hfr⟩:=hRet
       have hb212:w5.heap.size≤b212:=hH.fresh' (i:=1) rfl rfl
       have hno:TagNoB [tSam,1000000] b212 [yK,⟨b212,tSam,cSam (.slice pK j cK) (.slice p210 (0+x.samples[kS].values.length) c210) (.map none) (.map none),true,true,none⟩,y210,⟨b17,55,[.slice p1 x.samples[kS].stack.length c1,.slice p2 x.samples[kS].values.length c2,.slice p3 x.samples[kS].texts.length c3,.slice p4 x.samples[kS].nums.length c4],true,true,none⟩,yS,ro yL,ro yF,ro yM,ro yT,eProf b41 x (.slice pT kT cT) (.slice pS kS cS) (.slice pM kM cM) (.slice pL kL cL) (.slice pF kF cF) (.slice p26 (0+x.comments.length) c26) b39,⟨b39,tVT,cVT x.per,false,true,none⟩,ro y26,⟨b1,33,[.slice pt x.types.length ct,.string x.deflt,.slice (some ⟨qb,qo,none⟩) x.samples.length csm,.slice pm x.mappings.length cm,.slice pl x.locs.length cl,.slice pf x.funcs.length cf,.slice pc x.comments.length cc,.string x.drop,.string x.keep,.int .i64 x.time,.int .i64 x.dur,.int .i64 x.period,.string x.per.ty,.string x.per.unit],false,true,none⟩]:=.own (.self (.of (.own (.row (.own (.ownR (.ownR (.ownR (.ownR (.row (.row (.ownR (.row .nil rfl) hO26 rfl) rfl) rfl) hOT rfl) hOM rfl) hOF rfl) hOL rfl) hOS rfl) rfl) hO210 rfl))) hOK rfl
       have hH2:=hH.putK (w':=w2) (i:=1) (y':=⟨b212,tSam,cSam (.slice pK j cK) (.slice p210 (0+x.samples[kS].values.length) c210) lm nm,true,true,none⟩) rfl rfl rfl (fun _ _=>.inl hb212) (fun z hz he hne o ho=>hfr.keep _ _ ho (.inr (by rw[(hH.has hz).tag he ho];exact hno z hz he hne))) ⟨fun _=>hbx,fun _ h=>by cases h⟩
       have hf2:Fm.ok ⟨w5,w.heap.size,[tProf,pSam]⟩ w2:=Fr.trans hf hfr (.inl hb212)
       have hK2:=hKd _ _ hf2
       have hKd:=fun W=>keepOf (W:=W) hK2 (Nat.le_refl _)
       refine J.begin ⟨w2,w.heap.size,[tProf,pSam]⟩ [ro yK,⟨b212,tSam,cSam (.slice pK j cK) (.slice p210 (0+x.samples[kS].values.length) c210) lm nm,false,true,none⟩,ro y210,⟨b17,55,[.slice p1 x.samples[kS].stack.length c1,.slice p2 x.samples[kS].values.length c2,.slice p3 x.samples[kS].texts.length c3,.slice p4 x.samples[kS].nums.length c4],false,true,none⟩,yS,ro yL,ro yF,ro yM,ro yT,eProf b41 x (.slice pT kT cT) (.slice pS kS cS) (.slice pM kM cM) (.slice pL kL cL) (.slice pF kF cF) (.slice p26 (0+x.comments.length) c26) b39,⟨b39,tVT,cVT x.per,false,true,none⟩,ro y26,⟨b1,33,[.slice pt x.types.length ct,.string x.deflt,.slice (some ⟨qb,qo,none⟩) x.samples.length csm,.slice pm x.mappings.length cm,.slice pl x.locs.length cl,.slice pf x.funcs.length cf,.slice pc x.comments.length cc,.string x.drop,.string x.keep,.int .i64 x.time,.int .i64 x.dur,.int .i64 x.period,.string x.per.ty,.string x.per.unit],false,true,none⟩] ok_refl ((hH2.roN (n:=4)).again hs5 (TagOK.ro (.ro (.ro (.ro (.own (.ro (.ro (.ro (.ro (.row (.ro (.ro (.ro .nil rfl) rfl) rfl) rfl) rfl) rfl) rfl) rfl) hOS rfl) rfl) rfl) rfl) rfl)) ?_
       refine K61 (cj_reg (jM (k:=jM (k:=jN (k:=jF 2 ru75 so70 (k:=jH 9 ag70 (k:=jM (k:=?_))))))))
       refine j_bslice1 ru70 so98 zv98 rfl rfl rfl rfl rfl fun b246=>?_
       refine j_appO 4 rfl hOS ru70 el98 rfl rfl rfl rfl rfl (by omega) rfl fun y247 p247 c247 hO247=>?_
       refine jN (k:=jF 2 ru75 so70 (k:=jB [_,_,_,_,_,_,_,_,_,_,_,_,_,_,_,_,_,_] [_,_,_,_,_,_,_,_,_,_,_,_,_] 9 so70 (k:=K52 (CJ.t [(3,_),(201,_),(202,_),(203,_)] (k:=cj_reg (jI (k:=jM (k:=j_nil (ej_then ?_)))))))))
       exact fun w' hH hf0=>by
        have hf:=ok_back hf2 (.inr fun _ h=>h) hf0
        exact hKLS (kS+1,y247,p247,c247,bS++[b212]) _ w' ⟨hkS,by rw[← ptrs_push];exact hO247,hpS.push hkS hf.size (fun _ _ h=>⟨h.1.mono (fun _ _ h=>ok_blk hf h rfl) (fun _ _ h=>ok_blk hf h rfl) (fun _ _ h=>ok_blk hf h rfl) (fun _ _ h=>ok_blk hf h rfl) (fun _ _ _ h=>ok_map hf h rfl),h.2.mono fun _ h=>ok_blk hf h rfl⟩) ⟨⟨_,_,lm,nm,hH.get (i:=1) rfl rfl,hOK'.osR (i:=0) hH rfl,by simpa using hO210.osR (i:=2) hH rfl,hlm2.mono (fun _ _ h=>ok_blk hf0 h rfl) (fun _ _ _ h=>ok_map hf0 h rfl),hnm2.mono (fun _ _ h=>ok_blk hf0 h rfl) (fun _ _ _ h=>ok_map hf0 h rfl)⟩,⟨_,hH.get (i:=1) rfl rfl,rowNe_own hOK' hH (.tail _ (.tail _ (.tail _ (.tail _ (.head _)))))⟩⟩ hb212 hs5 (hH.get (i:=1) rfl rfl).lt,⟨hB39.1,hB39.2.1,Nat.lt_of_lt_of_le hB39.2.2 hf.size⟩,hPT.mono hf.size (fun _ _ h=>ok_blk hf h rfl),hPM.mono hf.size (fun _ _ h=>ok_blk hf h rfl),hPF.mono hf.size (fun _ _ h=>ok_blk hf h rfl),hPL.mono hf.size (fun _ _ h=>⟨h.1.mono (fun _ _ h=>ok_blk hf h rfl) (fun _ _ h=>ok_blk hf h rfl),h.2.mono fun _ _ h=>ok_blk hf h rfl⟩)⟩ (ok_back hf5 (.inr (by simp)) hf) (hH.2.2.2.2.2.2.2.2.2.2.2.2.back (Nat.le_trans hf5.size hf2.size) (.inr (by simp))) (by simp only;omega) sR
     ·have hPS:=hpS.full (by omega)
      refine cj_exit (K48 (sQ fun K62=>cj_reg (jM (k:=jA (k:=K62 (cj_ret ?_))))))
      exact ej_ret1 results13 rfl fun w' hH hf=>by
       have hfr:=ok_back hf1 (.inl (Nat.le_refl _)) (ok_back hf2 (.inr fun _ h=>h) (ok_back hf3 (.inr fun _ h=>h) (ok_back hf4 (.inr fun _ h=>h) (ok_back hf5 (.inr (by simp)) hf))))
       have hfr:Fr w.heap.size [] w w':=hfr
       have qT:=hPT.mono hf.size (fun _ _ h=>ok_blk hf h rfl)
       have qM:=hPM.mono hf.size (fun _ _ h=>ok_blk hf h rfl)
       have qF:=hPF.mono hf.size (fun _ _ h=>ok_blk hf h rfl)
       have qL:=hPL.mono hf.size (fun _ _ h=>⟨h.1.mono (fun _ _ h=>ok_blk hf h rfl) (fun _ _ h=>ok_blk hf h rfl),h.2.mono fun _ _ h=>ok_blk hf h rfl⟩)
       have qS:=hPS.mono hf.size (fun _ _ h=>⟨h.1.mono (fun _ _ h=>ok_blk hf h rfl) (fun _ _ h=>ok_blk hf h rfl) (fun _ _ h=>ok_blk hf h rfl) (fun _ _ h=>ok_blk hf h rfl) (fun _ _ _ h=>ok_map hf h rfl),h.2.mono fun _ h=>ok_blk hf h rfl⟩)
       refine ⟨⟨⟨b41,b39,bT,bM,bF,bL,bS⟩,rfl,?_,⟨_,_,_,_,_,_,_,_,_,hH.get (i:=5) rfl rfl,hOS.osn (i:=0) hH rfl hgS,hOM.osnR (i:=3) hH rfl hgM,hOF.osnR (i:=2) hH rfl hgF,hOL,fun ho=>⟨⟨by have h1:Blk w' yL.b yL.T yL.cs:=hH.get (x:=ro yL) (i:=1) rfl ho;rwa [hOL.hT]at h1,hgL ho⟩,hnL ho⟩,(qS.each.mono (ψ:=fun b _=>RowNe yL w' b) fun _ _ h=>h.2).all⟩⟩,hfr.mono (.inl (Nat.le_refl _))⟩
       exact { prof:=⟨_,_,_,_,_,_,hH.get (i:=5) rfl rfl,hOT.osR (i:=4) hH rfl,hOS.os (i:=0) hH rfl,hOM.osR (i:=3) hH rfl,hOL.osR (i:=1) hH rfl,hOF.osR (i:=2) hH rfl,by simpa using hO26.osR (i:=7) hH rfl⟩
               per:=hH.get (i:=6) rfl rfl
               types:=qT.each
               maps:=qM.each
               funs:=qF.each
               locs:=qL.each.mono fun _ _ h=>h.1
               rows:=(qL.each.mono (ψ:=fun b _=>RowGe w.heap.size w' b) fun _ _ h=>h.2).all
               sams:=qS.each.mono fun _ _ h=>h.1
               ntypes:=List.nodup_cons.2 ⟨fun h=>by have h2:b39+1≤b39:=hPT.ge _ h;omega,qT.nodup⟩
               nmaps:=qM.nodup
               nfuns:=qF.nodup
               nlocs:=qL.nodup
               nsams:=qS.nodup
               fresh:=⟨hB39.2.1,hB39.1,fun b h=>by have:=hPT.ge _ h;have:=hB39.1;omega,qM.ge,qF.ge,qL.ge,qS.ge⟩ }
theorem of_m (w:World) (cs:List Value) (x:PProf) (h:RProf w cs x) (hx:PlnM x):
  Calls Tryz.prog 13 #[.agg cs.toArray] w (Ret fun v w'=>(∃g,v=ptr g.pb∧OfS w' x g)∧Fr 0 [] w w'):=
 (of_r w cs x h hx).mono (Ret.mono fun _ _ ⟨⟨g,h1,h2,_⟩,h3⟩=>⟨⟨g,h1,h2.s fun s hs=>(hx.samples s hs).2.2.1⟩,h3⟩)
end Go.Proofs.YtffghbkcomlefaaGreatDoor
namespace Go.Fw
open Go
end Go.Fw
namespace Go.Proofs.YtffghbkcomlefaaGreatDoor
open Go Go.Fw Go.Proofs Go.Proofs.Tryz
variable {cs:List Value} {n:Nat} {z:PProf} {w:World}
structure Rng (x:PProf):Prop where
 time:IntKind.i64.wrap x.time=x.time
 dur:IntKind.i64.wrap x.dur=x.dur
 period:IntKind.i64.wrap x.period=x.period
 vals:∀s∈x.samples,∀z∈s.values,IntKind.i64.wrap z=z
 nums:∀s∈x.samples,∀t∈s.nums,∀z∈t.list,IntKind.i64.wrap z=z
 maps:∀m∈x.mappings,IntKind.u64.wrap m.id=m.id∧IntKind.u64.wrap m.start=m.start∧IntKind.u64.wrap m.limit=m.limit∧IntKind.u64.wrap m.offset=m.offset
 locs:∀l∈x.locs,IntKind.u64.wrap l.id=l.id∧IntKind.u64.wrap l.addr=l.addr∧∀n∈l.lines,IntKind.i64.wrap n.line=n.line
 funs:∀f∈x.funcs,IntKind.u64.wrap f.id=f.id∧IntKind.i64.wrap f.start=f.start
theorem RProf.rng {x:PProf} (h:RProf w cs x):Rng x:=by
 obtain ⟨a,s,m,l,f,cm, -,ha,hs,hm,hl,hf, -,h1,h2,h3⟩:=h
 refine ⟨h1,h2,h3,hs.each fun c y hR=>?_,hs.each fun c y hR=>?_,hm.each fun c y hR=>hR.2,hl.each fun c y hR=>?_,hf.each fun c y hR=>hR.2⟩
 ·obtain ⟨_,_,_,_, -, -,h, -, -⟩:=hR
  exact h.each fun _ _ h=>h.2
 ·obtain ⟨_,_,_,_, -, -, -, -,h⟩:=hR
  refine h.each fun c t hR=>?_
  obtain ⟨_, -,h⟩:=hR
  exact h.each fun _ _ h=>h.2
 ·obtain ⟨_, -,h1, -,h2,h⟩:=hR
  exact ⟨h1,h2,h.each fun _ _ h=>h.2.2⟩
theorem GotP.rprofM {x:PProf} (hx:PlnM x) (hr:Rng x) (h:GotP w cs x):RProf w cs x:=by
 obtain ⟨vT,vS,vM,vL,vF,vC,sq,rfl,hPV,h7,h8,h9⟩:=h
 obtain ⟨lq,h4,h5,h6⟩:=hPV.lc
 have n1:=hx.ntyp
 have n2:=hx.nsam
 have n6:=hx.ncom
 have n3:=hx.nm
 have n5:=hx.nf
 have n4:=hx.nl
 refine ⟨_,_,_,_,_,_,rfl,lay_of_os (f:=fun x=>x) hPV.ty (by simp) (fun _=>rfl) (by omega) (fun _ _=>rfl) (by omega),lay_of_os h8 h7 (fun _=>rfl) (by omega) (fun q hq=>?_) (by omega),lay_of_os (f:=fun x=>x) hPV.mp (by simp) (fun _=>rfl) (by omega) (fun m hm=>⟨rfl,hr.maps m hm⟩) (by omega),
  lay_of_os h5 h4 (fun _=>rfl) (by omega) (fun q hq=>?_) (by omega),lay_of_os (f:=fun x=>x) hPV.fn (by simp) (fun _=>rfl) (by omega) (fun m hm=>⟨rfl,hr.funs m hm⟩) (by omega),lay_of_os1 hPV.co (fun _ _=>rfl) (by omega),hr.time,hr.dur,hr.period⟩
 ·have hm:q.1∈x.samples:=by rw[← h7];exact List.mem_map_of_mem hq
  obtain ⟨hv1,hst,hLab,hsk⟩:=hx.samples _ hm
  have hq9:=h9 q hq
  obtain ⟨ys,t1,t2,t3,t4⟩:=hq9.tx
  obtain ⟨zs,u1,u2,u3,u4⟩:=hq9.nu
  exact ⟨_,_,_,_,rfl,lay_of_os1 hq9.st (fun z hz=>⟨rfl,by have:=hsk z hz;exact wrap64_small (by omega) (by omega)⟩) (by omega),lay_of_os1 hq9.vs (fun z hz=>⟨rfl,hr.vals _ hm z hz⟩) (by omega),lay_texts hLab t1 t2 t3 t4,lay_nums hLab (fun t ht n hn=>hr.nums _ hm t ht n hn) u1 u2 u3 u4⟩
 ·have hm:q.1∈x.locs:=by rw[← h4];exact List.mem_map_of_mem hq
  obtain ⟨r1,r2,r3⟩:=hr.locs _ hm
  obtain ⟨⟨m1,m2⟩,m3,m4⟩:=hx.locs _ hm
  refine ⟨_,rfl,r1,wrap64_small (by omega) (by omega),r2,lay_of_os (f:=fun x=>x) (h6 q hq) (by simp) (fun _=>rfl) (by omega) (fun n hn=>⟨rfl,?_,r3 n hn⟩) (by omega)⟩
  have:=m4 n hn
  exact wrap64_small (by omega) (by omega)
structure SrcI (n:Nat) (ty:List PType) (per:PType) (x:PProf):Prop where
 pl:PlnM x
 src:∀(w:World) (g:G),OfS w x g→SrcM w n ty per x g
theorem MrgZ.plnM {ty:List PType} {per:PType} {xs:List PProf} (h:MrgZ n ty per xs z) (hn:n≤60) (hty:ty.length≤1000) (b1:(xs.map fun x=>x.mappings.length).sum≤10000) (b2:(xs.map fun x=>x.funcs.length).sum≤10000) (b3:(xs.map fun x=>x.locs.length).sum≤10000) (b4:nzc xs≤10000):PlnM z:=by
 have h1:=h.nm
 have h2:=h.nf
 have h3:=h.nl
 have h4:=h.ns
 refine ⟨fun s hs=>?_,by omega,by rw[h.ty];omega,by rw[h.co];simp,by omega,by omega,by omega,fun l hl=>?_⟩
 ·obtain ⟨r1,r2,r3,r4,r5,r6⟩:=h.wz.sm s hs
  exact ⟨by omega,by omega,r5,r4⟩
 ·obtain ⟨i,hi⟩:=List.mem_iff_getElem?.1 hl
  obtain ⟨-,r1,r2,r3,r4⟩:=h.wz.lc i l hi
  exact ⟨r1,by omega,fun n hn=>(r3 n hn).1⟩
theorem MrgZ.srcI {ty:List PType} {per:PType} {xs:List PProf} (h:MrgZ n ty per xs z) (hn:n≤60) (hty:ty.length≤1000) (b1:(xs.map fun x=>x.mappings.length).sum≤10000) (b2:(xs.map fun x=>x.funcs.length).sum≤10000) (b3:(xs.map fun x=>x.locs.length).sum≤10000) (b4:nzc xs≤10000):SrcI n ty per z:=
 ⟨h.plnM hn hty b1 b2 b3 b4,fun _ _ hG=>h.src hG b1 b2 b3 b4⟩
theorem wrU {n:Int} (h1:0≤n) (h2:n<1000000000):IntKind.u64.wrap n=n:=by
 simp only[IntKind.wrap,IntKind.bits,IntKind.signed];simp;omega
theorem MrgZ.rng {ty:List PType} {per:PType} {xs:List PProf} (h:MrgZ n ty per xs z) (b1:(xs.map fun x=>x.mappings.length).sum≤10000) (b2:(xs.map fun x=>x.funcs.length).sum≤10000) (b3:(xs.map fun x=>x.locs.length).sum≤10000):Rng z:=by
 have h1:=h.nm
 have h2:=h.nf
 have h3:=h.nl
 refine ⟨h.wr.1,h.wr.2.1,h.wr.2.2,fun s hs=>(h.wz.sm s hs).2.1,fun s hs t ht=>((h.tx s hs).n t ht).2,fun m hm=>?_,fun l hl=>?_,fun f hf=>?_⟩
 ·obtain ⟨i,hi⟩:=List.mem_iff_getElem?.1 hm
  obtain ⟨r1,r2,r3,r4⟩:=h.wz.mp i m hi
  have:=(List.getElem?_eq_some_iff.1 hi).1
  exact ⟨by rw[r1];exact wrU (by omega) (by omega),r2,r3,r4.1⟩
 ·obtain ⟨i,hi⟩:=List.mem_iff_getElem?.1 hl
  obtain ⟨r0,r1,r2,r3,r4⟩:=h.wz.lc i l hi
  have:=(List.getElem?_eq_some_iff.1 hi).1
  exact ⟨by rw[r0];exact wrU (by omega) (by omega),r4,fun n hn=>(r3 n hn).2⟩
 ·obtain ⟨i,hi⟩:=List.mem_iff_getElem?.1 hf
  obtain ⟨r1,r2⟩:=h.wz.fn i f hi
  have:=(List.getElem?_eq_some_iff.1 hi).1
  exact ⟨by rw[r1];exact wrU (by omega) (by omega),r2.1⟩
theorem OfS.frP {w':World} {x:PProf} {g:G} {B:Nat} (h:OfS w x g) (k:Fr B [pProf,tIP] w w'):OfS w' x g:=by
 obtain ⟨ty,sa,ma,lo,fu,co,h1,h2,h3,h4,h5,h6,h7⟩:=h.prof
 exact { prof:=⟨ty,sa,ma,lo,fu,co,fr_row k rfl _ _ h1,h2.mono (fr_row k rfl),h3.mono (fr_row k rfl),h4.mono (fr_row k rfl),h5.mono (fr_row k rfl),h6.mono (fr_row k rfl),h7.mono (fr_row k rfl)⟩
         per:=fr_row k rfl _ _ h.per
         types:=h.types.mono fun b t=>fr_row k rfl _ _
         maps:=h.maps.mono fun b t=>fr_row k rfl _ _
         funs:=h.funs.mono fun b t=>fr_row k rfl _ _
         locs:=h.locs.mono fun b l hl=>hl.mono (fr_row k rfl) (fr_row k rfl)
         sams:=h.sams.mono fun b l hl=>hl.mono (fun cs=>fr_row k rfl _ cs) (fr_row k rfl) (fr_row k rfl) (fr_row k rfl) fun b es ck h=>fr_mapE k rfl es ck h
         nmaps:=h.nmaps
         nfuns:=h.nfuns
         nlocs:=h.nlocs }
set_option maxHeartbeats 4000000 in
theorem implMerge_c (w:World) (v:Value) (n:Nat) (ty:List PType) (per:PType) (xs:List PProf) (hv:Lay RProf 14 w v xs) (hpos:0<xs.length) (hlen:xs.length≤1000) (hx:∀x∈xs,SrcI n ty per x) (hty:ty.length≤1000) (hn60:n≤60)
  (sm:(xs.map fun x=>x.mappings.length).sum≤10000) (sf:(xs.map fun x=>x.funcs.length).sum≤10000) (sl:(xs.map fun x=>x.locs.length).sum≤10000) (sz:nzc xs≤10000) (hT:Tabs w):
  Calls Tryz.prog 6 #[v] w (Ret fun r w'=>(∃cs z,r=.tuple #[.agg (List.toArray cs),.bool true]∧RProf w' cs z∧MrgZ n ty per xs z)∧Fr 0 [] w w'):=by
 have hv0:=hv
 obtain ⟨p,c,rfl,hl,hxv⟩:=hv.open
 refine startJ (args:=[_]) [(0,_)] w.heap.size [] [] func6 rfl ntmps6 rfl rfl .nil ?_
 refine sQ fun K1=>cj_reg (j_allocA (zs:=[(.slice none 0 0),(.string ⟨#[]⟩),(.slice none 0 0),(.slice none 0 0),(.slice none 0 0),(.slice none 0 0),(.slice none 0 0),(.string ⟨#[]⟩),(.string ⟨#[]⟩),(.int .i64 0),(.int .i64 0),(.int .i64 0),(.string ⟨#[]⟩),(.string ⟨#[]⟩)]) zv33 rfl fun b2=>jA (k:=K1 (sQ fun K2=>cj_reg (jA (k:=K2 (sQ fun K3=>sQ fun K4=>cj_reg (jM (k:=jE ru22 (k:=?_)))))))))
 refine jM (k:=K4 (cj_block ?_))
 intro u0 hHu0 hfu0
 refine c_loop (σ:=Nat×List G×Ent×Option Addr×Nat) (fun s=>[(2,ptr b2),(4,.slice s.2.2.2.1 s.1 s.2.2.2.2),(9,.slice p xs.length c),(10,.int .i64 (xs.length:Nat)),(11,.int .i64 (s.1:Nat))])
  (fun s w'=>s.1≤xs.length∧Hp ⟨w,w.heap.size,[]⟩ w' [s.2.2.1,eI b2 tIP zIP]∧Fm.ok ⟨w,w.heap.size,[]⟩ w'∧s.2.1.length=s.1∧(∀(i:Nat) (x:PProf) (g:G),xs[i]? =some x→s.2.1[i]? =some g→OfS w' x g)∧Own pProf 1 s.2.2.1 s.2.2.2.1 s.1 s.2.2.2.2 (s.2.1.map fun g=>ptr g.pb)) (fun s=>xs.length - s.1)
  (0,[],nilE pProf,none,0) sR ⟨Nat.zero_le _,Hp.off hHu0,hfu0,rfl,fun _ _ _ _ h=>(by simp at h),Own.nil⟩ ?_
 rintro ⟨k,gs,y,q,d⟩ u ⟨hk,hHu,hfu,hgl,hGS,hO⟩ KL hKL
 try dsimp only at hk hHu hfu hgl hGS hO
 have hsz:w.heap.size≤u.heap.size:=hfu.size
 refine C.begin ⟨u,w.heap.size,[pProf,tIP]⟩ [y,eI b2 tIP zIP] ok_refl (Hp.again (Nat.le_refl _) hHu (TagOK.own (.row .nil rfl) hO rfl)) ?_
 try dsimp only
 have hKw:Keep w u:=hfu.keepAll (.inr rfl)
 have hKd:=keepOf (W:=[pProf,tIP]) hKw (Nat.le_refl _)
 refine sQ fun K5=>cj_reg (jS (k:=K5 (sQ fun K6=>?_)))
 refine cj_dec rfl (fun h12=>?_) (fun h12=>?_)
 ·have hk':k<xs.length:=by omega
  obtain ⟨b,o,cs,rfl,hlc,hR,hcell⟩:=hxv k xs[k] (List.getElem?_eq_getElem hk')
  have hSI:=hx _ (List.getElem_mem hk')
  have hRk:=hR
  obtain ⟨la,ls,lm,ll,lf,lcm,rfl,hla,hls,hlm,hll,hlf,hlcm, -⟩:=hR
  obtain ⟨pa,ca,rfl, -⟩:=hla.open
  obtain ⟨ps,c_s,rfl, -⟩:=hls.open
  obtain ⟨pm,c_m,rfl, -⟩:=hlm.open
  obtain ⟨pl,cl,rfl, -⟩:=hll.open
  obtain ⟨pf,cf,rfl, -⟩:=hlf.open
  obtain ⟨pc,cc,rfl, -⟩:=hlcm.open
  refine cj_skip (K6 (sQ fun K7=>cj_block (sQ fun K8=>cj_reg (jJ ru22 so33 (k:=?_)))))
  refine j_valw rfl (fun a w ha hH hf=>r_loadA ag33 so33 rfl rfl (hcell w (hKd _ hf)) ha) (j_allocA (zs:=[(.slice none 0 0),(.string ⟨#[]⟩),(.slice none 0 0),(.slice none 0 0),(.slice none 0 0),(.slice none 0 0),(.slice none 0 0),(.string ⟨#[]⟩),(.string ⟨#[]⟩),(.int .i64 0),(.int .i64 0),(.int .i64 0),(.string ⟨#[]⟩),(.string ⟨#[]⟩)]) zv33 rfl fun b6=>jB [_,_,_,_,_,_,_,_,_,_,_,_,_,_] (_::_::_::_) 0 so33 (k:=K8 (cj_reg (jM (k:=?_)))))
  refine j_valw rfl (fun a w ha hH hf=>r_ldA (vs:=[_,_,_,_,_,_,_,_,_,_,_,_,_,_]) 0 rfl rfl ag33 so33 rfl rfl rfl ha hH) ?_
  refine j_callE (R:=fun w1 v w2=>(∃g,v=ptr g.pb∧OfS w2 xs[k] g)∧Fr 0 [] w1 w2) call13 rfl rfl (fun w1 hH hf=>of_m w1 _ xs[k] (RProf.keep (hKd _ hf) _ _ hRk) hSI.pl) fun w1 v w2 hH1 hf1 hR2=>?_
  obtain ⟨⟨g,rfl,hG⟩,hq2⟩:=hR2
  have hf2:Fm.ok ⟨u,w.heap.size,[pProf,tIP]⟩ w2:=hf1.fr hq2
  have hH2:=hH1.fr hq2
  refine J.begin ⟨w2,w.heap.size,[pProf,tIP]⟩ [y,eI b2 tIP zIP] ok_refl (Hp.again hsz (hH2.drop 0) (TagOK.own (.row .nil rfl) hO rfl)) ?_
  refine j_bslice1 ru41 so42 zv42 rfl rfl rfl rfl rfl fun b18=>?_
  refine j_appO 0 rfl hO ru41 el42 rfl rfl rfl rfl rfl (by omega) rfl fun y19 p19 c19 hO19=>?_
  refine jA (k:=K7 (CJ.t [(2,_),(4,_),(9,_),(10,_),(11,_)] (k:=cj_reg (jI (k:=jM (k:=j_nil (ej_then ?_)))))))
  intro w9 hH hf
  have hsz2:w.heap.size≤w2.heap.size:=Nat.le_trans hsz hf2.size
  have hfr29:Fr w.heap.size [pProf,tIP] u w9:=Fr.trans hf2 hf (.inr ⟨Nat.le_refl _,fun _ h=>h⟩)
  have hfw:Fm.ok ⟨w,w.heap.size,[]⟩ w9:=ok_back (W0:=[]) hfu (.inl (Nat.le_refl _)) hfr29
  exact hKL (k+1,gs++[g],y19,p19,c19) _ w9 ⟨hk',Hp.back hsz2 (.inl (Nat.le_refl _)) hH,hfw,by simp[hgl],fun i x g' hxi hgi=>by
    by_cases hi:i<k
    ·rw[List.getElem?_append_left (by omega)]at hgi
     exact (hGS i x g' hxi hgi).frP hfr29
    ·have:=(List.getElem?_eq_some_iff.1 hgi).1
     simp at this
     obtain rfl:i=k:=by omega
     rw[List.getElem?_append_right (by omega)]at hgi
     simp[hgl]at hgi
     subst hgi
     rw[List.getElem?_eq_getElem hk']at hxi
     cases hxi
     exact hG.frP hf,by rw[List.map_append];exact hO19⟩ (by simp only;omega) ⟨rfl,rfl,rfl,rfl,rfl,trivial⟩
 ·have hke:k=xs.length:=by omega
  subst hke
  refine cj_exit (K3 (sQ fun K9=>cj_reg (jM (k:=?_))))
  refine j_callE (R:=fun w1 r w2=>(∃(z:PProf) (g:G),r=.tuple #[ptr g.pb,.nilIface]∧OfS w2 z g∧MrgZ n ty per xs z)∧Fr 0 [] w1 w2) call14 rfl rfl (fun w1 hH hf=>merge_c (nzc xs) w1 _ n ty per xs gs (hO.os hH (i:=0) rfl) hgl.symm (by omega) (by omega) (fun i x g hxi hgi=>(hx x (List.mem_of_getElem? hxi)).src w1 g ((hGS i x g hxi hgi).frP hf)) hty hn60 sm sf sl sz (hT.keep (hKd _ hf)) (Nat.le_refl _)) fun w3 v w4 hH3 hf3 hR3=>?_
  obtain ⟨⟨z,g,rfl,hG,hZ⟩,hf4⟩:=hR3
  have hb4:Blk w4 b2 tIP zIP:=hf4.blk (hH3.get (i:=1) rfl rfl) (.inr (by simp))
  have hge2:w.heap.size≤b2:=hHu.fresh (i:=1) rfl rfl rfl
  have hfr4:Fr 0 [] w w4:=frQ (fr_all (ok_back (W0:=[]) hfu (.inl (Nat.le_refl _)) hf3)) hf4
  refine J.begin ⟨w4,0,[]⟩ [] ok_refl .nil ?_
  refine jM (k:=jX (k:=jX (k:=jA (k:=jA (k:=K9 (sQ fun K10=>sQ fun K11=>cj_reg (jM (k:=?_))))))))
  refine j_val rfl (fun _ _ h=>r_inil ud45 rfl h) (K11 (CJ.t [(2,_),(7,_),(27,_)] (k:=?_)))
  refine cj_if_f rfl (cj_skip (K10 (sQ fun K12=>cj_reg (jM (k:=?_)))))
  refine j_callE (R:=fun w5 v w6=>(∃ds,v=.agg (List.toArray ds)∧GotP w6 ds z)∧Fr 0 [] w5 w6) call15 rfl rfl (fun w5 hH hf=>plain_c w5 z g (hG.keep (hf.keepAll (.inr rfl))) (hZ.plnM hn60 hty sm sf sl sz)) fun w5 v w6 hH5 hf5 hR=>?_
  obtain ⟨⟨ds,rfl,hGP⟩,hf6⟩:=hR
  have hfr6:Fr 0 [] w w6:=frQ hfr4 (frQ hf5 hf6)
  have hb6:Blk w6 b2 tIP zIP:=hf6.blk (hf5.blk hb4 (.inr (by simp))) (.inr (by simp))
  obtain ⟨vT,vS,vM,vL,vF,vC,sq,rfl,hPV,hsq,hOS,hSM⟩:=id hGP
  obtain ⟨lqX, -,hlcX, -⟩:=hPV.lc
  obtain ⟨pT,lT,cT,rfl, -⟩:=hPV.ty.open
  obtain ⟨pS,lS,cS,rfl, -⟩:=hOS.open
  obtain ⟨pM,lM,cM',rfl, -⟩:=hPV.mp.open
  obtain ⟨pL,lL,cL,rfl, -⟩:=hlcX.open
  obtain ⟨pF,lF,cF,rfl, -⟩:=hPV.fn.open
  obtain ⟨pC,lC,cC,rfl, -⟩:=hPV.co.open
  refine J.begin ⟨w6,w.heap.size,[tIP]⟩ (⟨b2,tIP,zIP,true,true,none⟩::restH w6 [b2]) ok_refl (Hp.one hb6 hge2 rfl) ?_
  refine j_storeW 0 rfl rfl rfl rfl so33 rfl rfl rfl rfl rfl ?_
  refine jA (k:=K12 (cj_ret ?_))
  exact ej_ret2C results6 ag33 so33 rfl rfl rfl (fun w' hH hf=>⟨_,hH.get (i:=0) rfl rfl⟩) fun w' hH hf=>⟨⟨_,z,rfl,GotP.rprofM (hZ.plnM hn60 hty sm sf sl sz) (hZ.rng sm sf sl) ⟨_,_,_,_,_,_,sq,rfl,hPV.fr hf rfl,hsq,hOS.mono (fr_row hf rfl),hSM.fr hf rfl⟩,hZ⟩,Fr.trans hfr6 hf (.inl (Nat.le_refl _))⟩
end Go.Proofs.YtffghbkcomlefaaGreatDoor
namespace Go.Fw
open Go
variable {w:World}
section
variable {P:Program} {n:Nat} {e:Env} {d ty:Nat} {pos:String} {af:Array Edge}
theorem r_sneql {t t' te l c:Nat} {x:Operand} {p:Option Addr} (hu:P.underlying t=some (.slice te)) (hx:ev e x=some (.slice p l c)) {a:Act} (ha:Sat n e a):
    (execOp a.eval ⟨some d,.binOp .eql t x (.const (.slice none 0 0)) t',ty,pos,af,none⟩).run P w=.ok (.value (.bool p.isNone)) w:=by
  have h:(binOp .eql t (.slice p l c) (.slice none 0 0)).run P w=.ok (.bool p.isNone) w:=by
    simp only[binOp]
    simp[Op.equal,Op.maxDepth,Lib.run_equalIn_slice_nil w 9999 t te p l c 0 0 hu]
  simp only[execOp,ha.ev hx,eval_const]
  simp[eqGuard,h]
end
theorem Hp.hd1 {f:Fm} {a:Ent} {R:Heap} (h:Hp f w (a::R)):Hp f w [a]:=⟨h.1,h.2.1,fun _ z hz=>(by cases hz),trivial⟩
end Go.Fw
namespace Go.Proofs.YtffghbkcomlefaaGreatDoor
open Go Go.Fw Go.Proofs Go.Lib
variable {n:Nat}
theorem SumI.newF {B b r:Nat} {L:List (ByteArray×List Int)} {u u':World} {ms:List (ByteArray×Value)} {es es':List MapEntry} {ck ck':Nat} (h:SumI B b n L u ms es ck) {k:ByteArray} (hk:mget ms k=none) (hM:MEnc Value.string (mset ms k (slN r n)) es' ck') (hm:u'.heap[b]? =some (.map (List.toArray es') ck'))
    {B':Nat} (kf:Fr B' [1000000] u u') (hB:B≤r) (hr:u.heap.size≤r) (hz:Blk u' r tI64 ((zeV n).map (.int .i64))):SumI B b n L u' (mset ms k (slN r n)) es' ck':=by
  have old:∀q v,mget ms q=some v→∃r',v=slN r' n∧B≤r'∧Blk u' r' tI64 ((sumV n q L).map (.int .i64))∧r'≠r:=fun q v hv=>by
    obtain ⟨r',h1,h2,h3⟩:=h.has q v hv
    exact ⟨r',h1,h2,fr_row kf rfl _ _ h3,fun e=>by have:=h3.lt;omega⟩
  refine ⟨hm,hM,fun q v hv=>?_,fun q hq=>?_,fun q q' v h1 h2=>?_⟩
  · rw[mget_mset]at hv
    split at hv
    · rename_i e;subst e;cases hv
      exact ⟨r,rfl,hB,by rw[h.z hk];exact hz⟩
    · obtain ⟨r',h1,h2,h3, -⟩:=old q v hv
      exact ⟨r',h1,h2,h3⟩
  · rw[mget_mset]at hq
    split at hq
    · cases hq
    · exact h.hno q hq
  · rw[mget_mset]at h1 h2
    split at h1<;>split at h2
    · rename_i e1 e2;rw[e1,e2]
    · cases h1
      obtain ⟨r',e, -, -,hn⟩:=old _ _ h2
      cases e;exact absurd rfl hn
    · cases h2
      obtain ⟨r',e, -, -,hn⟩:=old _ _ h1
      cases e;exact absurd rfl hn
    · exact h.inj q q' v h1 h2
structure SumX (n:Nat) (x:PProf):Prop where
  k:KeyOK x
  s:∀t∈x.samples,SrcS x n t
  ns:x.samples.length≤10000
def FK10 (k:SmK):ByteArray:=txt (keyT k)
theorem txJ_len {x:PProf} (h:SumX n x):∀p∈txL FK10 x,p.2.length=n:=fun p hp=>by
  obtain ⟨s,hs,rfl⟩:=List.mem_map.1 hp
  exact (h.s s hs).len
theorem txJA_len {xs:List PProf} (h:∀x∈xs,SumX n x):∀p∈txA FK10 xs,p.2.length=n:=fun p hp=>by
  obtain ⟨x,hx,hp⟩:=List.mem_flatMap.1 hp
  exact txJ_len (h x hx) p hp
theorem told_len {xs:List PProf} (h:∀x∈xs,SumX n x) {k j:Nat} (hk:k<xs.length):∀p∈txA FK10 (xs.take k)++(txL FK10 xs[k]).take j,p.2.length=n:=fun p hp=>by
  rcases List.mem_append.1 hp with hp|hp
  · exact txJA_len (fun x hx=>h x (List.mem_of_mem_take hx)) p hp
  · exact txJ_len (h _ (List.getElem_mem hk)) p (List.mem_of_mem_take hp)
set_option maxHeartbeats 4000000 in
theorem sums_c (w:World) (v:Value) (n:Nat) (xs:List PProf) (hv:Lay RProf 14 w v xs) (hlen:xs.length≤1000) (hx:∀x∈xs,SumX n x) (hn60:n≤60) (hT:Tabs w):
    Calls Tryz.prog 8 #[v] w (Ret fun r w'=>SumsR n (txA FK10 xs) w' r∧Fr 0 [] w w'):=by
  obtain ⟨p,c,rfl,hl,hxv⟩:=hv.open
  refine startJ (args:=[_]) [(0,_)] 0 [] [] Tryz.func8 rfl Tryz.ntmps8 rfl rfl .nil ?_
  refine sQ fun K1=>cj_reg (jA (k:=K1 (sQ fun K2=>cj_reg ?_)))
  refine j_mkmap (fun _ h=>by cases h) rfl fun b13=>?_
  refine jA (k:=K2 (sQ fun K3=>sQ fun K4=>cj_reg (jM (k:=jE ru22 (k:=jM (k:=K4 (cj_block ?_)))))))
  intro u0 hHu0 hfu0
  have hB13:w.heap.size≤b13:=Hp.freshT hHu0 (i:=0) rfl rfl rfl (by simp)
  refine c_loop (σ:=Nat) (fun k=>[(3,.map (some b13)),(14,.slice p xs.length c),(15,.int .i64 (xs.length:Nat)),(16,.int .i64 (k:Nat))])
    (fun k u=>k≤xs.length∧Fr 0 [] w u∧∃ms es ck,SumI w.heap.size b13 n (txA FK10 (xs.take k)) u ms es ck) (fun k=>xs.length - k) 0 ⟨rfl,rfl,rfl,rfl,trivial⟩
    ⟨Nat.zero_le _,hfu0,[],[],0,hHu0.obj (i:=0) rfl rfl,MEnc.nil,(fun k v h=>(by cases h)),(fun k h p hp=>(by cases hp)),(fun k k' v h=>(by cases h))⟩ ?_
  rintro k u ⟨hk,hfr,ms0,es0,ck0,hS0⟩ KL hKL
  try dsimp only at hk hfr
  have hKw:Keep w u:=hfr.keepAll (.inr rfl)
  have hKd:∀w',Fm.ok ⟨u,0,[]⟩ w'→Keep w w':=fun w' hf=>hKw.trans (Fr.keepAll hf (.inr rfl))
  refine C.begin ⟨u,0,[]⟩ [] ok_refl .nil ?_
  try dsimp only
  refine sQ fun K5=>cj_reg (jS (k:=K5 (sQ fun K6=>?_)))
  refine cj_dec rfl (fun h17=>?_) (fun h17=>?_)
  · have hk':k<xs.length:=by omega
    obtain ⟨b,o,cs,rfl,hlc,hR,hcell⟩:=hxv k xs[k] (List.getElem?_eq_getElem hk')
    have hSX:=hx _ (List.getElem_mem hk')
    have hns:=hSX.ns
    have hRk:=hR
    obtain ⟨la,ls,lm,ll,lf,lcm,rfl,hla,hls,hlm,hll,hlf,hlcm, -⟩:=hR
    obtain ⟨pa,ca,rfl, -⟩:=hla.open
    obtain ⟨ps,c_s,rfl, -,hxs⟩:=hls.open
    obtain ⟨pm,c_m,rfl, -⟩:=hlm.open
    obtain ⟨pl,cl,rfl, -⟩:=hll.open
    obtain ⟨pf,cf,rfl, -⟩:=hlf.open
    obtain ⟨pc,cc,rfl, -⟩:=hlcm.open
    refine cj_skip (K6 (sQ fun K7=>cj_block (sQ fun K8=>cj_reg (jJ ru22 so33 (k:=?_)))))
    refine j_valw rfl (fun a w ha hH hf=>r_loadA ag33 so33 rfl rfl (hcell w (hKd _ hf)) ha) (j_allocA (zs:=[(.slice none 0 0),(.string ⟨#[]⟩),(.slice none 0 0),(.slice none 0 0),(.slice none 0 0),(.slice none 0 0),(.slice none 0 0),(.string ⟨#[]⟩),(.string ⟨#[]⟩),(.int .i64 0),(.int .i64 0),(.int .i64 0),(.string ⟨#[]⟩),(.string ⟨#[]⟩)]) zv33 rfl fun b5=>jB [_,_,_,_,_,_,_,_,_,_,_,_,_,_] (_::_) 0 so33 (k:=K8 (sQ fun K9=>cj_reg (jF 2 ru33 so25 (k:=jH 0 ag25 (k:=jE ru25 (k:=jM (k:=K9 (cj_block ?_)))))))))
    intro u1 hHu1 hfu1
    have hb5:=hHu1.get (i:=0) rfl rfl
    refine c_loop (σ:=Nat) (fun j=>[(3,.map (some b13)),(5,ptr b5),(14,.slice (some ⟨b,o,none⟩) xs.length c),(15,.int .i64 (xs.length:Nat)),(16,.int .i64 (k:Nat)),(21,.slice ps xs[k].samples.length c_s),(22,.int .i64 (xs[k].samples.length:Nat)),(23,.int .i64 (j:Nat))])
      (fun j u'=>j≤xs[k].samples.length∧Fr 0 [] w u'∧Blk u' b5 tIP [.slice pa xs[k].types.length ca,.string xs[k].deflt,.slice ps xs[k].samples.length c_s,.slice pm xs[k].mappings.length c_m,.slice pl xs[k].locs.length cl,.slice pf xs[k].funcs.length cf,.slice pc xs[k].comments.length cc,.string xs[k].drop,.string xs[k].keep,.int .i64 xs[k].time,.int .i64 xs[k].dur,.int .i64 xs[k].period,.string xs[k].per.ty,.string xs[k].per.unit]∧∃ms es ck,SumI w.heap.size b13 n (txA FK10 (xs.take k)++(txL FK10 xs[k]).take j) u' ms es ck) (fun j=>xs[k].samples.length - j) 0 ⟨rfl,rfl,rfl,rfl,rfl,rfl,rfl,rfl,trivial⟩
      ⟨Nat.zero_le _,frQ hfr hfu1,hb5,ms0,es0,ck0,by rw[List.take_zero,List.append_nil];exact hS0.keep (KeepX.of hfu1)⟩ ?_
    rintro j u2 ⟨hj,hfr2,hb52,ms,es,ck,hS⟩ KL1 hKL1
    try dsimp only at hj hfr2 hb52
    have hKw2:Keep w u2:=hfr2.keepAll (.inr rfl)
    have hKd:=keepOf (W:=[1000000]) hKw2 (Nat.le_refl _)
    have hc5:=mc (f:=⟨u2,w.heap.size,[1000000]⟩) hb52 rfl
    refine C.begin ⟨u2,w.heap.size,[1000000]⟩ [mpE b13 es ck] ok_refl (Hp.hd1 (Hp.oneMap hS.hm hB13 rfl)) ?_
    try dsimp only
    refine sQ fun K10=>cj_reg (jS (k:=K10 (sQ fun K11=>?_)))
    refine cj_dec rfl (fun h24=>?_) (fun h24=>?_)
    · have hj':j<xs[k].samples.length:=by omega
      obtain ⟨bs,os,cs',rfl,hlc2,hRs,hcells⟩:=hxs j xs[k].samples[j] (List.getElem?_eq_getElem hj')
      have hRs0:=hRs
      obtain ⟨sa,sb,stx,snm,rfl,hsa,hsb,hstx,hsnm⟩:=hRs
      obtain ⟨p1,c1,rfl, -⟩:=hsa.open
      obtain ⟨p2,c2,rfl, -,hxval⟩:=hsb.open
      obtain ⟨p3,c3,rfl, -⟩:=hstx.open
      obtain ⟨p4,c4,rfl, -⟩:=hsnm.open
      have hSS:=hSX.s _ (List.getElem_mem hj')
      have hvl:=hSS.len
      obtain ⟨kk,hkk⟩:∃kk:ByteArray,kk=FK10 (smK xs[k] xs[k].samples[j]):=⟨_,rfl⟩
      refine cj_skip (K11 (sQ fun K12=>cj_block (sQ fun K13=>cj_reg (jJ ru25 so55 (k:=?_)))))
      refine j_valw rfl (fun a w ha hH hf=>r_loadA ag55 so55 rfl rfl (hcells w (hKd _ hf)) ha) (j_allocA (zs:=[(.slice none 0 0),(.slice none 0 0),(.slice none 0 0),(.slice none 0 0)]) zv55 rfl fun b7=>jB [_,_,_,_] (_::_::_) 0 so55 (k:=K13 (sQ fun K14=>cj_reg ?_)))
      refine j_valw rfl (fun a w ha hH hf=>r_loadA ag33 so33 rfl rfl (hc5 w hf) ha) (j_valw rfl (fun a w ha hH hf=>r_ldA (vs:=[_,_,_,_]) 0 rfl rfl ag55 so55 rfl rfl rfl ha hH) ?_)
      refine j_callQ (φ:=fun v=>v=.string kk) Tryz.call17 rfl rfl (fun w' hH hf=>by
          have a1:=RProf.keep (hKd _ hf) _ _ hRk
          have a2:=RSample.keep (hKd _ hf) _ _ hRs0
          have a4:=key_c w' _ _ xs[k] xs[k].samples[j] a1 a2 hSX.k hSS.stk.1 hSS.stk.2 hSS.lab hSS.tx (hT.keep (hKd _ hf))
          rw[hkk];exact a4) fun v hv=>?_
      subst hv
      refine jA (k:=K14 (sQ fun K15=>sQ fun K16=>cj_reg (jM (k:=jM (k:=?_)))))
      obtain ⟨pR,lR,hgR,hpR⟩:∃(pR:Option Addr) (lR:Nat),(mget ms kk).getD (.slice none 0 0)=.slice pR lR lR∧((pR.isNone=true∧mget ms kk=none)∨pR.isNone=false∧∃r,mget ms kk=some (slN r n)):=by
        cases hg:mget ms kk with
        |none=>exact ⟨none,0,rfl,.inl ⟨rfl,rfl⟩⟩
        |some v0=>
         obtain ⟨r,rfl, -⟩:=hS.has _ _ hg
         exact ⟨_,_,rfl,.inr ⟨rfl,r,rfl⟩⟩
      refine j_valw rfl (fun a w ha hH hf=>r_mlook1 (k:=kk) 1 rfl ru37 (keyT_string ru9) hS.enc zv49 rfl rfl (fun _ _ _=>⟨fun _ _=>trivial,trivial⟩) ha hH hf) ?_
      refine j_eqv hgR ?_
      refine j_val rfl (fun _ _ h=>r_sneql ud49 rfl h) (K16 (CJ.t [(3,_),(5,_),(7,_),(8,_),(14,_),(15,_),(16,_),(21,_),(22,_),(23,_),(33,_)] (k:=?_)))
      refine cj_if rfl (fun h33=>?_) (fun h33=>?_)
      · have hnoK:mget ms kk=none:=by
          rcases hpR with h|h
          · exact h.2
          · rw[h33]at h;cases h.1
        refine cj_reg (jM (k:=jM (k:=jF 1 ru55 so49 (k:=jH 0 ag49 (k:=jE ru49 (k:=?_))))))
        refine j_make (l:=n) ru49 el2 rfl (by rw[hvl];rfl) (by rw[hvl];rfl) (Nat.le_refl _) (by omega) rfl fun b39 cs39 hcs39 hz39=>?_
        obtain rfl:=mk_zeros hz39
        refine j_mapupd (k:=kk) (u:=slN b39 n) 2 rfl ru37 (keyT_string ru9) hS.enc rfl rfl (by rw[hvl];rfl) (fun _ _ _=>⟨fun _ _=>trivial,trivial⟩) fun es39 ck39 hM39=>?_
        refine K15 (sQ fun K17=>?_)
        intro v hHv hfv
        have hst:∃ms' es' ck' r,SumI w.heap.size b13 n (txA FK10 (xs.take k)++(txL FK10 xs[k]).take j) v ms' es' ck'∧mget ms' kk=some (slN r n)∧w.heap.size≤r:=by
          first
            |(obtain ⟨r,hr⟩:=hisK
              have hM':=hHv.obj (i:=1) rfl rfl
              have hS2:SumI w.heap.size b13 n (txA FK10 (xs.take k)++(txL FK10 xs[k]).take j) v ms es ck:=⟨hM',hS.enc,fun q u hq=>by
                  obtain ⟨r',h1,h2,h3⟩:=hS.has q u hq
                  exact ⟨r',h1,h2,fr_row hfv rfl _ _ h3⟩,hS.hno,hS.inj⟩
              obtain ⟨r',h1,h2, -⟩:=hS.has _ _ hr
              cases h1
              exact ⟨ms,es,ck,r,hS2,hr,h2⟩)
            |(have hM':=hHv.obj (i:=2) rfl rfl
              have hrow:=hHv.get (i:=0) rfl rfl
              have hfre:=Hp.freshT hHv (i:=0) rfl rfl rfl (by simp[Ent.tag])
              refine ⟨_,_,_,b39,hS.newF hnoK hM39 hM' hfv (Nat.le_trans hfr2.size hfre) hfre hrow,by rw[mget_mset,if_pos rfl],Nat.le_trans hfr2.size hfre⟩)
        have hb7:Blk v b7 55 [.slice p1 xs[k].samples[j].stack.length c1,.slice p2 xs[k].samples[j].values.length c2,.slice p3 xs[k].samples[j].texts.length c3,.slice p4 xs[k].samples[j].nums.length c4]:=by
          first
            |exact hHv.get (i:=0) rfl rfl
            |exact hHv.get (i:=1) rfl rfl
        obtain ⟨ms',es',ck',r,hS',hkr,hBr⟩:=hst
        have hrow:Blk v r tI64 ((sumV n kk (txA FK10 (xs.take k)++(txL FK10 xs[k]).take j)).map (.int .i64)):=by
          obtain ⟨r',e, -,h⟩:=hS'.has _ _ hkr
          cases e;exact h
        have hfrv:Fr 0 [] w v:=Fr.trans hfr2 hfv (.inl (Nat.le_refl _))
        have hb5v:=fr_row hfv rfl _ _ hb52
        have hKd:=keepOf (W:=[tI64]) (hfrv.keepAll (.inr rfl)) (Nat.le_refl _)
        have hc7:=mc (f:=⟨v,w.heap.size,[tI64]⟩) hb7 rfl
        have hLt:=told_len hx (j:=j) hk'
        generalize hSd:sumV n kk (txA FK10 (xs.take k)++(txL FK10 xs[k]).take j)=S at hrow
        have hSn:S.length=n:=by rw[← hSd];exact sumV_len hLt
        refine C.begin ⟨v,w.heap.size,[tI64]⟩ (⟨r,tI64,S.map (.int .i64),true,true,none⟩::restH v [r]) ok_refl (Hp.one hrow hBr rfl) ?_
        refine cj_reg (jF 1 ru55 so49 (k:=?_))
        refine j_valw rfl (fun a w ha hH hf=>r_load ag49 rfl (hc7 w hf 1 _ rfl) ha) (jE ru49 (k:=jM (k:=K17 (cj_block ?_))))
        refine cj_loop (σ:=Nat) (fun i=>[(3,.map (some b13)),(5,ptr b5),(8,.string kk),(14,.slice (some ⟨b,o,none⟩) xs.length c),(15,.int .i64 (xs.length:Nat)),(16,.int .i64 (k:Nat)),(21,.slice (some ⟨bs,os,none⟩) xs[k].samples.length c_s),(22,.int .i64 (xs[k].samples.length:Nat)),(23,.int .i64 (j:Nat)),(41,.slice p2 xs[k].samples[j].values.length c2),(42,.int .i64 (xs[k].samples[j].values.length:Nat)),(43,.int .i64 (i:Nat))])
          (fun i=>⟨r,tI64,((addV S xs[k].samples[j].values).take i++S.drop i).map (.int .i64),true,true,none⟩::restH v [r])
          (fun i _=>i≤xs[k].samples[j].values.length) (fun i=>xs[k].samples[j].values.length - i) 0 sR (fun w' hH hf=>⟨hH,Nat.zero_le _⟩) ?_
        intro i w1 hi1 hf1 hH1 KL3 hKL3
        refine C.begin _ _ hf1 hH1 ?_
        try dsimp only
        refine sQ fun K18=>cj_reg (jS (k:=K18 (sQ fun K19=>?_)))
        refine cj_dec rfl (fun h44=>?_) (fun h44=>?_)
        · have hi':i<xs[k].samples[j].values.length:=by omega
          obtain ⟨bv,ov,csv,rfl, -,hRv,hcellv⟩:=hxval i xs[k].samples[j].values[i] (List.getElem?_eq_getElem hi')
          obtain ⟨rfl, -⟩:=hRv
          have hkm:i<S.length:=by omega
          have hal:(addV S xs[k].samples[j].values).length=n:=addV_len hSn hvl
          have htk:((addV S xs[k].samples[j].values).take i).length=i:=by rw[List.length_take];omega
          have hgk:(((addV S xs[k].samples[j].values).take i++S.drop i).map (Value.int .i64))[0+i*1]? =some (.int .i64 S[i]):=by
            rw[List.getElem?_map,List.getElem?_append_right (by omega),htk,show 0+i*1 - i=0 by omega,List.getElem?_drop,Nat.add_zero,List.getElem?_eq_getElem hkm];rfl
          have hak:(addV S xs[k].samples[j].values)[i]'(by omega)=IntKind.i64.wrap (S[i]+xs[k].samples[j].values[i]):=by unfold addV;rw[List.getElem_zipWith]
          refine cj_skip (K19 (sQ fun K20=>cj_block (sQ fun K21=>cj_reg (jM (k:=jJ ru49 so2 (k:=?_))))))
          refine j_valw rfl (fun a w ha hH hf=>r_load ag2 rfl (hcellv w (hKd _ hf) 0 _ rfl) ha) (jA (k:=jA (k:=K21 (cj_reg (jM (k:=jM (k:=?_)))))))
          refine j_valw rfl (fun a w ha hH hf=>r_lookT (k:=kk) (u:=slN r n) ru37 (keyT_string ru9) zv49 rfl rfl ha ⟨_,_,_,fr_mapE hf rfl _ _ hS'.hm,hS'.enc,by rw[hkr];rfl⟩) ?_
          refine jM (k:=jJ ru49 so2 (k:=?_))
          refine j_valw rfl (fun a w ha hH hf=>r_load ag2 rfl ((hH.get (i:=0) rfl rfl).cell' hgk) ha) (jM (k:=?_))
          refine j_val rfl (fun _ _ h=>r_add rfl rfl h) (jJ ru49 so2 (k:=?_))
          refine j_storeN (cs':=((addV S xs[k].samples[j].values).take (i+1)++S.drop (i+1)).map (.int .i64)) (H':=_) (o:=0+i*1) 0 rfl rfl rfl rfl so2 rfl rfl rfl rfl (Nat.ble_eq_true_of_le (by show 0+i*1+1≤(((addV S xs[k].samples[j].values).take i++S.drop i).map (Value.int .i64)).length;simp only[List.length_map,List.length_append,List.length_drop,htk];omega)) (by
            show setL (((addV S xs[k].samples[j].values).take i++S.drop i).map (Value.int .i64)) (0+i*1) [.int .i64 (IntKind.i64.wrap (S[i]+xs[k].samples[j].values[i]))]=_
            rw[List.drop_eq_getElem_cons hkm,List.map_append,List.map_cons]
            have e:=setL_app (((addV S xs[k].samples[j].values).take i).map (Value.int .i64)) (u:=.int .i64 S[i]) (v:=.int .i64 (IntKind.i64.wrap (S[i]+xs[k].samples[j].values[i]))) (r:=(S.drop (i+1)).map (.int .i64))
            rw[List.length_map,htk]at e
            rw[Nat.zero_add,Nat.mul_one,e, ← List.take_append_getElem (show i<(addV S xs[k].samples[j].values).length by omega),hak];simp) rfl ?_
          refine K20 (CJ.t [(3,_),(5,_),(8,_),(14,_),(15,_),(16,_),(21,_),(22,_),(23,_),(41,_),(42,_),(43,_)] (k:=cj_reg (jI (k:=jM (k:=j_nil (ej_then ?_))))))
          exact fun w' hH hf=>hKL3 (i+1) _ w' hi' hf hH (by omega) sR
        · have hie:i=xs[k].samples[j].values.length:=by omega
          subst hie
          have hfin:((addV S xs[k].samples[j].values).take xs[k].samples[j].values.length++S.drop xs[k].samples[j].values.length)=addV S xs[k].samples[j].values:=by
            rw[List.take_of_length_le (by rw[addV_len hSn hvl];omega),List.drop_of_length_le (by omega),List.append_nil]
          rw[hfin]
          refine cj_exit (K12 (cj_reg (jI (k:=jM (k:=j_nil (ej_then ?_))))))
          intro w9 hH hf
          have hk9:KeepX [r] v w9:=Hp.keepX (hH.drop 0) hf
          have hr9:Blk w9 r tI64 ((addV S xs[k].samples[j].values).map (.int .i64)):=hH.get (i:=0) rfl rfl
          have htk9:(txL FK10 xs[k]).take (j+1)=(txL FK10 xs[k]).take j++[(kk,xs[k].samples[j].values)]:=by
            rw[← List.take_append_getElem (by unfold txL;rw[List.length_map];exact hj')]
            congr 2
            unfold txL
            rw[List.getElem_map,hkk]
          refine hKL1 (j+1) _ w9 ⟨hj',Fr.trans hfrv hf (.inl (Nat.le_refl _)),fr_row hf rfl _ _ hb5v,ms',es',ck',?_⟩ (by omega) sR
          rw[htk9, ← List.append_assoc]
          exact hS'.add hkr hLt hvl hSS.fit hk9 (by rw[hSd];exact hr9)
      · have hisK:∃r,mget ms kk=some (slN r n):=by
          rcases hpR with h|h
          · rw[h33]at h;cases h.1
          · exact h.2
        refine cj_skip (K15 (sQ fun K22=>?_))
        intro v hHv hfv
        have hst:∃ms' es' ck' r,SumI w.heap.size b13 n (txA FK10 (xs.take k)++(txL FK10 xs[k]).take j) v ms' es' ck'∧mget ms' kk=some (slN r n)∧w.heap.size≤r:=by
          first
            |(obtain ⟨r,hr⟩:=hisK
              have hM':=hHv.obj (i:=1) rfl rfl
              have hS2:SumI w.heap.size b13 n (txA FK10 (xs.take k)++(txL FK10 xs[k]).take j) v ms es ck:=⟨hM',hS.enc,fun q u hq=>by
                  obtain ⟨r',h1,h2,h3⟩:=hS.has q u hq
                  exact ⟨r',h1,h2,fr_row hfv rfl _ _ h3⟩,hS.hno,hS.inj⟩
              obtain ⟨r',h1,h2, -⟩:=hS.has _ _ hr
              cases h1
              exact ⟨ms,es,ck,r,hS2,hr,h2⟩)
            |(have hM':=hHv.obj (i:=2) rfl rfl
              have hrow:=hHv.get (i:=0) rfl rfl
              have hfre:=Hp.freshT hHv (i:=0) rfl rfl rfl (by simp[Ent.tag])
              refine ⟨_,_,_,b39,hS.newF hnoK hM39 hM' hfv (Nat.le_trans hfr2.size hfre) hfre hrow,by rw[mget_mset,if_pos rfl],Nat.le_trans hfr2.size hfre⟩)
        have hb7:Blk v b7 55 [.slice p1 xs[k].samples[j].stack.length c1,.slice p2 xs[k].samples[j].values.length c2,.slice p3 xs[k].samples[j].texts.length c3,.slice p4 xs[k].samples[j].nums.length c4]:=by
          first
            |exact hHv.get (i:=0) rfl rfl
            |exact hHv.get (i:=1) rfl rfl
        obtain ⟨ms',es',ck',r,hS',hkr,hBr⟩:=hst
        have hrow:Blk v r tI64 ((sumV n kk (txA FK10 (xs.take k)++(txL FK10 xs[k]).take j)).map (.int .i64)):=by
          obtain ⟨r',e, -,h⟩:=hS'.has _ _ hkr
          cases e;exact h
        have hfrv:Fr 0 [] w v:=Fr.trans hfr2 hfv (.inl (Nat.le_refl _))
        have hb5v:=fr_row hfv rfl _ _ hb52
        have hKd:=keepOf (W:=[tI64]) (hfrv.keepAll (.inr rfl)) (Nat.le_refl _)
        have hc7:=mc (f:=⟨v,w.heap.size,[tI64]⟩) hb7 rfl
        have hLt:=told_len hx (j:=j) hk'
        generalize hSd:sumV n kk (txA FK10 (xs.take k)++(txL FK10 xs[k]).take j)=S at hrow
        have hSn:S.length=n:=by rw[← hSd];exact sumV_len hLt
        refine C.begin ⟨v,w.heap.size,[tI64]⟩ (⟨r,tI64,S.map (.int .i64),true,true,none⟩::restH v [r]) ok_refl (Hp.one hrow hBr rfl) ?_
        refine cj_reg (jF 1 ru55 so49 (k:=?_))
        refine j_valw rfl (fun a w ha hH hf=>r_load ag49 rfl (hc7 w hf 1 _ rfl) ha) (jE ru49 (k:=jM (k:=K22 (cj_block ?_))))
        refine cj_loop (σ:=Nat) (fun i=>[(3,.map (some b13)),(5,ptr b5),(8,.string kk),(14,.slice (some ⟨b,o,none⟩) xs.length c),(15,.int .i64 (xs.length:Nat)),(16,.int .i64 (k:Nat)),(21,.slice (some ⟨bs,os,none⟩) xs[k].samples.length c_s),(22,.int .i64 (xs[k].samples.length:Nat)),(23,.int .i64 (j:Nat)),(41,.slice p2 xs[k].samples[j].values.length c2),(42,.int .i64 (xs[k].samples[j].values.length:Nat)),(43,.int .i64 (i:Nat))])
          (fun i=>⟨r,tI64,((addV S xs[k].samples[j].values).take i++S.drop i).map (.int .i64),true,true,none⟩::restH v [r])
          (fun i _=>i≤xs[k].samples[j].values.length) (fun i=>xs[k].samples[j].values.length - i) 0 sR (fun w' hH hf=>⟨hH,Nat.zero_le _⟩) ?_
        intro i w1 hi1 hf1 hH1 KL3 hKL3
        refine C.begin _ _ hf1 hH1 ?_
        try dsimp only
        refine sQ fun K23=>cj_reg (jS (k:=K23 (sQ fun K24=>?_)))
        refine cj_dec rfl (fun h44=>?_) (fun h44=>?_)
        · have hi':i<xs[k].samples[j].values.length:=by omega
          obtain ⟨bv,ov,csv,rfl, -,hRv,hcellv⟩:=hxval i xs[k].samples[j].values[i] (List.getElem?_eq_getElem hi')
          obtain ⟨rfl, -⟩:=hRv
          have hkm:i<S.length:=by omega
          have hal:(addV S xs[k].samples[j].values).length=n:=addV_len hSn hvl
          have htk:((addV S xs[k].samples[j].values).take i).length=i:=by rw[List.length_take];omega
          have hgk:(((addV S xs[k].samples[j].values).take i++S.drop i).map (Value.int .i64))[0+i*1]? =some (.int .i64 S[i]):=by
            rw[List.getElem?_map,List.getElem?_append_right (by omega),htk,show 0+i*1 - i=0 by omega,List.getElem?_drop,Nat.add_zero,List.getElem?_eq_getElem hkm];rfl
          have hak:(addV S xs[k].samples[j].values)[i]'(by omega)=IntKind.i64.wrap (S[i]+xs[k].samples[j].values[i]):=by unfold addV;rw[List.getElem_zipWith]
          refine cj_skip (K24 (sQ fun K25=>cj_block (sQ fun K26=>cj_reg (jM (k:=jJ ru49 so2 (k:=?_))))))
          refine j_valw rfl (fun a w ha hH hf=>r_load ag2 rfl (hcellv w (hKd _ hf) 0 _ rfl) ha) (jA (k:=jA (k:=K26 (cj_reg (jM (k:=jM (k:=?_)))))))
          refine j_valw rfl (fun a w ha hH hf=>r_lookT (k:=kk) (u:=slN r n) ru37 (keyT_string ru9) zv49 rfl rfl ha ⟨_,_,_,fr_mapE hf rfl _ _ hS'.hm,hS'.enc,by rw[hkr];rfl⟩) ?_
          refine jM (k:=jJ ru49 so2 (k:=?_))
          refine j_valw rfl (fun a w ha hH hf=>r_load ag2 rfl ((hH.get (i:=0) rfl rfl).cell' hgk) ha) (jM (k:=?_))
          refine j_val rfl (fun _ _ h=>r_add rfl rfl h) (jJ ru49 so2 (k:=?_))
          refine j_storeN (cs':=((addV S xs[k].samples[j].values).take (i+1)++S.drop (i+1)).map (.int .i64)) (H':=_) (o:=0+i*1) 0 rfl rfl rfl rfl so2 rfl rfl rfl rfl (Nat.ble_eq_true_of_le (by show 0+i*1+1≤(((addV S xs[k].samples[j].values).take i++S.drop i).map (Value.int .i64)).length;simp only[List.length_map,List.length_append,List.length_drop,htk];omega)) (by
            show setL (((addV S xs[k].samples[j].values).take i++S.drop i).map (Value.int .i64)) (0+i*1) [.int .i64 (IntKind.i64.wrap (S[i]+xs[k].samples[j].values[i]))]=_
            rw[List.drop_eq_getElem_cons hkm,List.map_append,List.map_cons]
            have e:=setL_app (((addV S xs[k].samples[j].values).take i).map (Value.int .i64)) (u:=.int .i64 S[i]) (v:=.int .i64 (IntKind.i64.wrap (S[i]+xs[k].samples[j].values[i]))) (r:=(S.drop (i+1)).map (.int .i64))
            rw[List.length_map,htk]at e
            rw[Nat.zero_add,Nat.mul_one,e, ← List.take_append_getElem (show i<(addV S xs[k].samples[j].values).length by omega),hak];simp) rfl ?_
          refine K25 (CJ.t [(3,_),(5,_),(8,_),(14,_),(15,_),(16,_),(21,_),(22,_),(23,_),(41,_),(42,_),(43,_)] (k:=cj_reg (jI (k:=jM (k:=j_nil (ej_then ?_))))))
          exact fun w' hH hf=>hKL3 (i+1) _ w' hi' hf hH (by omega) sR
        · have hie:i=xs[k].samples[j].values.length:=by omega
          subst hie
          have hfin:((addV S xs[k].samples[j].values).take xs[k].samples[j].values.length++S.drop xs[k].samples[j].values.length)=addV S xs[k].samples[j].values:=by
            rw[List.take_of_length_le (by rw[addV_len hSn hvl];omega),List.drop_of_length_le (by omega),List.append_nil]
          rw[hfin]
          refine cj_exit (K12 (cj_reg (jI (k:=jM (k:=j_nil (ej_then ?_))))))
          intro w9 hH hf
          have hk9:KeepX [r] v w9:=Hp.keepX (hH.drop 0) hf
          have hr9:Blk w9 r tI64 ((addV S xs[k].samples[j].values).map (.int .i64)):=hH.get (i:=0) rfl rfl
          have htk9:(txL FK10 xs[k]).take (j+1)=(txL FK10 xs[k]).take j++[(kk,xs[k].samples[j].values)]:=by
            rw[← List.take_append_getElem (by unfold txL;rw[List.length_map];exact hj')]
            congr 2
            unfold txL
            rw[List.getElem_map,hkk]
          refine hKL1 (j+1) _ w9 ⟨hj',Fr.trans hfrv hf (.inl (Nat.le_refl _)),fr_row hf rfl _ _ hb5v,ms',es',ck',?_⟩ (by omega) sR
          rw[htk9, ← List.append_assoc]
          exact hS'.add hkr hLt hvl hSS.fit hk9 (by rw[hSd];exact hr9)
    · have hje:j=xs[k].samples.length:=by omega
      subst hje
      intro v hHv hfv
      have hfrv:Fr 0 [] w v:=Fr.trans hfr2 hfv (.inl (Nat.le_refl _))
      have hSv:SumI w.heap.size b13 n (txA FK10 (xs.take (k+1))) v ms es ck:=by
        rw[← List.take_append_getElem hk',txA_snoc]
        have htl:(txL FK10 xs[k]).take xs[k].samples.length=txL FK10 xs[k]:=List.take_of_length_le (by unfold txL;rw[List.length_map];exact Nat.le_refl _)
        rw[htl]at hS
        exact ⟨hHv.obj (i:=0) rfl rfl,hS.enc,fun q u hq=>by
          obtain ⟨r',h1,h2,h3⟩:=hS.has q u hq
          exact ⟨r',h1,h2,fr_row hfv rfl _ _ h3⟩,hS.hno,hS.inj⟩
      refine C.begin ⟨v,0,[]⟩ [] ok_refl .nil ?_
      refine cj_exit (K7 (cj_reg (jI (k:=jM (k:=j_nil (ej_then ?_))))))
      exact fun w' hH hf=>hKL (k+1) _ w' ⟨hk',frQ hfrv hf,ms,es,ck,hSv.keep (KeepX.of hf)⟩ (by omega) sR
  · have hke:k=xs.length:=by omega
    subst hke
    rw[List.take_of_length_le (Nat.le_refl _)]at hS0
    intro v hHv hfv
    have hSv:=hS0.keep (KeepX.of hfv)
    have hfrv:Fr 0 [] w v:=frQ hfr hfv
    have hKd:=keepOf (W:=[1000000]) (hfrv.keepAll (.inr rfl)) (Nat.le_refl _)
    refine C.begin ⟨v,w.heap.size,[1000000]⟩ [mpE b13 es0 ck0] ok_refl (Hp.hd1 (Hp.oneMap hSv.hm hB13 rfl)) ?_
    refine cj_exit (K3 (sQ fun K27=>sQ fun K28=>cj_reg (jM (k:=?_))))
    refine j_range 0 rfl ru37 rfl rfl fun b61=>?_
    refine K28 (cj_block ?_)
    refine cj_loop (σ:=List Nat×List MapEntry×List (ByteArray×Value)×List MapEntry) (fun _=>[(3,.map (some b13)),(61,ptr b61)])
      (fun s=>[itE b61 b13 ck0 s.1 ck0,mpE b13 s.2.2.2 ck0])
      (fun s _=>Vis es0 s.2.1 s.1∧MEnc Value.string s.2.2.1 s.2.2.2 ck0∧s.2.2.2.Sublist es0∧(∀p∈s.2.2.1,p∈ms0)∧(∀p∈ms0,sumV n p.1 (txA FK10 xs)≠zeV n→p∈s.2.2.1)∧∀y∈s.2.2.2,y.born∈s.1→∃p∈ms0,y.key=.string p.1∧sumV n p.1 (txA FK10 xs)≠zeV n) (fun s=>es0.length - s.1.length)
      ([],[],ms0,es0) ⟨rfl,rfl,trivial⟩ (fun w' hH hf=>⟨hH,Vis.nil,hSv.enc,List.Sublist.refl _,fun _ h=>h,fun _ h _=>h,by simp⟩) ?_
    rintro ⟨seen,vx,msz,esz⟩ w2 ⟨hV,hM',hsub,hin,hout,hne⟩ hf2 hH2 KL2 hKL2
    try dsimp only at hV
    replace hM':MEnc Value.string msz esz ck0:=hM'
    replace hsub:esz.Sublist es0:=hsub
    replace hin:∀p∈msz,p∈ms0:=hin
    replace hout:∀p∈ms0,sumV n p.1 (txA FK10 xs)≠zeV n→p∈msz:=hout
    replace hne:∀y∈esz,y.born∈seen→∃p∈ms0,y.key=.string p.1∧sumV n p.1 (txA FK10 xs)≠zeV n:=hne
    refine C.begin _ _ hf2 hH2 ?_
    try dsimp only
    refine sQ fun K29=>cj_reg ?_
    refine j_next 0 1 rfl rfl hM'.lt (Nat.le_refl _) rfl rfl (fun hall=>?_) (fun xe hxe hns=>?_)
    · refine jX (k:=K29 (sQ fun K30=>?_))
      refine cj_if_f rfl (cj_exit (K27 (sQ fun K31=>cj_reg (jM (k:=jA (k:=K31 (cj_ret ?_)))))))
      refine ej_ret1 Tryz.results8 rfl fun w' hH hf=>⟨⟨b13,msz,esz,ck0,rfl,hH.obj (i:=1) rfl rfl,hM',fun q u hq=>?_,fun q hq=>?_⟩,Fr.trans hfrv hf (.inl (Nat.le_refl _))⟩
      · have hqm:=mget_mem hq
        obtain ⟨r,hqr, -,hrow⟩:=hSv.has _ _ (mget_of_mem hSv.enc.keys (hin _ hqm))
        refine ⟨?_,r,hqr,fr_row hf rfl _ _ hrow⟩
        have h2:(Value.string q,u)∈esz.map fun x=>(x.key,x.val):=by rw[hM'.kv];exact List.mem_map.2 ⟨_,hqm,rfl⟩
        obtain ⟨y,hy,he⟩:=List.mem_map.1 h2
        obtain ⟨p,hp,hpk,hpn⟩:=hne y hy (hall y hy)
        have e1:y.key=Value.string q:=by injection he
        rw[hpk]at e1
        have e2:p.1=q:=by injection e1
        rw[← e2];exact hpn
      · cases hg:mget ms0 q with
        |none=>exact hSv.z hg
        |some v0=>
         refine Classical.byContradiction fun hn=>?_
         have:=mget_of_mem hM'.keys (hout _ (mget_mem hg) hn)
         rw[hq]at this;cases this
    · refine jX (k:=K29 (sQ fun K32=>?_))
      refine cj_if_t rfl ?_
      obtain ⟨qe,hqe,hqk,hqv⟩:=menc_entry hM' hxe
      have hq0:=hin qe hqe
      obtain ⟨r,hqr, -,hrow⟩:=hSv.has _ _ (mget_of_mem hSv.enc.keys hq0)
      have hqn:(sumV n qe.1 (txA FK10 xs)).length=n:=sumV_len (txJA_len hx)
      refine cj_skip (K32 (cj_block (sQ fun K33=>cj_reg (j_valw rfl (fun a w ha hH hf=>r_entry 0 1 rfl rfl rfl hxe hM'.born ha hH) (jX (k:=?_))))))
      refine j_eqv hqk ?_
      refine jX (k:=?_)
      refine j_eqv (hqv.trans hqr) ?_
      refine jA (k:=jA (k:=K33 (CJ.t [(3,_),(11,_),(12,_),(61,_)] (k:=sQ fun K34=>cj_reg (jM (k:=?_))))))
      refine j_callQ (φ:=fun v=>v=.bool (decide (sumV n qe.1 (txA FK10 xs)=zeV n))) Tryz.call18 rfl rfl (fun w' hH hf=>by
          have h1:OS tI64 1 w' (slN r n) ((sumV n qe.1 (txA FK10 xs)).map (.int .i64)):=OS.full (fr_row hf rfl _ _ hrow) (by rw[List.length_map,hqn,Nat.mul_one])
          have h2:=specZero_c w' _ (sumV n qe.1 (txA FK10 xs)) h1 (by omega)
          rw[hqn]at h2
          exact h2) fun v hv=>?_
      subst hv
      refine K34 ?_
      refine cj_dec rfl (fun h68=>?_) (fun h68=>?_)
      · refine cj_reg (jM (k:=jM (k:=?_)))
        refine j_delete0 (k:=qe.1) 1 rfl ru37 (keyT_string ru9) hM' rfl rfl (fun _ _ _=>⟨fun _ _=>trivial,trivial⟩) fun es3 hM3 hs3=>?_
        refine j_nil (ej_blk (ej_then ?_))
        have hlt:seen.length<es0.length:=by
          have:=(hV.push (hsub.subset hxe) hns).len hSv.enc.born
          simp at this;omega
        first
          |exact fun w' hH hf=>hKL2 (seen++[xe.born],vx++[xe],msz,esz) _ w' ⟨hV.push (hsub.subset hxe) hns,hM',hsub,hin,hout,fun y hy hb=>by
              rcases List.mem_append.1 hb with hb|hb
              · exact hne y hy hb
              · simp at hb
                have hyx:y=xe:=born_eq hM'.born hy hxe hb
                rw[hyx]
                exact ⟨qe,hq0,hqk,h68⟩⟩ hf hH (by simp only[List.length_append,List.length_singleton];omega) ⟨rfl,rfl,trivial⟩
          |exact fun w' hH hf=>hKL2 (seen++[xe.born],vx++[xe],mdel msz qe.1,es3) _ w' ⟨hV.push (hsub.subset hxe) hns,hM3,hs3.trans hsub,fun p hp=>hin p (List.mem_filter.1 hp).1,fun p hp hp2=>List.mem_filter.2 ⟨hout p hp hp2,by
              simp only[ne_eq,decide_not,Bool.not_eq_true',decide_eq_false_iff_not]
              intro he
              rw[he]at hp2
              exact hp2 h68⟩,fun y hy hb=>by
              rcases List.mem_append.1 hb with hb|hb
              · exact hne y (hs3.subset hy) hb
              · simp at hb
                have hyx:y=xe:=born_eq hM'.born (hs3.subset hy) hxe hb
                subst hyx
                obtain ⟨q3,hq3,hk3, -⟩:=menc_entry hM3 hy
                rw[hqk]at hk3
                have:qe.1=q3.1:=by injection hk3
                exact absurd this.symm (by simpa using (List.mem_filter.1 hq3).2)⟩ hf hH (by simp only[List.length_append,List.length_singleton];omega) ⟨rfl,rfl,trivial⟩
      · refine cj_skip (ej_blk (ej_then ?_))
        have hlt:seen.length<es0.length:=by
          have:=(hV.push (hsub.subset hxe) hns).len hSv.enc.born
          simp at this;omega
        first
          |exact fun w' hH hf=>hKL2 (seen++[xe.born],vx++[xe],msz,esz) _ w' ⟨hV.push (hsub.subset hxe) hns,hM',hsub,hin,hout,fun y hy hb=>by
              rcases List.mem_append.1 hb with hb|hb
              · exact hne y hy hb
              · simp at hb
                have hyx:y=xe:=born_eq hM'.born hy hxe hb
                rw[hyx]
                exact ⟨qe,hq0,hqk,h68⟩⟩ hf hH (by simp only[List.length_append,List.length_singleton];omega) ⟨rfl,rfl,trivial⟩
          |exact fun w' hH hf=>hKL2 (seen++[xe.born],vx++[xe],mdel msz qe.1,es3) _ w' ⟨hV.push (hsub.subset hxe) hns,hM3,hs3.trans hsub,fun p hp=>hin p (List.mem_filter.1 hp).1,fun p hp hp2=>List.mem_filter.2 ⟨hout p hp hp2,by
              simp only[ne_eq,decide_not,Bool.not_eq_true',decide_eq_false_iff_not]
              intro he
              rw[he]at hp2
              exact hp2 h68⟩,fun y hy hb=>by
              rcases List.mem_append.1 hb with hb|hb
              · exact hne y (hs3.subset hy) hb
              · simp at hb
                have hyx:y=xe:=born_eq hM'.born (hs3.subset hy) hxe hb
                subst hyx
                obtain ⟨q3,hq3,hk3, -⟩:=menc_entry hM3 hy
                rw[hqk]at hk3
                have:qe.1=q3.1:=by injection hk3
                exact absurd this.symm (by simpa using (List.mem_filter.1 hq3).2)⟩ hf hH (by simp only[List.length_append,List.length_singleton];omega) ⟨rfl,rfl,trivial⟩
theorem eq64_c (w:World) (v u:Value) (xs:List Int) (hv:OS tI64 1 w v (xs.map (.int .i64))) (hu:OS tI64 1 w u (xs.map (.int .i64))) (hn:xs.length≤1000):Calls Tryz.prog 16 #[v,u] w (Ret fun r w'=>r=.bool true∧Fr 0 [] w w'):=by
 obtain ⟨p,l,c,rfl,hl,hlc,hx⟩:=hv.openF
 obtain rfl:l=xs.length:=by simpa using hl.symm
 obtain ⟨p2,l2,c2,rfl,hl2,hlc2,hx2⟩:=hu.openF
 obtain rfl:l2=xs.length:=by simpa using hl2.symm
 refine startJ (args:=[_,_]) [(0,_),(1,_)] 0 [] [] Tryz.func16 rfl Tryz.ntmps16 rfl rfl .nil ?_
 refine sQ fun K1=>cj_reg (jA (k:=K1 (sQ fun K2=>sQ fun K3=>cj_reg (jM (k:=jE ru49 (k:=jM (k:=jE ru49 (k:=?_))))))))
 refine j_val rfl (fun _ _ h=>r_neq rfl rfl h) ?_
 refine j_eqv (u:=.bool false) (by simp) ?_
 refine K3 (cj_if_f rfl (cj_skip (K2 (sQ fun K4=>sQ fun K5=>cj_reg (jM (k:=jE ru49 (k:=jM (k:=K5 (cj_block ?_)))))))))
 refine cj_loop (σ:=Nat) (fun k=>[(0,.slice p xs.length c),(1,.slice p2 xs.length c2),(12,.int .i64 (xs.length:Nat)),(13,.int .i64 (k:Nat))]) (fun _=>[]) (fun k _=>k≤xs.length) (fun k=>xs.length - k) 0 sR (fun w' hH hf=>⟨.nil,Nat.zero_le _⟩) ?_
 rintro k w1 hk1 hf1 hH1 KL hKL
 refine C.begin _ [] hf1 .nil ?_
 try dsimp only
 refine sQ fun K6=>cj_reg (jS (k:=K6 (sQ fun K7=>?_)))
 refine cj_dec rfl (fun h14=>?_) (fun h14=>?_)
 ·have hk':k<xs.length:=by omega
  obtain ⟨bl,rfl,hcl⟩:=hx (by omega)
  obtain ⟨bl2,rfl,hcl2⟩:=hx2 (by omega)
  have hcell:∀w',Fm.ok ⟨w,0,[]⟩ w'→w'.cell? ⟨bl,0+k*1,none⟩=some (.int .i64 xs[k]):=fun w' hf=>by
   have h1:=hcl ⟨w,0,[]⟩ rfl rfl w' hf k (.int .i64 xs[k]) (by rw[List.getElem?_map,List.getElem?_eq_getElem hk'];rfl)
   simpa using h1
  have hcell2:∀w',Fm.ok ⟨w,0,[]⟩ w'→w'.cell? ⟨bl2,0+k*1,none⟩=some (.int .i64 xs[k]):=fun w' hf=>by
   have h1:=hcl2 ⟨w,0,[]⟩ rfl rfl w' hf k (.int .i64 xs[k]) (by rw[List.getElem?_map,List.getElem?_eq_getElem hk'];rfl)
   simpa using h1
  refine cj_skip (K7 (sQ fun K8=>cj_block (sQ fun K9=>cj_reg (jM (k:=jA (k:=K9 (sQ fun K10=>?_)))))))
  refine cj_drawI 9 (lts [0,1,2,3,4,5,6,7,8]) [] rfl (by kernel_rfl) (by kernel_rfl) (dM [] (k:=dM [] (k:=?_)))
  refine dj_val rfl rfl (sub_of [] rfl) (fun _ _ h=>r_idx ru49 so2 rfl rfl (by omega) h) (dj_ld rfl rfl (sub_of [] rfl) (fun a w ha hS=>r_load ag2 rfl (hcell w hS.2) ha) (dM [] (k:=dM [] (k:=?_))))
  refine dj_val rfl rfl (sub_of [] rfl) (fun _ _ h=>r_idx ru49 so2 rfl rfl (by omega) h) (dj_ld rfl rfl (sub_of [] rfl) (fun a w ha hS=>r_load ag2 rfl (hcell2 w hS.2) ha) (dj_val rfl rfl (sub_of [] rfl) (fun _ _ h=>r_neq rfl rfl h) ?_))
  refine dj_eqv (u:=.bool false) (by simp) ?_
  refine K10 (CJ.t [(0,_),(1,_),(12,_),(13,_),(24,_)] (k:=?_))
  refine cj_if_f rfl (cj_skip (K8 (cj_reg (jI (k:=jM (k:=j_nil (ej_then ?_)))))))
  exact fun w' hH hf=>hKL (k+1) _ w' hk' hf .nil (by omega) sR
 ·have hke:k=xs.length:=by omega
  refine cj_exit (K4 (sQ fun K11=>cj_reg (jA (k:=K11 (cj_ret ?_)))))
  exact ej_ret1 Tryz.results16 rfl fun w' hH hf=>⟨rfl,hf⟩
theorem keys_same {L1 L2:List (ByteArray×List Int)} {ms1 ms2:List (ByteArray×Value)} (hn1:(ms1.map (·.1)).Nodup) (hn2:(ms2.map (·.1)).Nodup) (h1:∀k u,mget ms1 k=some u→sumV n k L1≠zeV n) (h1':∀k,mget ms1 k=none→sumV n k L1=zeV n) (h2:∀k u,mget ms2 k=some u→sumV n k L2≠zeV n) (h2':∀k,mget ms2 k=none→sumV n k L2=zeV n) (hE:∀k,sumV n k L1=sumV n k L2):ms1.length=ms2.length:=by
 have hp:(ms1.map (·.1)).Perm (ms2.map (·.1)):=(List.perm_ext_iff_of_nodup hn1 hn2).2 fun k=>by
  have e1:k∈ms1.map (·.1)↔sumV n k L1≠zeV n:=by
   cases hg:mget ms1 k with
   |none=>exact ⟨fun h=>absurd h (mget_none.1 hg),fun h=>absurd (h1' k hg) h⟩
   |some u=>exact ⟨fun _=>h1 k u hg,fun _=>List.mem_map.2 ⟨_,mget_mem hg,rfl⟩⟩
  have e2:k∈ms2.map (·.1)↔sumV n k L2≠zeV n:=by
   cases hg:mget ms2 k with
   |none=>exact ⟨fun h=>absurd h (mget_none.1 hg),fun h=>absurd (h2' k hg) h⟩
   |some u=>exact ⟨fun _=>h2 k u hg,fun _=>List.mem_map.2 ⟨_,mget_mem hg,rfl⟩⟩
  rw[e1,e2,hE]
 have:=hp.length_eq
 simpa using this
set_option maxHeartbeats 1000000 in
theorem sameSums_c (w:World) (v u:Value) (n:Nat) (L1 L2:List (ByteArray×List Int)) (hA:SumsR n L1 w v) (hB:SumsR n L2 w u) (hL:∀p∈L1,p.2.length=n) (hE:∀k,sumV n k L1=sumV n k L2) (hn60:n≤60):
  Calls Tryz.prog 7 #[v,u] w (Ret fun r w'=>r=.bool true∧Fr 0 [] w w'):=by
 obtain ⟨bA,msA,esA,ckA,rfl,hmA,hMA,hsA,hzA⟩:=hA
 obtain ⟨bB,msB,esB,ckB,rfl,hmB,hMB,hsB,hzB⟩:=hB
 have hlen:=keys_same (n:=n) hMA.keys hMB.keys (fun k u h=>(hsA k u h).1) hzA (fun k u h=>(hsB k u h).1) hzB hE
 have hAt:∀w',Fm.ok ⟨w,0,[]⟩ w'→MapAt w' (some bA) esA ckA:=fun w' hf=>.inr ⟨bA,rfl,fr_mapE hf rfl _ _ hmA⟩
 have hBt:∀w',Fm.ok ⟨w,0,[]⟩ w'→MapAt w' (some bB) esB ckB:=fun w' hf=>.inr ⟨bB,rfl,fr_mapE hf rfl _ _ hmB⟩
 refine startJ (args:=[_,_]) [(0,_),(1,_)] 0 [] [] Tryz.func7 rfl Tryz.ntmps7 rfl rfl .nil ?_
 refine sQ fun K1=>cj_reg (jA (k:=K1 (sQ fun K2=>sQ fun K3=>cj_reg (jM (k:=?_)))))
 refine j_rangeM ru37 (fun w' hH hf=>hAt w' hf) rfl rfl fun it1=>?_
 refine K3 (cj_block ?_)
 refine cj_loop (σ:=List Nat×List MapEntry) (fun s=>[(0,.map (some bA)),(1,.map (some bB)),(8,ptr it1)])
  (fun s=>[itM it1 (some bA) ckA s.1 ckA]) (fun s' _=>Vis esA s'.2 s'.1) (fun s=>esA.length - s.1.length)
  ([],[]) sR (fun w' hH hf=>⟨hH,Vis.nil⟩) ?_
 rintro ⟨seen,vx⟩ wA hV hfA hHA KLA hKLA
 try dsimp only at hV
 have hsl:=hV.len hMA.born
 refine C.begin _ _ hfA hHA ?_
 try dsimp only
 refine sQ fun K4=>cj_reg ?_
 refine j_nextM 0 rfl (fun w' hH hf=>hAt w' hf) hMA.lt (Nat.le_refl _) rfl rfl (fun hall=>?_) (fun xe hxe hns=>?_)
 ·refine jX (k:=K4 (sQ fun K5=>?_))
  refine cj_if_f rfl (cj_exit (K2 (sQ fun K6=>cj_reg (jM (k:=?_)))))
  refine j_valw rfl (fun a w ha hH hf=>r_mlenM ru37 rfl ha (hAt w hf)) (jM (k:=?_))
  refine j_valw rfl (fun a w ha hH hf=>r_mlenM ru37 rfl ha (hBt w hf)) (jQ (k:=jA (k:=K6 (cj_ret ?_))))
  exact ej_ret1 Tryz.results7 rfl fun w' hH hf=>⟨congrArg Value.bool (by have h1:=hMA.length;have h2:=hMB.length;simp[h1,h2,hlen]),hf⟩
 ·refine jX (k:=K4 (sQ fun K7=>?_))
  refine cj_if_t rfl ?_
  obtain ⟨qe,hqe,hqk,hqv⟩:=menc_entry hMA hxe
  obtain ⟨hne,rA,hrA,hrowA⟩:=hsA _ _ (mget_of_mem hMA.keys hqe)
  have hqn:(sumV n qe.1 L1).length=n:=sumV_len hL
  obtain ⟨rB,hgB,hrowB⟩:∃rB,mget msB qe.1=some (slN rB n)∧Blk w rB tI64 ((sumV n qe.1 L1).map (.int .i64)):=by
   cases hg:mget msB qe.1 with
   |none=>exact absurd (by rw[hE];exact hzB _ hg) hne
   |some u=>
    obtain ⟨-,rB,rfl,h⟩:=hsB _ _ hg
    exact ⟨rB,rfl,by rw[hE];exact h⟩
  refine cj_skip (K7 (cj_block (sQ fun K8=>cj_reg (j_valw rfl (fun a w ha hH hf=>r_entryM 0 rfl (fun w' hH hf=>hAt w' hf) rfl hxe hMA.born ha hH hf) (jX (k:=?_))))))
  refine j_eqv hqk ?_
  refine jX (k:=?_)
  refine j_eqv (hqv.trans hrA) ?_
  refine jA (k:=jA (k:=K8 (CJ.t [(0,_),(1,_),(5,_),(6,_),(8,_)] (k:=sQ fun K9=>cj_reg (jM (k:=jM (k:=jM (k:=?_))))))))
  refine j_valw rfl (fun a w ha hH hf=>r_mlookM (k:=qe.1) ru37 (keyT_string ru9) hMB zv49 rfl rfl ha (hBt w hf)) ?_
  refine j_eqv (u:=slN rB n) (by rw[hgB];rfl) ?_
  refine j_callQ (φ:=fun v=>v=.bool true) Tryz.call16 rfl rfl (fun w' hH hf=>by
    have h1:OS tI64 1 w' (slN rA n) ((sumV n qe.1 L1).map (.int .i64)):=OS.full (fr_row hf rfl _ _ hrowA) (by rw[List.length_map,hqn,Nat.mul_one])
    have h2:OS tI64 1 w' (slN rB n) ((sumV n qe.1 L1).map (.int .i64)):=OS.full (fr_row hf rfl _ _ hrowB) (by rw[List.length_map,hqn,Nat.mul_one])
    exact eq64_c w' _ _ (sumV n qe.1 L1) h1 h2 (by omega)) fun v hv=>?_
  subst hv
  refine jU (k:=K9 ?_)
  refine cj_if_f rfl (cj_skip (ej_blk (ej_then ?_)))
  have hlt:seen.length<esA.length:=by
   have:=(hV.push hxe hns).len hMA.born
   simp at this;omega
  exact fun w' hH hf=>hKLA (seen++[xe.born],vx++[xe]) _ w' (hV.push hxe hns) hf hH (by simp only[List.length_append,List.length_singleton];omega) sR
open Go Go.Fw Go.Proofs Go.Proofs.Tryz
theorem zzFits3_c (w:World) (cs:List Value) (x:PType) (h:RType w cs x):Calls Tryz.prog 25 #[.agg cs.toArray] w (Ret fun v w'=>(∃b,v=.bool b)∧Fr 0 [] w w'):=by
 unfold RType at h
 subst h
 refine startJ (args:=[_]) [(0,_)] 0 [] [] func25 rfl ntmps25 rfl rfl .nil ?_
 refine sQ fun K1=>cj_reg (j_boxA (vs:=[_,_]) rfl rfl fun b1=>jA (k:=K1 (sQ fun K2=>sQ fun K3=>cj_reg (jF 0 ru31 so9 (k:=jH 0 ag9 (k:=?_))))))
 refine j_val rfl (fun _ _ h=>r_slen ru9 rfl h) (jG (k:=K3 ?_))
 refine cj_dec rfl (fun _=>?_) (fun _=>?_)
 ·refine sQ fun K4=>cj_reg (jA (k:=K4 (cj_ret ?_)))
  exact ej_ret1 results25 rfl fun w' hH hf=>⟨⟨_,rfl⟩,hf⟩
 ·refine cj_skip (K2 (sQ fun K5=>sQ fun K6=>cj_reg (jF 1 ru31 so9 (k:=jH 0 ag9 (k:=?_)))))
  refine j_val rfl (fun _ _ h=>r_slen ru9 rfl h) (jG (k:=K6 (CJ.t [(10,_)] (k:=?_))))
  refine cj_dec rfl (fun _=>?_) (fun _=>?_)
  ·refine sQ fun K7=>cj_reg (jA (k:=K7 (cj_ret ?_)))
   exact ej_ret1 results25 rfl fun w' hH hf=>⟨⟨_,rfl⟩,hf⟩
  ·refine cj_skip (K5 (sQ fun K8=>cj_reg (jA (k:=K8 (cj_ret ?_)))))
   exact ej_ret1 results25 rfl fun w' hH hf=>⟨⟨_,rfl⟩,hf⟩
theorem zzFits2_c (w:World) (v:Value) (xs:List PType) (h:Lay RType 2 w v xs):Calls Tryz.prog 19 #[v] w (Ret fun v w'=>(∃b,v=.bool b∧(b=true→xs.length≤2147483647))∧Fr 0 [] w w'):=by
 obtain ⟨p,c,rfl,hl,hx⟩:=h.open
 refine startJ (args:=[_]) [(0,_)] 0 [] [] func19 rfl ntmps19 rfl rfl .nil ?_
 refine sQ fun K1=>cj_reg (jA (k:=K1 (sQ fun K2=>sQ fun K3=>cj_reg (jM (k:=jE ru24 (k:=jG (k:=K3 ?_)))))))
 refine cj_dec rfl (fun hbig=>?_) (fun hbig=>?_)
 ·refine sQ fun K4=>cj_reg (jA (k:=K4 (cj_ret ?_)))
  exact ej_ret1 results19 rfl fun w' hH hf=>⟨⟨_,rfl,by first|(intro h;exact absurd h (by decide))|(intro _;omega)⟩,hf⟩
 ·refine cj_skip (K2 (sQ fun K5=>sQ fun K6=>cj_reg (jM (k:=jE ru24 (k:=jM (k:=K6 (cj_block ?_)))))))
  refine cj_loop (σ:=Nat) (fun k=>[(8,.slice p xs.length c),(9,.int .i64 (xs.length:Nat)),(10,.int .i64 (k:Nat))]) (fun _=>[]) (fun k _=>k≤xs.length) (fun k=>xs.length - k) 0 sR (fun w hH hf=>⟨.nil,Nat.zero_le _⟩) ?_
  intro k w1 hk hf1 hH1 KL hKL
  refine C.begin _ [] hf1 .nil ?_
  refine sQ fun K7=>cj_reg (jS (k:=K7 (sQ fun K8=>?_)))
  refine cj_dec rfl (fun hlt=>?_) (fun hlt=>?_)
  ·have hlt':k<xs.length:=by omega
   obtain ⟨b,o,cs,rfl,hcs,hR,hcell⟩:=hx k xs[k] (List.getElem?_eq_getElem hlt')
   have hR':=hR
   unfold RType at hR
   subst hR
   refine cj_skip (K8 (sQ fun K9=>cj_block (sQ fun K10=>cj_reg (jJ ru24 so31 (k:=?_)))))
   refine j_valw rfl (fun a w ha hH hf=>r_loadA ag31 so31 rfl rfl (hcell w (hf.keepAll (.inr rfl))) ha) (j_allocA (zs:=[(.string ⟨#[]⟩),(.string ⟨#[]⟩)]) zv31 rfl fun b4=>jB [_,_] [_] 0 so31 (k:=K10 (sQ fun K11=>cj_reg ?_)))
   refine j_valw rfl (fun a w ha hH hf=>r_ldA (vs:=[_,_]) 0 rfl rfl ag31 so31 rfl rfl rfl ha hH) ?_
   refine j_callQ (φ:=fun v=>∃b,v=.bool b) call25 rfl rfl (fun w hH hf=>zzFits3_c w _ _ (RType.keep (hf.keepAll (.inr rfl)) _ _ hR')) ?_
   rintro _ ⟨b15,rfl⟩
   refine jU (k:=K11 ?_)
   refine cj_if rfl (fun _=>?_) (fun _=>?_)
   ·refine sQ fun K12=>cj_reg (jA (k:=K12 (cj_ret ?_)))
    exact ej_ret1 results19 rfl fun w' hH hf=>⟨⟨_,rfl,by first|(intro h;exact absurd h (by decide))|(intro _;omega)⟩,hf⟩
   ·refine cj_skip (K9 (cj_reg (jI (k:=jM (k:=j_nil (ej_then ?_))))))
    exact fun w hH hf=>hKL (k+1) _ w hlt' hf .nil (by omega) sR
  ·refine cj_exit (K5 (CJ.t [] (k:=sQ fun K13=>cj_reg (jA (k:=K13 (cj_ret ?_))))))
   exact ej_ret1 results19 rfl fun w' hH hf=>⟨⟨_,rfl,by first|(intro h;exact absurd h (by decide))|(intro _;omega)⟩,hf⟩
theorem zzFits8_c (w:World) (v:Value) (xs:List ByteArray) (h:Lay RStr 1 w v xs):Calls Tryz.prog 24 #[v] w (Ret fun v w'=>(∃b,v=.bool b∧(b=true→xs.length≤2147483647))∧Fr 0 [] w w'):=by
 obtain ⟨p,c,rfl,hl,hx⟩:=h.open
 refine startJ (args:=[_]) [(0,_)] 0 [] [] func24 rfl ntmps24 rfl rfl .nil ?_
 refine sQ fun K1=>cj_reg (jA (k:=K1 (sQ fun K2=>sQ fun K3=>cj_reg (jM (k:=jE ru29 (k:=jG (k:=K3 ?_)))))))
 refine cj_dec rfl (fun hbig=>?_) (fun hbig=>?_)
 ·refine sQ fun K4=>cj_reg (jA (k:=K4 (cj_ret ?_)))
  exact ej_ret1 results24 rfl fun w' hH hf=>⟨⟨_,rfl,by first|(intro h;exact absurd h (by decide))|(intro _;omega)⟩,hf⟩
 ·refine cj_skip (K2 (sQ fun K5=>sQ fun K6=>cj_reg (jM (k:=jE ru29 (k:=jM (k:=K6 (cj_block ?_)))))))
  refine cj_loop (σ:=Nat) (fun k=>[(8,.slice p xs.length c),(9,.int .i64 (xs.length:Nat)),(10,.int .i64 (k:Nat))]) (fun _=>[]) (fun k _=>k≤xs.length) (fun k=>xs.length - k) 0 sR (fun w hH hf=>⟨.nil,Nat.zero_le _⟩) ?_
  intro k w1 hk hf1 hH1 KL hKL
  refine C.begin _ [] hf1 .nil ?_
  refine sQ fun K7=>cj_reg (jS (k:=K7 (sQ fun K8=>?_)))
  refine cj_dec rfl (fun hlt=>?_) (fun hlt=>?_)
  ·have hlt':k<xs.length:=by omega
   obtain ⟨b,o,cs,rfl,hcs,hR,hcell⟩:=hx k xs[k] (List.getElem?_eq_getElem hlt')
   unfold RStr at hR
   subst hR
   refine cj_skip (K8 (sQ fun K9=>cj_block (sQ fun K10=>cj_reg (jJ ru29 so9 (k:=?_)))))
   refine j_valw rfl (fun a w ha hH hf=>r_load ag9 rfl (hcell w (hf.keepAll (.inr rfl)) 0 _ rfl) ha) (jA (k:=K10 (sQ fun K11=>cj_reg (jM (k:=?_)))))
   refine j_val rfl (fun _ _ h=>r_slen ru9 rfl h) (jG (k:=K11 ?_))
   refine cj_dec rfl (fun _=>?_) (fun _=>?_)
   ·refine sQ fun K12=>cj_reg (jA (k:=K12 (cj_ret ?_)))
    exact ej_ret1 results24 rfl fun w' hH hf=>⟨⟨_,rfl,by first|(intro h;exact absurd h (by decide))|(intro _;omega)⟩,hf⟩
   ·refine cj_skip (K9 (cj_reg (jI (k:=jM (k:=j_nil (ej_then ?_))))))
    exact fun w hH hf=>hKL (k+1) _ w hlt' hf .nil (by omega) sR
  ·refine cj_exit (K5 (CJ.t [] (k:=sQ fun K13=>cj_reg (jA (k:=K13 (cj_ret ?_))))))
   exact ej_ret1 results24 rfl fun w' hH hf=>⟨⟨_,rfl,by first|(intro h;exact absurd h (by decide))|(intro _;omega)⟩,hf⟩
theorem zzFits7_c (w:World) (cs:List Value) (x:PTexts) (h:RTexts w cs x):Calls Tryz.prog 81 #[.agg cs.toArray] w (Ret fun v w'=>(∃b,v=.bool b)∧Fr 0 [] w w'):=by
 obtain ⟨la,rfl,hla⟩:=h
 refine startJ (args:=[_]) [(0,_)] 0 [] [] func81 rfl ntmps81 rfl rfl .nil ?_
 refine sQ fun K1=>cj_reg (j_boxA (vs:=[_,_]) rfl rfl fun b1=>jA (k:=K1 (sQ fun K2=>sQ fun K3=>cj_reg (jF 0 ru130 so9 (k:=jH 0 ag9 (k:=?_))))))
 refine j_val rfl (fun _ _ h=>r_slen ru9 rfl h) (jG (k:=K3 ?_))
 refine cj_dec rfl (fun _=>?_) (fun _=>?_)
 ·refine sQ fun K4=>cj_reg (jA (k:=K4 (cj_ret ?_)))
  exact ej_ret1 results81 rfl fun w' hH hf=>⟨⟨_,rfl⟩,hf⟩
 ·refine cj_skip (K2 (sQ fun K5=>sQ fun K6=>cj_reg (jF 1 ru130 so29 (k:=jH 0 ag29 (k:=?_)))))
  refine j_callQ (φ:=fun v=>∃b,v=.bool b∧(b=true→x.list.length≤2147483647)) call24 rfl rfl (fun w hH hf=>zzFits8_c w _ _ (hla.keep (RStr.keep (hf.keepAll (.inr rfl))) (hf.keepAll (.inr rfl)))) ?_
  rintro _ ⟨b9,rfl,hb9⟩
  refine jU (k:=K6 (CJ.t [(10,_)] (k:=?_)))
  refine cj_if rfl (fun _=>?_) (fun _=>?_)
  ·refine sQ fun K7=>cj_reg (jA (k:=K7 (cj_ret ?_)))
   exact ej_ret1 results81 rfl fun w' hH hf=>⟨⟨_,rfl⟩,hf⟩
  ·refine cj_skip (K5 (sQ fun K8=>cj_reg (jA (k:=K8 (cj_ret ?_)))))
   exact ej_ret1 results81 rfl fun w' hH hf=>⟨⟨_,rfl⟩,hf⟩
theorem zzFits6_c (w:World) (v:Value) (xs:List PTexts) (h:Lay RTexts 2 w v xs):Calls Tryz.prog 64 #[v] w (Ret fun v w'=>(∃b,v=.bool b∧(b=true→xs.length≤2147483647))∧Fr 0 [] w w'):=by
 obtain ⟨p,c,rfl,hl,hx⟩:=h.open
 refine startJ (args:=[_]) [(0,_)] 0 [] [] func64 rfl ntmps64 rfl rfl .nil ?_
 refine sQ fun K1=>cj_reg (jA (k:=K1 (sQ fun K2=>sQ fun K3=>cj_reg (jM (k:=jE ru52 (k:=jG (k:=K3 ?_)))))))
 refine cj_dec rfl (fun hbig=>?_) (fun hbig=>?_)
 ·refine sQ fun K4=>cj_reg (jA (k:=K4 (cj_ret ?_)))
  exact ej_ret1 results64 rfl fun w' hH hf=>⟨⟨_,rfl,by first|(intro h;exact absurd h (by decide))|(intro _;omega)⟩,hf⟩
 ·refine cj_skip (K2 (sQ fun K5=>sQ fun K6=>cj_reg (jM (k:=jE ru52 (k:=jM (k:=K6 (cj_block ?_)))))))
  refine cj_loop (σ:=Nat) (fun k=>[(8,.slice p xs.length c),(9,.int .i64 (xs.length:Nat)),(10,.int .i64 (k:Nat))]) (fun _=>[]) (fun k _=>k≤xs.length) (fun k=>xs.length - k) 0 sR (fun w hH hf=>⟨.nil,Nat.zero_le _⟩) ?_
  intro k w1 hk hf1 hH1 KL hKL
  refine C.begin _ [] hf1 .nil ?_
  refine sQ fun K7=>cj_reg (jS (k:=K7 (sQ fun K8=>?_)))
  refine cj_dec rfl (fun hlt=>?_) (fun hlt=>?_)
  ·have hlt':k<xs.length:=by omega
   obtain ⟨b,o,cs,rfl,hcs,hR,hcell⟩:=hx k xs[k] (List.getElem?_eq_getElem hlt')
   have hR':=hR
   obtain ⟨la,rfl,hla⟩:=hR
   obtain ⟨p1,c1,rfl,hl1, -⟩:=hla.open
   refine cj_skip (K8 (sQ fun K9=>cj_block (sQ fun K10=>cj_reg (jJ ru52 so130 (k:=?_)))))
   refine j_valw rfl (fun a w ha hH hf=>r_loadA ag130 so130 rfl rfl (hcell w (hf.keepAll (.inr rfl))) ha) (j_allocA (zs:=[(.string ⟨#[]⟩),(.slice none 0 0)]) zv130 rfl fun b4=>jB [_,_] [_] 0 so130 (k:=K10 (sQ fun K11=>cj_reg ?_)))
   refine j_valw rfl (fun a w ha hH hf=>r_ldA (vs:=[_,_]) 0 rfl rfl ag130 so130 rfl rfl rfl ha hH) ?_
   refine j_callQ (φ:=fun v=>∃b,v=.bool b) call81 rfl rfl (fun w hH hf=>zzFits7_c w _ _ (RTexts.keep (hf.keepAll (.inr rfl)) _ _ hR')) ?_
   rintro _ ⟨b15,rfl⟩
   refine jU (k:=K11 ?_)
   refine cj_if rfl (fun _=>?_) (fun _=>?_)
   ·refine sQ fun K12=>cj_reg (jA (k:=K12 (cj_ret ?_)))
    exact ej_ret1 results64 rfl fun w' hH hf=>⟨⟨_,rfl,by first|(intro h;exact absurd h (by decide))|(intro _;omega)⟩,hf⟩
   ·refine cj_skip (K9 (cj_reg (jI (k:=jM (k:=j_nil (ej_then ?_))))))
    exact fun w hH hf=>hKL (k+1) _ w hlt' hf .nil (by omega) sR
  ·refine cj_exit (K5 (CJ.t [] (k:=sQ fun K13=>cj_reg (jA (k:=K13 (cj_ret ?_))))))
   exact ej_ret1 results64 rfl fun w' hH hf=>⟨⟨_,rfl,by first|(intro h;exact absurd h (by decide))|(intro _;omega)⟩,hf⟩
theorem zzFits10_c (w:World) (cs:List Value) (x:PNums) (h:RNums w cs x):Calls Tryz.prog 82 #[.agg cs.toArray] w (Ret fun v w'=>(∃b,v=.bool b)∧Fr 0 [] w w'):=by
 obtain ⟨la,rfl,hla⟩:=h
 obtain ⟨p1,c1,rfl,hl1, -⟩:=hla.open
 refine startJ (args:=[_]) [(0,_)] 0 [] [] func82 rfl ntmps82 rfl rfl .nil ?_
 refine sQ fun K1=>cj_reg (j_boxA (vs:=[_,_]) rfl rfl fun b1=>jA (k:=K1 (sQ fun K2=>sQ fun K3=>cj_reg (jF 0 ru133 so9 (k:=jH 0 ag9 (k:=?_))))))
 refine j_val rfl (fun _ _ h=>r_slen ru9 rfl h) (jG (k:=K3 ?_))
 refine cj_dec rfl (fun _=>?_) (fun _=>?_)
 ·refine sQ fun K4=>cj_reg (jA (k:=K4 (cj_ret ?_)))
  exact ej_ret1 results82 rfl fun w' hH hf=>⟨⟨_,rfl⟩,hf⟩
 ·refine cj_skip (K2 (sQ fun K5=>sQ fun K6=>cj_reg (jF 1 ru133 so49 (k:=jH 0 ag49 (k:=jE ru49 (k:=jG (k:=K6 (CJ.t [(10,_)] (k:=?_)))))))))
  refine cj_dec rfl (fun _=>?_) (fun _=>?_)
  ·refine sQ fun K7=>cj_reg (jA (k:=K7 (cj_ret ?_)))
   exact ej_ret1 results82 rfl fun w' hH hf=>⟨⟨_,rfl⟩,hf⟩
  ·refine cj_skip (K5 (sQ fun K8=>cj_reg (jA (k:=K8 (cj_ret ?_)))))
   exact ej_ret1 results82 rfl fun w' hH hf=>⟨⟨_,rfl⟩,hf⟩
theorem zzFits9_c (w:World) (v:Value) (xs:List PNums) (h:Lay RNums 2 w v xs):Calls Tryz.prog 65 #[v] w (Ret fun v w'=>(∃b,v=.bool b∧(b=true→xs.length≤2147483647))∧Fr 0 [] w w'):=by
 obtain ⟨p,c,rfl,hl,hx⟩:=h.open
 refine startJ (args:=[_]) [(0,_)] 0 [] [] func65 rfl ntmps65 rfl rfl .nil ?_
 refine sQ fun K1=>cj_reg (jA (k:=K1 (sQ fun K2=>sQ fun K3=>cj_reg (jM (k:=jE ru53 (k:=jG (k:=K3 ?_)))))))
 refine cj_dec rfl (fun hbig=>?_) (fun hbig=>?_)
 ·refine sQ fun K4=>cj_reg (jA (k:=K4 (cj_ret ?_)))
  exact ej_ret1 results65 rfl fun w' hH hf=>⟨⟨_,rfl,by first|(intro h;exact absurd h (by decide))|(intro _;omega)⟩,hf⟩
 ·refine cj_skip (K2 (sQ fun K5=>sQ fun K6=>cj_reg (jM (k:=jE ru53 (k:=jM (k:=K6 (cj_block ?_)))))))
  refine cj_loop (σ:=Nat) (fun k=>[(8,.slice p xs.length c),(9,.int .i64 (xs.length:Nat)),(10,.int .i64 (k:Nat))]) (fun _=>[]) (fun k _=>k≤xs.length) (fun k=>xs.length - k) 0 sR (fun w hH hf=>⟨.nil,Nat.zero_le _⟩) ?_
  intro k w1 hk hf1 hH1 KL hKL
  refine C.begin _ [] hf1 .nil ?_
  refine sQ fun K7=>cj_reg (jS (k:=K7 (sQ fun K8=>?_)))
  refine cj_dec rfl (fun hlt=>?_) (fun hlt=>?_)
  ·have hlt':k<xs.length:=by omega
   obtain ⟨b,o,cs,rfl,hcs,hR,hcell⟩:=hx k xs[k] (List.getElem?_eq_getElem hlt')
   have hR':=hR
   obtain ⟨la,rfl,hla⟩:=hR
   obtain ⟨p1,c1,rfl,hl1, -⟩:=hla.open
   refine cj_skip (K8 (sQ fun K9=>cj_block (sQ fun K10=>cj_reg (jJ ru53 so133 (k:=?_)))))
   refine j_valw rfl (fun a w ha hH hf=>r_loadA ag133 so133 rfl rfl (hcell w (hf.keepAll (.inr rfl))) ha) (j_allocA (zs:=[(.string ⟨#[]⟩),(.slice none 0 0)]) zv133 rfl fun b4=>jB [_,_] [_] 0 so133 (k:=K10 (sQ fun K11=>cj_reg ?_)))
   refine j_valw rfl (fun a w ha hH hf=>r_ldA (vs:=[_,_]) 0 rfl rfl ag133 so133 rfl rfl rfl ha hH) ?_
   refine j_callQ (φ:=fun v=>∃b,v=.bool b) call82 rfl rfl (fun w hH hf=>zzFits10_c w _ _ (RNums.keep (hf.keepAll (.inr rfl)) _ _ hR')) ?_
   rintro _ ⟨b15,rfl⟩
   refine jU (k:=K11 ?_)
   refine cj_if rfl (fun _=>?_) (fun _=>?_)
   ·refine sQ fun K12=>cj_reg (jA (k:=K12 (cj_ret ?_)))
    exact ej_ret1 results65 rfl fun w' hH hf=>⟨⟨_,rfl,by first|(intro h;exact absurd h (by decide))|(intro _;omega)⟩,hf⟩
   ·refine cj_skip (K9 (cj_reg (jI (k:=jM (k:=j_nil (ej_then ?_))))))
    exact fun w hH hf=>hKL (k+1) _ w hlt' hf .nil (by omega) sR
  ·refine cj_exit (K5 (CJ.t [] (k:=sQ fun K13=>cj_reg (jA (k:=K13 (cj_ret ?_))))))
   exact ej_ret1 results65 rfl fun w' hH hf=>⟨⟨_,rfl,by first|(intro h;exact absurd h (by decide))|(intro _;omega)⟩,hf⟩
theorem zzFits5_c (w:World) (cs:List Value) (x:PSample) (h:RSample w cs x):Calls Tryz.prog 45 #[.agg cs.toArray] w (Ret fun v w'=>(∃b,v=.bool b)∧Fr 0 [] w w'):=by
 obtain ⟨la,lb,lt,lu,rfl,hla,hlb,hlt,hlu⟩:=h
 obtain ⟨p1,c1,rfl,hl1, -⟩:=hla.open
 obtain ⟨p2,c2,rfl,hl2, -⟩:=hlb.open
 refine startJ (args:=[_]) [(0,_)] 0 [] [] func45 rfl ntmps45 rfl rfl .nil ?_
 refine sQ fun K1=>cj_reg (j_boxA (vs:=[_,_,_,_]) rfl rfl fun b1=>jA (k:=K1 (sQ fun K2=>sQ fun K3=>cj_reg (jF 0 ru55 so51 (k:=jH 0 ag51 (k:=jE ru51 (k:=jG (k:=K3 ?_))))))))
 refine cj_dec rfl (fun _=>?_) (fun _=>?_)
 ·refine sQ fun K4=>cj_reg (jA (k:=K4 (cj_ret ?_)))
  exact ej_ret1 results45 rfl fun w' hH hf=>⟨⟨_,rfl⟩,hf⟩
 ·refine cj_skip (K2 (sQ fun K5=>sQ fun K6=>cj_reg (jF 1 ru55 so49 (k:=jH 0 ag49 (k:=jE ru49 (k:=jG (k:=K6 (CJ.t [(1,_),(10,_)] (k:=?_)))))))))
  refine cj_dec rfl (fun _=>?_) (fun _=>?_)
  ·refine sQ fun K7=>cj_reg (jA (k:=K7 (cj_ret ?_)))
   exact ej_ret1 results45 rfl fun w' hH hf=>⟨⟨_,rfl⟩,hf⟩
  ·refine cj_skip (K5 (sQ fun K8=>sQ fun K9=>cj_reg (jF 2 ru55 so52 (k:=jH 0 ag52 (k:=?_)))))
   refine j_callQ (φ:=fun v=>∃b,v=.bool b∧(b=true→x.texts.length≤2147483647)) call64 rfl rfl (fun w hH hf=>zzFits6_c w _ _ (hlt.keep (RTexts.keep (hf.keepAll (.inr rfl))) (hf.keepAll (.inr rfl)))) ?_
   rintro _ ⟨b13,rfl,hb13⟩
   refine jU (k:=K9 ?_)
   refine cj_if rfl (fun _=>?_) (fun _=>?_)
   ·refine sQ fun K10=>cj_reg (jA (k:=K10 (cj_ret ?_)))
    exact ej_ret1 results45 rfl fun w' hH hf=>⟨⟨_,rfl⟩,hf⟩
   ·refine cj_skip (K8 (sQ fun K11=>sQ fun K12=>cj_reg (jF 3 ru55 so53 (k:=jH 0 ag53 (k:=?_)))))
    refine j_callQ (φ:=fun v=>∃b,v=.bool b∧(b=true→x.nums.length≤2147483647)) call65 rfl rfl (fun w hH hf=>zzFits9_c w _ _ (hlu.keep (RNums.keep (hf.keepAll (.inr rfl))) (hf.keepAll (.inr rfl)))) ?_
    rintro _ ⟨b17,rfl,hb17⟩
    refine jU (k:=K12 (CJ.t [(18,_)] (k:=?_)))
    refine cj_if rfl (fun _=>?_) (fun _=>?_)
    ·refine sQ fun K13=>cj_reg (jA (k:=K13 (cj_ret ?_)))
     exact ej_ret1 results45 rfl fun w' hH hf=>⟨⟨_,rfl⟩,hf⟩
    ·refine cj_skip (K11 (sQ fun K14=>cj_reg (jA (k:=K14 (cj_ret ?_)))))
     exact ej_ret1 results45 rfl fun w' hH hf=>⟨⟨_,rfl⟩,hf⟩
theorem zzFits4_c (w:World) (v:Value) (xs:List PSample) (h:Lay RSample 4 w v xs):Calls Tryz.prog 20 #[v] w (Ret fun v w'=>(∃b,v=.bool b∧(b=true→xs.length≤2147483647))∧Fr 0 [] w w'):=by
 obtain ⟨p,c,rfl,hl,hx⟩:=h.open
 refine startJ (args:=[_]) [(0,_)] 0 [] [] func20 rfl ntmps20 rfl rfl .nil ?_
 refine sQ fun K1=>cj_reg (jA (k:=K1 (sQ fun K2=>sQ fun K3=>cj_reg (jM (k:=jE ru25 (k:=jG (k:=K3 ?_)))))))
 refine cj_dec rfl (fun hbig=>?_) (fun hbig=>?_)
 ·refine sQ fun K4=>cj_reg (jA (k:=K4 (cj_ret ?_)))
  exact ej_ret1 results20 rfl fun w' hH hf=>⟨⟨_,rfl,by first|(intro h;exact absurd h (by decide))|(intro _;omega)⟩,hf⟩
 ·refine cj_skip (K2 (sQ fun K5=>sQ fun K6=>cj_reg (jM (k:=jE ru25 (k:=jM (k:=K6 (cj_block ?_)))))))
  refine cj_loop (σ:=Nat) (fun k=>[(8,.slice p xs.length c),(9,.int .i64 (xs.length:Nat)),(10,.int .i64 (k:Nat))]) (fun _=>[]) (fun k _=>k≤xs.length) (fun k=>xs.length - k) 0 sR (fun w hH hf=>⟨.nil,Nat.zero_le _⟩) ?_
  intro k w1 hk hf1 hH1 KL hKL
  refine C.begin _ [] hf1 .nil ?_
  refine sQ fun K7=>cj_reg (jS (k:=K7 (sQ fun K8=>?_)))
  refine cj_dec rfl (fun hlt=>?_) (fun hlt=>?_)
  ·have hlt':k<xs.length:=by omega
   obtain ⟨b,o,cs,rfl,hcs,hR,hcell⟩:=hx k xs[k] (List.getElem?_eq_getElem hlt')
   have hR':=hR
   obtain ⟨la,lb,lt,lu,rfl,hla,hlb,hlt2,hlu⟩:=hR
   obtain ⟨p1,c1,rfl,hl1, -⟩:=hla.open
   obtain ⟨p2,c2,rfl,hl2, -⟩:=hlb.open
   obtain ⟨p3,c3,rfl,hl3, -⟩:=hlt2.open
   obtain ⟨p4,c4,rfl,hl4, -⟩:=hlu.open
   refine cj_skip (K8 (sQ fun K9=>cj_block (sQ fun K10=>cj_reg (jJ ru25 so55 (k:=?_)))))
   refine j_valw rfl (fun a w ha hH hf=>r_loadA ag55 so55 rfl rfl (hcell w (hf.keepAll (.inr rfl))) ha) (j_allocA (zs:=[(.slice none 0 0),(.slice none 0 0),(.slice none 0 0),(.slice none 0 0)]) zv55 rfl fun b4=>jB [_,_,_,_] [_] 0 so55 (k:=K10 (sQ fun K11=>cj_reg ?_)))
   refine j_valw rfl (fun a w ha hH hf=>r_ldA (vs:=[_,_,_,_]) 0 rfl rfl ag55 so55 rfl rfl rfl ha hH) ?_
   refine j_callQ (φ:=fun v=>∃b,v=.bool b) call45 rfl rfl (fun w hH hf=>zzFits5_c w _ _ (RSample.keep (hf.keepAll (.inr rfl)) _ _ hR')) ?_
   rintro _ ⟨b15,rfl⟩
   refine jU (k:=K11 ?_)
   refine cj_if rfl (fun _=>?_) (fun _=>?_)
   ·refine sQ fun K12=>cj_reg (jA (k:=K12 (cj_ret ?_)))
    exact ej_ret1 results20 rfl fun w' hH hf=>⟨⟨_,rfl,by first|(intro h;exact absurd h (by decide))|(intro _;omega)⟩,hf⟩
   ·refine cj_skip (K9 (cj_reg (jI (k:=jM (k:=j_nil (ej_then ?_))))))
    exact fun w hH hf=>hKL (k+1) _ w hlt' hf .nil (by omega) sR
  ·refine cj_exit (K5 (CJ.t [] (k:=sQ fun K13=>cj_reg (jA (k:=K13 (cj_ret ?_))))))
   exact ej_ret1 results20 rfl fun w' hH hf=>⟨⟨_,rfl,by first|(intro h;exact absurd h (by decide))|(intro _;omega)⟩,hf⟩
theorem zzFits12_c (w:World) (cs:List Value) (x:PMapping) (h:RMapping w cs x):Calls Tryz.prog 46 #[.agg cs.toArray] w (Ret fun v w'=>(∃b,v=.bool b)∧Fr 0 [] w w'):=by
 obtain ⟨rfl, -⟩:=h
 refine startJ (args:=[_]) [(0,_)] 0 [] [] func46 rfl ntmps46 rfl rfl .nil ?_
 refine sQ fun K1=>cj_reg (j_boxA (vs:=[_,_,_,_,_,_,_,_,_,_]) rfl rfl fun b1=>jA (k:=K1 (sQ fun K2=>sQ fun K3=>cj_reg (jF 4 ru78 so9 (k:=jH 0 ag9 (k:=?_))))))
 refine j_val rfl (fun _ _ h=>r_slen ru9 rfl h) (jG (k:=K3 ?_))
 refine cj_dec rfl (fun _=>?_) (fun _=>?_)
 ·refine sQ fun K4=>cj_reg (jA (k:=K4 (cj_ret ?_)))
  exact ej_ret1 results46 rfl fun w' hH hf=>⟨⟨_,rfl⟩,hf⟩
 ·refine cj_skip (K2 (sQ fun K5=>sQ fun K6=>cj_reg (jF 5 ru78 so9 (k:=jH 0 ag9 (k:=?_)))))
  refine j_val rfl (fun _ _ h=>r_slen ru9 rfl h) (jG (k:=K6 (CJ.t [(10,_)] (k:=?_))))
  refine cj_dec rfl (fun _=>?_) (fun _=>?_)
  ·refine sQ fun K7=>cj_reg (jA (k:=K7 (cj_ret ?_)))
   exact ej_ret1 results46 rfl fun w' hH hf=>⟨⟨_,rfl⟩,hf⟩
  ·refine cj_skip (K5 (sQ fun K8=>cj_reg (jA (k:=K8 (cj_ret ?_)))))
   exact ej_ret1 results46 rfl fun w' hH hf=>⟨⟨_,rfl⟩,hf⟩
theorem zzFits11_c (w:World) (v:Value) (xs:List PMapping) (h:Lay RMapping 10 w v xs):Calls Tryz.prog 21 #[v] w (Ret fun v w'=>(∃b,v=.bool b∧(b=true→xs.length≤2147483647))∧Fr 0 [] w w'):=by
 obtain ⟨p,c,rfl,hl,hx⟩:=h.open
 refine startJ (args:=[_]) [(0,_)] 0 [] [] func21 rfl ntmps21 rfl rfl .nil ?_
 refine sQ fun K1=>cj_reg (jA (k:=K1 (sQ fun K2=>sQ fun K3=>cj_reg (jM (k:=jE ru26 (k:=jG (k:=K3 ?_)))))))
 refine cj_dec rfl (fun hbig=>?_) (fun hbig=>?_)
 ·refine sQ fun K4=>cj_reg (jA (k:=K4 (cj_ret ?_)))
  exact ej_ret1 results21 rfl fun w' hH hf=>⟨⟨_,rfl,by first|(intro h;exact absurd h (by decide))|(intro _;omega)⟩,hf⟩
 ·refine cj_skip (K2 (sQ fun K5=>sQ fun K6=>cj_reg (jM (k:=jE ru26 (k:=jM (k:=K6 (cj_block ?_)))))))
  refine cj_loop (σ:=Nat) (fun k=>[(8,.slice p xs.length c),(9,.int .i64 (xs.length:Nat)),(10,.int .i64 (k:Nat))]) (fun _=>[]) (fun k _=>k≤xs.length) (fun k=>xs.length - k) 0 sR (fun w hH hf=>⟨.nil,Nat.zero_le _⟩) ?_
  intro k w1 hk hf1 hH1 KL hKL
  refine C.begin _ [] hf1 .nil ?_
  refine sQ fun K7=>cj_reg (jS (k:=K7 (sQ fun K8=>?_)))
  refine cj_dec rfl (fun hlt=>?_) (fun hlt=>?_)
  ·have hlt':k<xs.length:=by omega
   obtain ⟨b,o,cs,rfl,hcs,hR,hcell⟩:=hx k xs[k] (List.getElem?_eq_getElem hlt')
   have hR':=hR
   obtain ⟨rfl, -⟩:=hR
   refine cj_skip (K8 (sQ fun K9=>cj_block (sQ fun K10=>cj_reg (jJ ru26 so78 (k:=?_)))))
   refine j_valw rfl (fun a w ha hH hf=>r_loadA ag78 so78 rfl rfl (hcell w (hf.keepAll (.inr rfl))) ha) (j_allocA (zs:=[(.int .u64 0),(.int .u64 0),(.int .u64 0),(.int .u64 0),(.string ⟨#[]⟩),(.string ⟨#[]⟩),(.bool false),(.bool false),(.bool false),(.bool false)]) zv78 rfl fun b4=>jB [_,_,_,_,_,_,_,_,_,_] [_] 0 so78 (k:=K10 (sQ fun K11=>cj_reg ?_)))
   refine j_valw rfl (fun a w ha hH hf=>r_ldA (vs:=[_,_,_,_,_,_,_,_,_,_]) 0 rfl rfl ag78 so78 rfl rfl rfl ha hH) ?_
   refine j_callQ (φ:=fun v=>∃b,v=.bool b) call46 rfl rfl (fun w hH hf=>zzFits12_c w _ _ (RMapping.keep (hf.keepAll (.inr rfl)) _ _ hR')) ?_
   rintro _ ⟨b15,rfl⟩
   refine jU (k:=K11 ?_)
   refine cj_if rfl (fun _=>?_) (fun _=>?_)
   ·refine sQ fun K12=>cj_reg (jA (k:=K12 (cj_ret ?_)))
    exact ej_ret1 results21 rfl fun w' hH hf=>⟨⟨_,rfl,by first|(intro h;exact absurd h (by decide))|(intro _;omega)⟩,hf⟩
   ·refine cj_skip (K9 (cj_reg (jI (k:=jM (k:=j_nil (ej_then ?_))))))
    exact fun w hH hf=>hKL (k+1) _ w hlt' hf .nil (by omega) sR
  ·refine cj_exit (K5 (CJ.t [] (k:=sQ fun K13=>cj_reg (jA (k:=K13 (cj_ret ?_))))))
   exact ej_ret1 results21 rfl fun w' hH hf=>⟨⟨_,rfl,by first|(intro h;exact absurd h (by decide))|(intro _;omega)⟩,hf⟩
theorem zzFits14_c (w:World) (cs:List Value) (x:PLoc) (h:RLoc w cs x):Calls Tryz.prog 47 #[.agg cs.toArray] w (Ret fun v w'=>(∃b,v=.bool b)∧Fr 0 [] w w'):=by
 obtain ⟨la,rfl, -, -, -,hla⟩:=h
 obtain ⟨p1,c1,rfl,hl1, -⟩:=hla.open
 refine startJ (args:=[_]) [(0,_)] 0 [] [] func47 rfl ntmps47 rfl rfl .nil ?_
 refine sQ fun K1=>cj_reg (j_boxA (vs:=[_,_,_,_]) rfl rfl fun b1=>jA (k:=K1 (sQ fun K2=>sQ fun K3=>cj_reg (jF 3 ru89 so87 (k:=jH 0 ag87 (k:=jE ru87 (k:=jG (k:=K3 ?_))))))))
 refine cj_dec rfl (fun _=>?_) (fun _=>?_)
 ·refine sQ fun K4=>cj_reg (jA (k:=K4 (cj_ret ?_)))
  exact ej_ret1 results47 rfl fun w' hH hf=>⟨⟨_,rfl⟩,hf⟩
 ·refine cj_skip (K2 (sQ fun K5=>cj_reg (jA (k:=K5 (cj_ret ?_)))))
  exact ej_ret1 results47 rfl fun w' hH hf=>⟨⟨_,rfl⟩,hf⟩
theorem zzFits13_c (w:World) (v:Value) (xs:List PLoc) (h:Lay RLoc 4 w v xs):Calls Tryz.prog 22 #[v] w (Ret fun v w'=>(∃b,v=.bool b∧(b=true→xs.length≤2147483647))∧Fr 0 [] w w'):=by
 obtain ⟨p,c,rfl,hl,hx⟩:=h.open
 refine startJ (args:=[_]) [(0,_)] 0 [] [] func22 rfl ntmps22 rfl rfl .nil ?_
 refine sQ fun K1=>cj_reg (jA (k:=K1 (sQ fun K2=>sQ fun K3=>cj_reg (jM (k:=jE ru27 (k:=jG (k:=K3 ?_)))))))
 refine cj_dec rfl (fun hbig=>?_) (fun hbig=>?_)
 ·refine sQ fun K4=>cj_reg (jA (k:=K4 (cj_ret ?_)))
  exact ej_ret1 results22 rfl fun w' hH hf=>⟨⟨_,rfl,by first|(intro h;exact absurd h (by decide))|(intro _;omega)⟩,hf⟩
 ·refine cj_skip (K2 (sQ fun K5=>sQ fun K6=>cj_reg (jM (k:=jE ru27 (k:=jM (k:=K6 (cj_block ?_)))))))
  refine cj_loop (σ:=Nat) (fun k=>[(8,.slice p xs.length c),(9,.int .i64 (xs.length:Nat)),(10,.int .i64 (k:Nat))]) (fun _=>[]) (fun k _=>k≤xs.length) (fun k=>xs.length - k) 0 sR (fun w hH hf=>⟨.nil,Nat.zero_le _⟩) ?_
  intro k w1 hk hf1 hH1 KL hKL
  refine C.begin _ [] hf1 .nil ?_
  refine sQ fun K7=>cj_reg (jS (k:=K7 (sQ fun K8=>?_)))
  refine cj_dec rfl (fun hlt=>?_) (fun hlt=>?_)
  ·have hlt':k<xs.length:=by omega
   obtain ⟨b,o,cs,rfl,hcs,hR,hcell⟩:=hx k xs[k] (List.getElem?_eq_getElem hlt')
   have hR':=hR
   obtain ⟨la,rfl, -, -, -,hla⟩:=hR
   obtain ⟨p1,c1,rfl,hl1, -⟩:=hla.open
   refine cj_skip (K8 (sQ fun K9=>cj_block (sQ fun K10=>cj_reg (jJ ru27 so89 (k:=?_)))))
   refine j_valw rfl (fun a w ha hH hf=>r_loadA ag89 so89 rfl rfl (hcell w (hf.keepAll (.inr rfl))) ha) (j_allocA (zs:=[(.int .u64 0),(.int .i64 0),(.int .u64 0),(.slice none 0 0)]) zv89 rfl fun b4=>jB [_,_,_,_] [_] 0 so89 (k:=K10 (sQ fun K11=>cj_reg ?_)))
   refine j_valw rfl (fun a w ha hH hf=>r_ldA (vs:=[_,_,_,_]) 0 rfl rfl ag89 so89 rfl rfl rfl ha hH) ?_
   refine j_callQ (φ:=fun v=>∃b,v=.bool b) call47 rfl rfl (fun w hH hf=>zzFits14_c w _ _ (RLoc.keep (hf.keepAll (.inr rfl)) _ _ hR')) ?_
   rintro _ ⟨b15,rfl⟩
   refine jU (k:=K11 ?_)
   refine cj_if rfl (fun _=>?_) (fun _=>?_)
   ·refine sQ fun K12=>cj_reg (jA (k:=K12 (cj_ret ?_)))
    exact ej_ret1 results22 rfl fun w' hH hf=>⟨⟨_,rfl,by first|(intro h;exact absurd h (by decide))|(intro _;omega)⟩,hf⟩
   ·refine cj_skip (K9 (cj_reg (jI (k:=jM (k:=j_nil (ej_then ?_))))))
    exact fun w hH hf=>hKL (k+1) _ w hlt' hf .nil (by omega) sR
  ·refine cj_exit (K5 (CJ.t [] (k:=sQ fun K13=>cj_reg (jA (k:=K13 (cj_ret ?_))))))
   exact ej_ret1 results22 rfl fun w' hH hf=>⟨⟨_,rfl,by first|(intro h;exact absurd h (by decide))|(intro _;omega)⟩,hf⟩
theorem zzFits16_c (w:World) (cs:List Value) (x:PFunc) (h:RFunc w cs x):Calls Tryz.prog 48 #[.agg cs.toArray] w (Ret fun v w'=>(∃b,v=.bool b)∧Fr 0 [] w w'):=by
 obtain ⟨rfl, -⟩:=h
 refine startJ (args:=[_]) [(0,_)] 0 [] [] func48 rfl ntmps48 rfl rfl .nil ?_
 refine sQ fun K1=>cj_reg (j_boxA (vs:=[_,_,_,_,_]) rfl rfl fun b1=>jA (k:=K1 (sQ fun K2=>sQ fun K3=>cj_reg (jF 1 ru83 so9 (k:=jH 0 ag9 (k:=?_))))))
 refine j_val rfl (fun _ _ h=>r_slen ru9 rfl h) (jG (k:=K3 ?_))
 refine cj_dec rfl (fun _=>?_) (fun _=>?_)
 ·refine sQ fun K4=>cj_reg (jA (k:=K4 (cj_ret ?_)))
  exact ej_ret1 results48 rfl fun w' hH hf=>⟨⟨_,rfl⟩,hf⟩
 ·refine cj_skip (K2 (sQ fun K5=>sQ fun K6=>cj_reg (jF 2 ru83 so9 (k:=jH 0 ag9 (k:=?_)))))
  refine j_val rfl (fun _ _ h=>r_slen ru9 rfl h) (jG (k:=K6 (CJ.t [(1,_),(10,_)] (k:=?_))))
  refine cj_dec rfl (fun _=>?_) (fun _=>?_)
  ·refine sQ fun K7=>cj_reg (jA (k:=K7 (cj_ret ?_)))
   exact ej_ret1 results48 rfl fun w' hH hf=>⟨⟨_,rfl⟩,hf⟩
  ·refine cj_skip (K5 (sQ fun K8=>sQ fun K9=>cj_reg (jF 3 ru83 so9 (k:=jH 0 ag9 (k:=?_)))))
   refine j_val rfl (fun _ _ h=>r_slen ru9 rfl h) (jG (k:=K9 ?_))
   refine cj_dec rfl (fun _=>?_) (fun _=>?_)
   ·refine sQ fun K10=>cj_reg (jA (k:=K10 (cj_ret ?_)))
    exact ej_ret1 results48 rfl fun w' hH hf=>⟨⟨_,rfl⟩,hf⟩
   ·refine cj_skip (K8 (sQ fun K11=>cj_reg (jA (k:=K11 (cj_ret ?_)))))
    exact ej_ret1 results48 rfl fun w' hH hf=>⟨⟨_,rfl⟩,hf⟩
theorem zzFits15_c (w:World) (v:Value) (xs:List PFunc) (h:Lay RFunc 5 w v xs):Calls Tryz.prog 23 #[v] w (Ret fun v w'=>(∃b,v=.bool b∧(b=true→xs.length≤2147483647))∧Fr 0 [] w w'):=by
 obtain ⟨p,c,rfl,hl,hx⟩:=h.open
 refine startJ (args:=[_]) [(0,_)] 0 [] [] func23 rfl ntmps23 rfl rfl .nil ?_
 refine sQ fun K1=>cj_reg (jA (k:=K1 (sQ fun K2=>sQ fun K3=>cj_reg (jM (k:=jE ru28 (k:=jG (k:=K3 ?_)))))))
 refine cj_dec rfl (fun hbig=>?_) (fun hbig=>?_)
 ·refine sQ fun K4=>cj_reg (jA (k:=K4 (cj_ret ?_)))
  exact ej_ret1 results23 rfl fun w' hH hf=>⟨⟨_,rfl,by first|(intro h;exact absurd h (by decide))|(intro _;omega)⟩,hf⟩
 ·refine cj_skip (K2 (sQ fun K5=>sQ fun K6=>cj_reg (jM (k:=jE ru28 (k:=jM (k:=K6 (cj_block ?_)))))))
  refine cj_loop (σ:=Nat) (fun k=>[(8,.slice p xs.length c),(9,.int .i64 (xs.length:Nat)),(10,.int .i64 (k:Nat))]) (fun _=>[]) (fun k _=>k≤xs.length) (fun k=>xs.length - k) 0 sR (fun w hH hf=>⟨.nil,Nat.zero_le _⟩) ?_
  intro k w1 hk hf1 hH1 KL hKL
  refine C.begin _ [] hf1 .nil ?_
  refine sQ fun K7=>cj_reg (jS (k:=K7 (sQ fun K8=>?_)))
  refine cj_dec rfl (fun hlt=>?_) (fun hlt=>?_)
  ·have hlt':k<xs.length:=by omega
   obtain ⟨b,o,cs,rfl,hcs,hR,hcell⟩:=hx k xs[k] (List.getElem?_eq_getElem hlt')
   have hR':=hR
   obtain ⟨rfl, -⟩:=hR
   refine cj_skip (K8 (sQ fun K9=>cj_block (sQ fun K10=>cj_reg (jJ ru28 so83 (k:=?_)))))
   refine j_valw rfl (fun a w ha hH hf=>r_loadA ag83 so83 rfl rfl (hcell w (hf.keepAll (.inr rfl))) ha) (j_allocA (zs:=[(.int .u64 0),(.string ⟨#[]⟩),(.string ⟨#[]⟩),(.string ⟨#[]⟩),(.int .i64 0)]) zv83 rfl fun b4=>jB [_,_,_,_,_] [_] 0 so83 (k:=K10 (sQ fun K11=>cj_reg ?_)))
   refine j_valw rfl (fun a w ha hH hf=>r_ldA (vs:=[_,_,_,_,_]) 0 rfl rfl ag83 so83 rfl rfl rfl ha hH) ?_
   refine j_callQ (φ:=fun v=>∃b,v=.bool b) call48 rfl rfl (fun w hH hf=>zzFits16_c w _ _ (RFunc.keep (hf.keepAll (.inr rfl)) _ _ hR')) ?_
   rintro _ ⟨b15,rfl⟩
   refine jU (k:=K11 ?_)
   refine cj_if rfl (fun _=>?_) (fun _=>?_)
   ·refine sQ fun K12=>cj_reg (jA (k:=K12 (cj_ret ?_)))
    exact ej_ret1 results23 rfl fun w' hH hf=>⟨⟨_,rfl,by first|(intro h;exact absurd h (by decide))|(intro _;omega)⟩,hf⟩
   ·refine cj_skip (K9 (cj_reg (jI (k:=jM (k:=j_nil (ej_then ?_))))))
    exact fun w hH hf=>hKL (k+1) _ w hlt' hf .nil (by omega) sR
  ·refine cj_exit (K5 (CJ.t [] (k:=sQ fun K13=>cj_reg (jA (k:=K13 (cj_ret ?_))))))
   exact ej_ret1 results23 rfl fun w' hH hf=>⟨⟨_,rfl,by first|(intro h;exact absurd h (by decide))|(intro _;omega)⟩,hf⟩
theorem zzFits1_c (w:World) (cs:List Value) (x:PProf) (h:RProf w cs x):Calls Tryz.prog 9 #[.agg cs.toArray] w (Ret fun v w'=>(∃b,v=.bool b∧(b=true→x.mappings.length≤2147483647∧x.locs.length≤2147483647∧x.funcs.length≤2147483647))∧Fr 0 [] w w'):=by
 obtain ⟨la,ls,lm,ll,lf,lcm,rfl,ha,hs,hm,hll,hfu,hcm, -⟩:=h
 refine startJ (args:=[_]) [(0,_)] 0 [] [] func9 rfl ntmps9 rfl rfl .nil ?_
 refine sQ fun K1=>cj_reg (j_boxA (vs:=[_,_,_,_,_,_,_,_,_,_,_,_,_,_]) rfl rfl fun b1=>jA (k:=K1 (sQ fun K2=>sQ fun K3=>cj_reg (jF 0 ru33 so24 (k:=jH 0 ag24 (k:=?_))))))
 refine j_callQ (φ:=fun v=>∃b,v=.bool b∧(b=true→x.types.length≤2147483647)) call19 rfl rfl (fun w hH hf=>zzFits2_c w _ _ (ha.keep (RType.keep (hf.keepAll (.inr rfl))) (hf.keepAll (.inr rfl)))) ?_
 rintro _ ⟨b5,rfl,hb5⟩
 refine jU (k:=K3 ?_)
 refine cj_if rfl (fun _=>?_) (fun _=>?_)
 ·refine sQ fun K4=>cj_reg (jA (k:=K4 (cj_ret ?_)))
  exact ej_ret1 results9 rfl fun w' hH hf=>⟨⟨_,rfl,by first|(intro h;exact absurd h (by decide))|(intro _;simp at h18 h22 h26;exact ⟨hb17 h18,hb21 h22,hb25 h26⟩)⟩,hf⟩
 ·refine cj_skip (K2 (sQ fun K5=>sQ fun K6=>cj_reg (jF 1 ru33 so9 (k:=jH 0 ag9 (k:=?_)))))
  refine j_val rfl (fun _ _ h=>r_slen ru9 rfl h) (jG (k:=K6 (CJ.t [(1,_),(10,_)] (k:=?_))))
  refine cj_dec rfl (fun _=>?_) (fun _=>?_)
  ·refine sQ fun K7=>cj_reg (jA (k:=K7 (cj_ret ?_)))
   exact ej_ret1 results9 rfl fun w' hH hf=>⟨⟨_,rfl,by first|(intro h;exact absurd h (by decide))|(intro _;simp at h18 h22 h26;exact ⟨hb17 h18,hb21 h22,hb25 h26⟩)⟩,hf⟩
  ·refine cj_skip (K5 (sQ fun K8=>sQ fun K9=>cj_reg (jF 2 ru33 so25 (k:=jH 0 ag25 (k:=?_)))))
   refine j_callQ (φ:=fun v=>∃b,v=.bool b∧(b=true→x.samples.length≤2147483647)) call20 rfl rfl (fun w hH hf=>zzFits4_c w _ _ (hs.keep (RSample.keep (hf.keepAll (.inr rfl))) (hf.keepAll (.inr rfl)))) ?_
   rintro _ ⟨b13,rfl,hb13⟩
   refine jU (k:=K9 ?_)
   refine cj_if rfl (fun _=>?_) (fun _=>?_)
   ·refine sQ fun K10=>cj_reg (jA (k:=K10 (cj_ret ?_)))
    exact ej_ret1 results9 rfl fun w' hH hf=>⟨⟨_,rfl,by first|(intro h;exact absurd h (by decide))|(intro _;simp at h18 h22 h26;exact ⟨hb17 h18,hb21 h22,hb25 h26⟩)⟩,hf⟩
   ·refine cj_skip (K8 (sQ fun K11=>sQ fun K12=>cj_reg (jF 3 ru33 so26 (k:=jH 0 ag26 (k:=?_)))))
    refine j_callQ (φ:=fun v=>∃b,v=.bool b∧(b=true→x.mappings.length≤2147483647)) call21 rfl rfl (fun w hH hf=>zzFits11_c w _ _ (hm.keep (RMapping.keep (hf.keepAll (.inr rfl))) (hf.keepAll (.inr rfl)))) ?_
    rintro _ ⟨b17,rfl,hb17⟩
    refine jU (k:=K12 (CJ.t [(1,_),(18,_)] (k:=?_)))
    refine cj_if rfl (fun h18=>?_) (fun h18=>?_)
    ·refine sQ fun K13=>cj_reg (jA (k:=K13 (cj_ret ?_)))
     exact ej_ret1 results9 rfl fun w' hH hf=>⟨⟨_,rfl,by first|(intro h;exact absurd h (by decide))|(intro _;simp at h18 h22 h26;exact ⟨hb17 h18,hb21 h22,hb25 h26⟩)⟩,hf⟩
    ·refine cj_skip (K11 (sQ fun K14=>sQ fun K15=>cj_reg (jF 4 ru33 so27 (k:=jH 0 ag27 (k:=?_)))))
     refine j_callQ (φ:=fun v=>∃b,v=.bool b∧(b=true→x.locs.length≤2147483647)) call22 rfl rfl (fun w hH hf=>zzFits13_c w _ _ (hll.keep (RLoc.keep (hf.keepAll (.inr rfl))) (hf.keepAll (.inr rfl)))) ?_
     rintro _ ⟨b21,rfl,hb21⟩
     refine jU (k:=K15 ?_)
     refine cj_if rfl (fun h22=>?_) (fun h22=>?_)
     ·refine sQ fun K16=>cj_reg (jA (k:=K16 (cj_ret ?_)))
      exact ej_ret1 results9 rfl fun w' hH hf=>⟨⟨_,rfl,by first|(intro h;exact absurd h (by decide))|(intro _;simp at h18 h22 h26;exact ⟨hb17 h18,hb21 h22,hb25 h26⟩)⟩,hf⟩
     ·refine cj_skip (K14 (sQ fun K17=>sQ fun K18=>cj_reg (jF 5 ru33 so28 (k:=jH 0 ag28 (k:=?_)))))
      refine j_callQ (φ:=fun v=>∃b,v=.bool b∧(b=true→x.funcs.length≤2147483647)) call23 rfl rfl (fun w hH hf=>zzFits15_c w _ _ (hfu.keep (RFunc.keep (hf.keepAll (.inr rfl))) (hf.keepAll (.inr rfl)))) ?_
      rintro _ ⟨b25,rfl,hb25⟩
      refine jU (k:=K18 (CJ.t [(1,_),(26,_)] (k:=?_)))
      refine cj_if rfl (fun h26=>?_) (fun h26=>?_)
      ·refine sQ fun K19=>cj_reg (jA (k:=K19 (cj_ret ?_)))
       exact ej_ret1 results9 rfl fun w' hH hf=>⟨⟨_,rfl,by first|(intro h;exact absurd h (by decide))|(intro _;simp at h18 h22 h26;exact ⟨hb17 h18,hb21 h22,hb25 h26⟩)⟩,hf⟩
      ·refine cj_skip (K17 (sQ fun K20=>sQ fun K21=>cj_reg (jF 6 ru33 so29 (k:=jH 0 ag29 (k:=?_)))))
       refine j_callQ (φ:=fun v=>∃b,v=.bool b∧(b=true→x.comments.length≤2147483647)) call24 rfl rfl (fun w hH hf=>zzFits8_c w _ _ (hcm.keep (RStr.keep (hf.keepAll (.inr rfl))) (hf.keepAll (.inr rfl)))) ?_
       rintro _ ⟨b29,rfl,hb29⟩
       refine jU (k:=K21 ?_)
       refine cj_if rfl (fun _=>?_) (fun _=>?_)
       ·refine sQ fun K22=>cj_reg (jA (k:=K22 (cj_ret ?_)))
        exact ej_ret1 results9 rfl fun w' hH hf=>⟨⟨_,rfl,by first|(intro h;exact absurd h (by decide))|(intro _;simp at h18 h22 h26;exact ⟨hb17 h18,hb21 h22,hb25 h26⟩)⟩,hf⟩
       ·refine cj_skip (K20 (sQ fun K23=>sQ fun K24=>cj_reg (jF 7 ru33 so9 (k:=jH 0 ag9 (k:=?_)))))
        refine j_val rfl (fun _ _ h=>r_slen ru9 rfl h) (jG (k:=K24 (CJ.t [(1,_),(34,_)] (k:=?_))))
        refine cj_dec rfl (fun _=>?_) (fun _=>?_)
        ·refine sQ fun K25=>cj_reg (jA (k:=K25 (cj_ret ?_)))
         exact ej_ret1 results9 rfl fun w' hH hf=>⟨⟨_,rfl,by first|(intro h;exact absurd h (by decide))|(intro _;simp at h18 h22 h26;exact ⟨hb17 h18,hb21 h22,hb25 h26⟩)⟩,hf⟩
        ·refine cj_skip (K23 (sQ fun K26=>sQ fun K27=>cj_reg (jF 8 ru33 so9 (k:=jH 0 ag9 (k:=?_)))))
         refine j_val rfl (fun _ _ h=>r_slen ru9 rfl h) (jG (k:=K27 ?_))
         refine cj_dec rfl (fun _=>?_) (fun _=>?_)
         ·refine sQ fun K28=>cj_reg (jA (k:=K28 (cj_ret ?_)))
          exact ej_ret1 results9 rfl fun w' hH hf=>⟨⟨_,rfl,by first|(intro h;exact absurd h (by decide))|(intro _;simp at h18 h22 h26;exact ⟨hb17 h18,hb21 h22,hb25 h26⟩)⟩,hf⟩
         ·refine cj_skip (K26 (sQ fun K29=>sQ fun K30=>cj_reg (jF 12 ru33 so31 (k:=?_))))
          refine j_valw rfl (fun a w ha hH hf=>r_ldA (vs:=[_,_]) 0 rfl rfl ag31 so31 rfl rfl rfl ha hH) ?_
          refine j_callQ (φ:=fun v=>∃b,v=.bool b) call25 rfl rfl (fun w hH hf=>zzFits3_c w _ x.per rfl) ?_
          rintro _ ⟨b41,rfl⟩
          refine jU (k:=K30 (CJ.t [(42,_)] (k:=?_)))
          refine cj_if rfl (fun _=>?_) (fun _=>?_)
          ·refine sQ fun K31=>cj_reg (jA (k:=K31 (cj_ret ?_)))
           exact ej_ret1 results9 rfl fun w' hH hf=>⟨⟨_,rfl,by first|(intro h;exact absurd h (by decide))|(intro _;simp at h18 h22 h26;exact ⟨hb17 h18,hb21 h22,hb25 h26⟩)⟩,hf⟩
          ·refine cj_skip (K29 (sQ fun K32=>cj_reg (jA (k:=K32 (cj_ret ?_)))))
           exact ej_ret1 results9 rfl fun w' hH hf=>⟨⟨_,rfl,by first|(intro h;exact absurd h (by decide))|(intro _;simp at h18 h22 h26;exact ⟨hb17 h18,hb21 h22,hb25 h26⟩)⟩,hf⟩
end Go.Proofs.YtffghbkcomlefaaGreatDoor
