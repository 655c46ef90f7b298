/-
  Part 4 of the proof. Conditions: as each lemma states them.
-/
import Derived.Test.YtifdadlhmlhfiaaGreatDoorX3
import Derived.Shelf.SlGeneric
import Derived.Shelf.SlSortCmp.WholeK
import Derived.Shelf.SlSortCmp.NoneTotal
import Derived.Ground.SlsfProg
import Derived.WideKeyArgs
import Derived.JoinedOf
import Derived.ChangeArms
import Derived.RowKit3
import Derived.Test.YtifdadlhmlhfiaaGreatDoorRows
namespace Go.Fw
open Go
variable {b:Nat} {w:World}
section
variable {P:Program} {n:Nat} {f:Fm} {e:Env} {d ty:Nat} {pos:String} {af:Array Edge}
theorem r_mlenT {t rt ck kt vt:Nat} {es:List MapEntry} {m:Operand} (hu:∀w,(underlying t).run P w=.ok (.map kt vt) w) (hm:ev e m=some (.map (some b))) {a:Act} (hb:w.heap[b]? =some (.map es.toArray ck)) (ha:Sat n e a):
  (execOp a.eval ⟨some d,.call ⟨.builtin .len, #[m], #[t]⟩,rt,pos,af,none⟩).run P w=.ok (.value (.int .i64 es.length)) w:=by
 simp only[execOp]
 simp[resolve,invoke,builtin,Builtin.len_,hu,goInt,ha.ev hm]
 simp[run_getObj hb rfl]
end
theorem OS.young {T sz:Nat} {w2 u w':World} {v:Value} {xs:List Value} {L:List Nat} (h:OS T sz w2 v xs) (k1:KeepX [] w2 u) (k2:KeepX L u w') (hL:∀c∈L,w2.heap.size≤c):OS T sz w' v xs:=h.mono fun b cs hb=>k2.blk (k1.blk hb (by simp)) fun hm=>by
 have h1:=hb.lt
 have h2:=hL b hm
 omega
theorem mem_rowL {y:Ent} (h:b∈rowL y):y.on=true∧b=y.b:=by
 unfold rowL at h
 split at h
 ·next ho=>exact ⟨ho,by simpa using h⟩
 ·cases h
theorem Hp.labs {m1 m2 ck1 ck2 T1 T2 l1 c1 l2 c2:Nat} {W:List Nat} {es1 es2:List MapEntry} {y1 y2:Ent} {p1 p2:Option Addr} {xs1 xs2:List Value} (h1:w.heap[m1]? =some (.map es1.toArray ck1)) (h2:w.heap[m2]? =some (.map es2.toArray ck2)) (hne:m1≠m2) (hO1:Own T1 1 y1 p1 l1 c1 xs1) (hO2:Own T2 1 y2 p2 l2 c2 xs2)
  (hy1:y1.on=true→Blk w y1.b T1 y1.cs) (hy2:y2.on=true→Blk w y2.b T2 y2.cs) (hT:T1≠T2) (hM:W.any (fun t=>Nat.beq t 1000000)=true) (hW1:W.any (fun t=>Nat.beq t T1)=true) (hW2:W.any (fun t=>Nat.beq t T2)=true):
  Hp ⟨w,0,W⟩ w (mpE m1 es1 ck1::mpE m2 es2 ck2::y1::y2::restH w ([m1,m2]++rowL y1++rowL y2)):=by
 have hx1:y1.ex=true→y1.on=true:=fun he=>by simpa[Ent.ex,hO1.ho]using he
 have hx2:y2.ex=true→y2.on=true:=fun he=>by simpa[Ent.ex,hO2.ho]using he
 have mb:∀{m b T ck:Nat} {es:List MapEntry} {cs:List Value},w.heap[m]? =some (.map es.toArray ck)→Blk w b T cs→b≠m:=fun {m b T ck es cs} hm hb e=>by
  have h3:w.heap[b]? =some (.cells cs.toArray T (0,0)):=hb
  rw[e,hm]at h3;cases h3
 refine ⟨⟨fun h=>(by cases h),fun o ho=>by cases ho;exact h1⟩,fun _ _=>.inr ⟨Nat.zero_le _,mem_of_any hM⟩,fun _ z hz hze=>?_,⟨fun h=>(by cases h),fun o ho=>by cases ho;exact h2⟩,fun _ _=>.inr ⟨Nat.zero_le _,mem_of_any hM⟩,fun _ z hz hze=>?_,
  ⟨fun ho=>?_,fun o ho=>by rw[hO1.ho]at ho;cases ho⟩,fun he _=>.inr ⟨Nat.zero_le _,by rw[hO1.tag];exact mem_of_any hW1⟩,fun he z hz hze=>?_,⟨fun ho=>?_,fun o ho=>by rw[hO2.ho]at ho;cases ho⟩,fun he _=>.inr ⟨Nat.zero_le _,by rw[hO2.tag];exact mem_of_any hW2⟩,fun he z hz hze=>?_,Hp.rest _⟩
 ·rcases List.mem_cons.1 hz with rfl|hz
  ·exact hne.symm
  rcases List.mem_cons.1 hz with rfl|hz
  ·exact mb h1 (hy1 (hx1 hze))
  rcases List.mem_cons.1 hz with rfl|hz
  ·exact mb h1 (hy2 (hx2 hze))
  ·exact rest_ne (by simp) z hz hze
 ·rcases List.mem_cons.1 hz with rfl|hz
  ·exact mb h2 (hy1 (hx1 hze))
  rcases List.mem_cons.1 hz with rfl|hz
  ·exact mb h2 (hy2 (hx2 hze))
  ·exact rest_ne (by simp) z hz hze
 ·rw[hO1.hT];exact hy1 ho
 ·rcases List.mem_cons.1 hz with rfl|hz
  ·exact ((hy1 (hx1 he)).ne (hy2 (hx2 hze)) hT).symm
  ·exact rest_ne (by simp[rowL,hx1 he]) z hz hze
 ·rw[hO2.hT];exact hy2 ho
 ·exact rest_ne (by simp[rowL,hx2 he]) z hz hze
end Go.Fw
namespace Go.Proofs.YtifdadlhmlhfiaaGreatDoor
open Go Go.Fw Go.Proofs Go.Proofs.Tryz
variable {y:Ent} {g:G} {z:Int} {es:List MapEntry} {W bs:List Nat} {cs:List Value} {B T b c ck j l m mb o:Nat} {p:Option Addr} {v:Value} {u w w' w0:World}
theorem lab_round {α β:Type} {T1 T2:Nat} {e1:α→Value} {e2:β→Value} {w2:World} {m1 m2:Nat} {f1:ByteArray→List α} {f2:ByteArray→List β} {ms1 ms2:List (ByteArray×Value)} {es1 es2 es':List MapEntry} {ck1 ck2 ck':Nat} {row1 row2:ByteArray→Ent} {k:ByteArray} {v:α} {y1 y2 y8:Ent} {p8:Option Addr} {c8:Nat} {L:List Nat}
  (h1:LMd T1 e1 w2.heap.size u m1 f1 ms1 es1 ck1 row1) (h2:LMd T2 e2 w2.heap.size u m2 f2 ms2 es2 ck2 row2) (hT:T1≠T2) (hm1:w2.heap.size≤m1) (hm2:w2.heap.size≤m2) (hku:KeepX [] w2 u)
  (hy1:y1.on=true→Blk u y1.b T1 y1.cs∧w2.heap.size≤y1.b) (hn1:∀k' v',mget ms1 k'=some v'→k'≠k→y1.on=true→(row1 k').b≠y1.b) (hy2:y2.on=true→Blk u y2.b T2 y2.cs∧w2.heap.size≤y2.b)
  (hL:∀c∈L,c=m1∨c=m2∨(y1.on=true∧c=y1.b)∨(y2.on=true∧c=y2.b)) (kk:KeepX L u w')
  (o1:w'.heap[m1]? =some (.map es'.toArray ck')) (o2:w'.heap[m2]? =some (.map es2.toArray ck2)) (b2:y2.on=true→Blk w' y2.b T2 y2.cs)
  (hM':MEnc Value.string (mset ms1 k (.slice p8 ((f1 k).length+1) c8)) es' ck') (hO8:Own T1 1 y8 p8 ((f1 k).length+1) c8 ((f1 k).map e1++[e1 v])) (b8:Blk w' y8.b T1 y8.cs) (hr8:(y1.on=true∧y8.b=y1.b)∨u.heap.size≤y8.b):
  KeepX [] w2 w'∧LM T1 e1 w2.heap.size w' m1 (fun j=>if k=j then f1 j++[v] else f1 j)∧LM T2 e2 w2.heap.size w' m2 f2:=by
 have mb:∀{m b T ck:Nat} {es:List MapEntry} {cs:List Value},u.heap[m]? =some (.map es.toArray ck)→Blk u b T cs→b≠m:=fun {m b T ck es cs} hm hb e=>by
  have h3:u.heap[b]? =some (.cells cs.toArray T (0,0)):=hb
  rw[e,hm]at h3;cases h3
 refine ⟨hku.more kk fun q hq=>.inr ?_,h1.step k v hy1 hn1 hku.size o1 hM' hO8 b8 hr8 fun k' v' hk' hne hb=>kk.blk hb fun hm=>?_,⟨_,_,_,_,h2.keep o2 fun b cs hB hb=>?_⟩⟩
 ·rcases hL q hq with rfl|rfl|⟨h3,rfl⟩|⟨h3,rfl⟩
  ·exact hm1
  ·exact hm2
  ·exact (hy1 h3).2
  ·exact (hy2 h3).2
 ·rcases hL _ hm with e|e|⟨h3,e⟩|⟨h3,e⟩
  ·exact mb h1.hm hb e
  ·exact mb h2.hm hb e
  ·exact hn1 k' v' hk' hne h3 e
  ·exact (hb.ne (hy2 h3).1 hT) e
 ·by_cases hx:y2.on=true∧b=y2.b
  ·obtain ⟨h3,rfl⟩:=hx
   rw[Blk.same' hb (hy2 h3).1];exact b2 h3
  ·refine kk.blk hb fun hm=>?_
   rcases hL _ hm with e|e|⟨h3,e⟩|⟨h3,e⟩
   ·exact mb h1.hm hb e
   ·exact mb h2.hm hb e
   ·exact (hb.ne (hy1 h3).1 hT.symm) e
   ·exact hx ⟨h3,e⟩
theorem LM.congr {α:Type} {enc:α→Value} {f f':ByteArray→List α} (h:LM T enc B w mb f) (e:∀k,f k=f' k):LM T enc B w mb f':=by
 have:f=f':=funext e
 subst this;exact h
theorem keyT_text {es:List LE} {v:ByteArray} (h:j<es.length) (hv:es[j].2.1=some v) (k:ByteArray):(if es[j].1=k then keyT (es.take j) k++[v] else keyT (es.take j) k)=keyT (es.take (j+1)) k:=by
 rw[← List.take_append_getElem h]
 unfold keyT
 rw[List.filterMap_append]
 by_cases e:es[j].1=k
 ·simp[e,hv]
 ·simp[e]
theorem keyN_text {es:List LE} {v:ByteArray} (h:j<es.length) (hv:es[j].2.1=some v) (k:ByteArray):keyN (es.take j) k=keyN (es.take (j+1)) k:=by
 rw[← List.take_append_getElem h]
 unfold keyN
 rw[List.filterMap_append]
 simp[hv]
theorem keyN_num {es:List LE} (h:j<es.length) (hv:es[j].2.1=none) (k:ByteArray):(if es[j].1=k then keyN (es.take j) k++[es[j].2.2] else keyN (es.take j) k)=keyN (es.take (j+1)) k:=by
 rw[← List.take_append_getElem h]
 unfold keyN
 rw[List.filterMap_append]
 by_cases e:es[j].1=k
 ·simp[e,hv]
 ·simp[e]
theorem keyT_num {es:List LE} (h:j<es.length) (hv:es[j].2.1=none) (k:ByteArray):keyT (es.take j) k=keyT (es.take (j+1)) k:=by
 rw[← List.take_append_getElem h]
 unfold keyT
 rw[List.filterMap_append]
 simp[hv]
theorem keyT_len (es:List LE) (k:ByteArray):(keyT es k).length≤es.length:=List.length_filterMap_le ..
theorem keyN_len (es:List LE) (k:ByteArray):(keyN es k).length≤es.length:=List.length_filterMap_le ..
theorem LM.none {α:Type} {enc:α→Value} {f:ByteArray→List α} (h:LM T enc B w mb f) (hm:w.heap[mb]? =some (.map es.toArray ck)) (he:es.length=0):∀k,f k=[]:=fun k=>by
 obtain ⟨ms,es',ck',row,h⟩:=h
 have h1:=h.hm
 rw[hm]at h1
 have h2:es=es':=by simpa using (Obj.map.inj (Option.some.inj h1)).1
 have h3:=h.hM.length
 have h4:ms=[]:=List.length_eq_zero_iff.1 (by rw[← h3, ← h2];exact he)
 exact h.no k (by rw[h4];rfl)
structure OfQ (B:Nat) (w:World) (x:PProf) (g:G):Prop where
  prof:∃ty sa ma lo fu co,Blk w g.pb tProf (cProf x ty sa ma lo fu co g.per)∧OS pVT 1 w ty (g.types.map ptr)∧OS pSam 1 w sa (g.sams.map ptr)∧OS pMap 1 w ma (g.maps.map ptr)∧OS pLoc 1 w lo (g.locs.map ptr)∧OS pFun 1 w fu (g.funs.map ptr)∧OS tStr 1 w co (x.comments.map .string)
  per:Blk w g.per tVT (cVT x.per)
  types:Each g.types x.types fun b t=>Blk w b tVT (cVT t)
  maps:Each g.maps x.mappings fun b m=>Blk w b tMap (cMap m)
  funs:Each g.funs x.funcs fun b f=>Blk w b tFun (cFun f)
  locs:Each g.locs x.locs (LocP w g.maps g.funs)
  sams:Each g.sams x.samples (SamQ w g.locs)
  ntypes:(g.per::g.types).Nodup
  nmaps:g.maps.Nodup
  nfuns:g.funs.Nodup
  nlocs:g.locs.Nodup
  nsams:g.sams.Nodup
  fresh:B≤g.pb∧B≤g.per∧(∀b∈g.types,B≤b)∧(∀b∈g.maps,B≤b)∧(∀b∈g.funs,B≤b)∧(∀b∈g.locs,B≤b)∧∀b∈g.sams,B≤b
  rows:∀b∈g.locs,RowGe B w b
theorem fr_mapE (h:Fr B W w w') (hT:W.all (fun t=> !Nat.beq t 1000000)=true):∀(es:Array MapEntry) (ck:Nat),w.heap[b]? =some (.map es ck)→w'.heap[b]? =some (.map es ck):=fun es ck hb=>fr_map h hT es ck hb
theorem tn_two {es:Array MapEntry} (h1:w0.heap.size≤m) (h2:u.heap[m]? =some (.map es ck)):Tn w0 u b [b,m]:=fun c hc=>by
  rcases List.mem_cons.1 hc with rfl|hc
  · exact .inl rfl
  · rw[List.mem_singleton]at hc;subst hc
    exact .inr ⟨h1,es,ck,h2⟩
theorem OS.openS {sz:Nat} {xs:List Value} (h:OS T sz w (.slice p l c) xs):0<l→∃b,p=some ⟨b,0,none⟩∧∀f:Fm,f.ws=w→f.W.all (fun t=> !Nat.beq t T)=true→∀w',f.ok w'→∀(j:Nat) (u:Value),xs[j]? =some u→w'.cell? ⟨b,j,none⟩=some u:=by
  obtain ⟨p',l',c',h1, -, -,h4⟩:=h.openF
  cases h1;exact h4
theorem nin_row {a:Nat} (h1:a≠b) (h2:y.on=true→a≠y.b):a∉[b]++rowL y:=fun hm=>by
  rcases List.mem_append.1 hm with hm|hm
  · exact h1 (by simpa using hm)
  · unfold rowL at hm
    split at hm
    · next ho=>exact h2 ho (by simpa using hm)
    · cases hm
theorem rows4 {los:List Nat} (h1:w0.heap.size≤m) (h2:u.heap[m]? =some (.map es.toArray ck)) (hy:y.on=true→Blk u y.b tLine y.cs∧LP B los b y.b):
    ∀c∈([b]++rowL y)++[m],c≠b→(w0.heap.size≤c∧∃es ck,u.heap[c]? =some (.map es ck))∨(c=y.b∧(∃ds,Blk u c tLine ds)∧B≤c∧b≤c∧∀b'∈los,b<b'→c<b'):=fun c hc hne=>by
  rcases List.mem_append.1 hc with hc|hc
  · rcases List.mem_append.1 hc with hc|hc
    · exact absurd (by simpa using hc) hne
    · unfold rowL at hc
      split at hc
      · next ho=>
        simp at hc;subst hc
        obtain ⟨h3,h4,h5,h6⟩:=hy ho
        exact .inr ⟨rfl,⟨_,h3⟩,h4,h5,h6⟩
      · cases hc
  · simp at hc;subst hc
    exact .inl ⟨h1,_,_,h2⟩
theorem setL_one_len:(setL cs o [v]).length=cs.length:=by
  have:setL cs o [v]=cs.set o v:=by simp only[setL]
  rw[this,List.length_set]
theorem cell_set (h:Blk w b T (setL cs o [v])) (ho:o<cs.length):w.cell? ⟨b,o,none⟩=some v:=by
  rw[h.cell,setL_get ho,if_pos rfl]
theorem lnsA_put {x:PProf} {funs:List Nat} {ls:List PLine} {fb:Nat} (h:j<ls.length) (hfb:ptrAt funs ls[j].fn=ptr fb) (hO:Own tLine 3 y p l c (lnsA x funs ls j)) (hl:j*3+2<(lnsA x funs ls j).length):
    Own tLine 3 ⟨y.b,y.T,setL (setL y.cs (0+j*3+0) [ptr fb]) (0+j*3+2) [.int .u64 0],true,true,none⟩ p l c (lnsA x funs ls (j+1)):=by
  have h1:=hO.put (o:=j*3) (v:=ptr fb) (by omega)
  have h2:=h1.put (o:=j*3+2) (v:=.int .u64 0) (by rw[List.length_set];exact hl)
  rw[← hfb,lnsA_set h,hfb]at h2
  simpa using h2
theorem tn_one {L:List Nat} (h:L=[b]):Tn w0 u b L:=fun c hc=>by subst h;exact .inl (by simpa using hc)
theorem map_neB {es:Array MapEntry} (h:w.heap[m]? =some (.map es ck)) (hb:Blk w b T cs):m≠b:=fun e=>by
  have h3:w.heap[b]? =some (.cells cs.toArray T (0,0)):=hb
  rw[← e,h]at h3;cases h3
theorem lab_L {a:Nat} {z:Ent}:∀c∈[a,b]++rowL y++rowL z,c=a∨c=b∨(y.on=true∧c=y.b)∨(z.on=true∧c=z.b):=fun c hc=>by
  rcases List.mem_append.1 hc with hc|hc
  · rcases List.mem_append.1 hc with hc|hc
    · simp at hc
      rcases hc with h|h
      · exact .inl h
      · exact .inr (.inl h)
    · exact .inr (.inr (.inl (mem_rowL hc)))
  · exact .inr (.inr (.inr (mem_rowL hc)))
theorem lab_sw {p q r t:Prop} (h:p∨q∨r∨t):q∨p∨t∨r:=by
  rcases h with h|h|h|h
  · exact .inr (.inl h)
  · exact .inl h
  · exact .inr (.inr (.inr h))
  · exact .inr (.inr (.inl h))
theorem lbq_text {T:List ByteArray} {q:Int×Int×Int} {e:LE} (h:match e.2.1 with|some v=>q.2.1≠0∧At T q.2.1 v|none=>q.2.1=0∧q.2.2=e.2.2) (hq:q.2.1≠0):∃v,e.2.1=some v∧At T q.2.1 v:=by
  cases hv:e.2.1 with
  |none=>rw[hv]at h;exact absurd h.1 hq
  |some v=>rw[hv]at h;exact ⟨v,rfl,h.2⟩
theorem lbq_num {T:List ByteArray} {q:Int×Int×Int} {e:LE} (h:match e.2.1 with|some v=>q.2.1≠0∧At T q.2.1 v|none=>q.2.1=0∧q.2.2=e.2.2) (hq:q.2.1=0):e.2.1=none∧q.2.2=e.2.2:=by
  cases hv:e.2.1 with
  |none=>rw[hv]at h;exact ⟨rfl,h.2⟩
  |some v=>rw[hv]at h;exact absurd hq h.1
theorem LM.fr {α:Type} {enc:α→Value} {f:ByteArray→List α} (h:LM T enc B w mb f) (k:Fr 0 [] w w'):LM T enc B w' mb f:=by
  obtain ⟨ms,es,ck,row,h⟩:=h
  exact ⟨ms,es,ck,row,h.keep (fr_mapE k rfl _ _ h.hm) fun b cs _ hb=>k.blk hb (.inr (by simp))⟩
theorem LM.map {α:Type} {enc:α→Value} {f:ByteArray→List α} (h:LM T enc B w mb f):∃ck es,w.heap[mb]? =some (.map (List.toArray es) ck):=by
  obtain ⟨ms,es,ck,row,h⟩:=h
  exact ⟨ck,es,h.hm⟩
theorem Hp.pair {b2 T2:Nat} {cs2:List Value} (hb:Blk w b T cs) (hb2:Blk w b2 T2 cs2) (hne:T≠T2) (hT:W.any (fun t=>Nat.beq t T)=true) (hT2:W.any (fun t=>Nat.beq t T2)=true):Hp ⟨w,0,W⟩ w (⟨b,T,cs,true,true,none⟩::⟨b2,T2,cs2,true,true,none⟩::restH w [b,b2]):=by
  refine ⟨⟨fun _=>hb,fun o ho=>by cases ho⟩,fun _ _=>.inr ⟨Nat.zero_le _,mem_of_any hT⟩,fun _ z hz hze=>?_,⟨fun _=>hb2,fun o ho=>by cases ho⟩,fun _ _=>.inr ⟨Nat.zero_le _,mem_of_any hT2⟩,fun _=>rest_ne (by simp),Hp.rest _⟩
  rcases List.mem_cons.1 hz with rfl|hz
  · exact ((hb.ne hb2 hne)).symm
  · exact rest_ne (by simp) z hz hze
theorem LocQ.row {l:PLoc} (h:LocQ B w g b l):RowGe B w b:=by
  obtain ⟨p,c,h1,y,h2,h3⟩:=h
  refine ⟨_,h1,fun rb n c' e=>?_⟩
  have e2:Value.slice p l.lines.length c=.slice (some ⟨rb,0,none⟩) n c':=by simpa[cLoc]using e
  cases e2
  obtain ⟨-, -,h4⟩:=h2.sl
  rcases h4 with ⟨h5,h6, -⟩|⟨-,h6, -⟩
  · have e3:rb=y.b:=by simpa using h6
    rw[e3];exact (h3 h5).2.1
  · cases h6
theorem Hp.freshT {x:Ent} {H:Heap} (h:Hp ⟨w0,B,W⟩ w (x::H)) (he:x.ex=true) (hw:x.wr=true) (hT:W.all (fun t=> !Nat.beq t x.tag)=true):w0.heap.size≤x.b:=by
  rcases h.mayx (List.Mem.head _) he hw with h|⟨-,h⟩
  · exact h
  · exact absurd h (not_mem_of_all hT)
theorem per_old {T:List ByteArray} {x:PProf} {pp:Option Addr} (h:RawP B T x g (.pointer pp) w) (hn:pp.isNone=false):pp=some ⟨g.per,0,none⟩∧rVT T w g.per x.per∧B≤g.per∧g.per∉g.types:=by
  rcases h.per with ⟨e, -⟩|⟨e,h1⟩
  · cases e;cases hn
  · exact ⟨by simpa using e,h1⟩
theorem per_keep {T:List ByteArray} {x:PProf} {wA v':World} {n1 n2 n3 n4 n5:Nat} (h:rVT T w g.per x.per) (hQ:QS B w T x g n1 n2 n3 n4 n5 wA) (hnt:g.per∉g.types) (k:KeepX [g.pb] wA v') (hp:Blk wA g.pb tProf cs):∃n m,Blk v' g.per tVT [.string eB,.string eB,.int .i64 n,.int .i64 m]∧At T n x.per.ty∧At T m x.per.unit:=by
  obtain ⟨n,m,h1,h2,h3⟩:=h
  have h4:=hQ.pe _ hnt h1
  exact ⟨n,m,k.blk h4 (by simpa using h4.ne hp (by decide)),h2,h3⟩
theorem per_new {T:List ByteArray} {x:PProf} {wA v':World} {pp:Option Addr} {p9:Nat} (h:RawP B T x g (.pointer pp) w) (hpb:B≤g.pb) (hz:T[0]? =some eB) (hn:pp.isNone=true) (hQ:QS B w T x g x.types.length x.samples.length x.mappings.length x.locs.length x.funcs.length wA) (hf:wA.heap.size≤p9) (hb:Blk v' p9 tVT [.string eB,.string eB,.int .i64 0,.int .i64 0]):
    (∃n m,Blk v' p9 tVT [.string eB,.string eB,.int .i64 n,.int .i64 m]∧At T n x.per.ty∧At T m x.per.unit)∧B≤p9∧p9∉g.types:=by
  have e:x.per=⟨eB,eB⟩:=by
    rcases h.per with ⟨-,e⟩|⟨e, -⟩
    · exact e
    · cases e;cases hn
  have hs:=hQ.fr.size
  refine ⟨⟨0,0,hb,by rw[e];exact ⟨0,rfl,hz⟩,by rw[e];exact ⟨0,rfl,hz⟩⟩,?_,fun hm=>?_⟩
  · have h1:g.pb<w.heap.size:=by obtain ⟨_,_,_,_,_,_,_,_,_,_,_,_,_,_,_,_,_,_,h1, -⟩:=h.prof;exact h1.lt
    omega
  · have h2:=Each.all ((hQ.pt.full h.types.1 (Nat.le_refl _)).mono (ψ:=fun b _=>b<wA.heap.size) fun b t hh=>Blk.lt hh) _ hm
    omega
theorem ofq_end {T:List ByteArray} {x:PProf} {wA v8:World} {vp ty sa ma lo fu co:Value} {p9:Nat} {cs8 cv:List Value} (hR:RawP B T x g vp w) (hpb:B≤g.pb) (hty:OS pVT 1 w ty (g.types.map ptr)) (hsa:OS pSam 1 w sa (g.sams.map ptr)) (hma:OS pMap 1 w ma (g.maps.map ptr)) (hlo:OS pLoc 1 w lo (g.locs.map ptr)) (hfu:OS pFun 1 w fu (g.funs.map ptr))
    (hQ:QS B w T x g x.types.length x.samples.length x.mappings.length x.locs.length x.funcs.length wA) (hp:Blk wA g.pb tProf cs) (hk8:KeepX [g.pb] wA v8) (hp8:Blk v8 g.pb tProf cs8) (hv8:Blk v8 p9 tVT cv) (hB9:B≤p9) (hnt:p9∉g.types) (k:KeepX [g.pb,p9] v8 w') (hb:Blk w' g.pb tProf (cProf x ty sa ma lo fu co p9)) (hco:OS tStr 1 w' co (x.comments.map .string)) (hv:Blk w' p9 tVT (cVT x.per)):
    OfQ B w' x ⟨g.pb,p9,g.types,g.maps,g.funs,g.locs,g.sams⟩∧Fr B (tProf::wP) w w':=by
  have hfr1:Fr B (tProf::wP) w v8:=frK (hQ.fr.mono (.inr ⟨Nat.le_refl _,fun _ h=>List.mem_cons_of_mem _ h⟩)) hk8 fun b hm=>by
    simp at hm;subst hm;exact .inr ⟨hpb,tag_row hp (List.Mem.head _)⟩
  have hfr:Fr B (tProf::wP) w w':=frK hfr1 k fun b hm=>by
    rcases List.mem_cons.1 hm with rfl|hm
    · exact .inr ⟨hpb,tag_row hp8 (List.Mem.head _)⟩
    · simp at hm;subst hm;exact .inr ⟨hB9,tag_row hv8 (by decide)⟩
  have kr:=fun {T0:Nat} (hT:(tProf::wP).all (fun t=> !Nat.beq t T0)=true)=>fr_row hfr hT
  have k8:∀(T0:Nat),T0≠tProf→T0≠tVT→∀b ds,Blk wA b T0 ds→Blk w' b T0 ds:=fun T0 h1 h2 b ds hb=>by
    have h3:=hk8.blk hb (by simpa using hb.ne hp h1)
    refine k.blk h3 fun hm=>?_
    rcases List.mem_cons.1 hm with e|hm
    · exact (hb.ne hp h1) e
    · exact (h3.ne hv8 h2) (by simpa using hm)
  have km:∀(b:Nat) (es:Array MapEntry) (ck:Nat),wA.heap[b]? =some (.map es ck)→w'.heap[b]? =some (.map es ck):=fun b es ck h=>by
    have h3:=hk8.keep _ _ h (by simpa using map_neB h hp)
    refine k.keep _ _ h3 fun hm=>?_
    rcases List.mem_cons.1 hm with e|hm
    · exact (map_neB h hp) e
    · exact (map_neB h3 hv8) (by simpa using hm)
  have hT:=hQ.pt.full hR.types.1 (Nat.le_refl _)
  have hL:=hQ.pl.full hR.locs.1 (Nat.le_refl _)
  have hL':Each g.locs x.locs (LocQ B w' g):=hL.mono fun b l hh=>hh.mono (k8 _ (by decide) (by decide) b) fun r ds _=>k8 _ (by decide) (by decide) r ds
  refine ⟨⟨⟨ty,sa,ma,lo,fu,co,hb,hty.mono (kr rfl),hsa.mono (kr rfl),hma.mono (kr rfl),hlo.mono (kr rfl),hfu.mono (kr rfl),hco⟩,hv,⟨hT.1,fun i b t hbi ht=>?_⟩,(hQ.pm.full hR.maps.1 (Nat.le_refl _)).mono fun b m hh=>k8 _ (by decide) (by decide) _ _ hh,(hQ.pf.full hR.funs.1 (Nat.le_refl _)).mono fun b m hh=>k8 _ (by decide) (by decide) _ _ hh,hL'.mono fun b l hh=>hh.p,
    (hQ.ps.full hR.sams.1 (Nat.le_refl _)).mono fun b s hh=>hh.mono (k8 _ (by decide) (by decide) b) (k8 _ (by decide) (by decide)) (k8 _ (by decide) (by decide)) (k8 _ (by decide) (by decide)) km,List.nodup_cons.2 ⟨hnt,hR.ntypes⟩,hR.nmaps,hR.nfuns,hR.nlocs,hR.nsams,⟨hpb,hB9,hR.fresh⟩,Each.all (hL'.mono (ψ:=fun b _=>RowGe B w' b) fun b l hh=>hh.row)⟩,hfr⟩
  have h1:=hT.2 i b t hbi ht
  have hne:b≠p9:=fun e=>hnt (e▸List.mem_of_getElem? hbi)
  have h2:Blk v8 b tVT (cVT t):=hk8.blk h1 (by simpa using Blk.ne h1 hp (by decide))
  exact k.blk h2 fun hm=>by
    rcases List.mem_cons.1 hm with e|hm
    · exact (Blk.ne h1 hp (by decide)) e
    · exact hne (by simpa using hm)
theorem nin_two {a:Nat} (h1:a≠b) (h2:a≠c):a∉[b,c]:=by simp[h1,h2]
set_option maxHeartbeats 4000000 in
theorem postDecode_c (B:Nat) (w:World) (x:PProf) (T:List ByteArray) (g:G) (vp:Value) (hR:RawP B T x g vp w) (hx:WellP x) (hpb:B≤g.pb) (hl:T.length≤1000000000) (hz:T[0]? =some eB):Calls Tryz.prog 89 #[ptr g.pb] w (Ret fun v w'=>v=.nilIface∧∃g',g'.pb=g.pb∧OfQ B w' x g'∧Fr B (tProf::wP) w w'):=by
  obtain ⟨p1,c1,p2,c2,p3,c3,p4,c4,p5,c5,p6,c6,p7,c7,cx,dx,kx,sx,hpf,hty,hsa,hma,hlo,hfu,htab,hcom,hcx,hdx,hkx,hsx⟩:=hR.prof
  have hx1:=OS.openS hty
  have hx2:=OS.openS hsa
  have hx3:=OS.openS hma
  have hx4:=OS.openS hlo
  have hx5:=OS.openS hfu
  have hc0:=mc (f:=⟨w,0,[]⟩) hpf rfl
  have hn1:=hx.ntyp
  have hn2:=hx.nsam
  have hn6:=hx.ncom
  have hn3:=hx.tab.m.2.2
  have hn5:=hx.tab.f.2.2
  have hn4:=hx.tab.l.2.2
  simp only[List.length_map]at hn3 hn4 hn5
  refine startJ (args:=[_]) [(0,_)] 0 [] [] func89 rfl ntmps89 rfl rfl .nil ?_
  refine sQ fun K1=>cj_reg (jA (k:=K1 ?_))
  refine cj_seqF fun K2 hK2=>cj_reg (jA (k:=j_nil (ej_then (hK2 _ _ _ (sQ fun K3=>cj_reg ?_)))))
  refine j_mkmap (fun _ h=>by cases h) rfl fun b33=>?_
  refine jA (k:=K3 (sQ fun K4=>sQ fun K5=>cj_reg (jM (k:=jN (k:=jF 3 ru125 so120 (k:=jL ag120 hc0 3 (k:=jE ru120 (k:=jM (k:=K5 (CJ.t [(0,_),(3,_),(4,_),(37,_),(38,_),(39,_)] (k:=cj_block ?_)))))))))))
  intro v3 hH3' hf3'
  have hQ0:QS B w T x g 0 0 0 0 0 v3:=QS.init hR hf3'
  have hM0:MapId v3 b33 [] []:=⟨[],_,hH3'.obj (i:=0) rfl rfl,MEnc.nil'⟩
  have hm1F:w.heap.size≤b33:=hH3'.freshX (i:=0) rfl rfl rfl
  clear hH3'
  refine c_loop (σ:=Nat) (fun s=>[(0,ptr g.pb),(3,.nilIface),(4,.map (some b33)),(37,.slice p3 x.mappings.length c3),(38,.int .i64 (x.mappings.length:Nat)),(39,.int .i64 (s:Nat))])
    (fun s w'=>s≤x.mappings.length∧QS B w T x g 0 0 s 0 0 w'∧MapId w' b33 ((x.mappings.map (·.id)).take s) (g.maps.take s)) (fun s=>x.mappings.length - s) 0 sR ⟨Nat.zero_le _,hQ0,hM0⟩ ?_
  rintro k3 u3 ⟨hk3,hP3,hI3⟩ KL3 hKL3
  try dsimp only at hk3 hP3 hI3
  have hc0:=mc (f:=⟨u3,0,[]⟩) (fr_row hP3.fr rfl _ _ hpf) rfl
  refine C.begin ⟨u3,0,[]⟩ [] ok_refl .nil ?_
  try dsimp only
  refine sQ fun K6=>cj_reg (jS (k:=K6 (sQ fun K7=>?_)))
  refine cj_dec rfl (fun h40=>?_) (fun h40=>?_)
  · have hk':k3<x.mappings.length:=by omega
    obtain ⟨bq,rfl,hsq⟩:=hx3 (by omega)
    have hkb:k3<g.maps.length:=by rw[hR.maps.1];exact hk'
    have hbe:g.maps[k3]? =some g.maps[k3]:=List.getElem?_eq_getElem hkb
    have hxe:x.mappings[k3]? =some x.mappings[k3]:=List.getElem?_eq_getElem hk'
    have hxm:x.mappings[k3]∈x.mappings:=List.getElem_mem hk'
    have hbm:g.maps[k3]∈g.maps:=List.getElem_mem hkb
    obtain ⟨nf,nb,hst,hat1,hat2⟩:=(hP3.pm _ _ _ hbe hxe).2 (Nat.le_refl _)
    obtain ⟨es,ck,hmap,hM⟩:=hI3.ex
    have hcell:=osCellX (k:=k3) (v:=ptr g.maps[k3]) (W1:=[tMap,1000000]) hP3.fr rfl rfl hsq (by simp[hkb])
    have hc0:=mc (f:=⟨u3,0,[tMap,1000000]⟩) (fr_row hP3.fr rfl _ _ hpf) rfl
    have htU:OS tStr 1 u3 (.slice p6 T.length c6) (T.map .string):=htab.mono (fr_row hP3.fr rfl)
    refine CJ.turnW (W:=[tMap,1000000]) (Hp.rowMap hst hmap rfl rfl) ?_
    refine cj_skip (K7 (sQ fun K8=>cj_block (sQ fun K9=>cj_reg (jJ ru120 so128 (k:=jL ag128 hcell 0 (k:=jA (k:=K9 (sQ fun K10=>?_))))))))
    refine cj_drawI 17 (lts [0,1,2,3,4,5,6,7,8]++(9,false)::(lts [10,11,12,13,14]++(15,false)::lts [16])) [] rfl (by kernel_rfl) (by kernel_rfl) (dM [] (k:=dM [] (k:=dN [] (k:=dF [] 16 ru125 so27 (k:=dL [] ag27 hc0 16 (k:=dM [] (k:=dN [] (k:=dF [] 10 ru130 so2 (k:=dM [] (k:=dE (h:=fun Kd=>?_)))))))))))
    refine j_getS 0 rfl rfl rfl rfl rfl hat1 htU rfl rfl hl rfl rfl ?_
    refine Kd (sb []) (dM [] (k:=?_))
    refine dj_val rfl rfl (sub_of [] rfl) (fun _ _ h=>r_extract rfl rfl h) (dj_val rfl rfl (sub_of [] rfl) (fun _ _ h=>r_extract rfl rfl h) (dN [] (k:=dF [] 4 ru130 so9 (k:=dE (h:=fun Kd=>jB [_,_,_,_,_,_,_,_,_,_,_,_] (_::_::_) 0 so9 (k:=Kd (sb []) (dA [] (k:=K10 (CJ.t [(0,_),(3,_),(4,_),(6,_),(37,_),(38,_),(39,_)] (k:=sQ fun K11=>?_))))))))))
    refine cj_drawI 17 (lts [0,1,2,3,4,5,6,7,8]++(9,false)::(lts [10,11,12,13,14]++(15,false)::lts [16])) [] rfl (by kernel_rfl) (by kernel_rfl) (dM [] (k:=dM [] (k:=dN [] (k:=dF [] 16 ru125 so27 (k:=dL [] ag27 hc0 16 (k:=dM [] (k:=dN [] (k:=dF [] 11 ru130 so2 (k:=dM [] (k:=dE (h:=fun Kd=>?_)))))))))))
    refine j_getS 0 rfl rfl rfl rfl rfl hat2 htU rfl rfl hl rfl rfl ?_
    refine Kd (sb []) (dM [] (k:=?_))
    refine dj_val rfl rfl (sub_of [] rfl) (fun _ _ h=>r_extract rfl rfl h) (dj_val rfl rfl (sub_of [] rfl) (fun _ _ h=>r_extract rfl rfl h) (dN [] (k:=dF [] 5 ru130 so9 (k:=dE (h:=fun Kd=>jB [_,_,_,_,_,_,_,_,_,_,_,_] (_::_::_) 0 so9 (k:=Kd (sb []) (dA [] (k:=K11 (CJ.t [(0,_),(3,_),(4,_),(6,_),(37,_),(38,_),(39,_)] (k:=cj_reg (jM (k:=jM (k:=jN (k:=?_))))))))))))))
    refine jF 0 ru130 so71 (k:=jH 0 ag71 (k:=jM (k:=?_)))
    refine j_mapupd 1 rfl ru180 (keyT_int ru71) hM rfl rfl rfl (fun w hH hf=>⟨fun _ _=>trivial,trivial⟩) fun es' ck' hM'=>?_
    refine K8 (cj_reg (jI (k:=jM (k:=j_nil (ej_then ?_)))))
    exact fun w' hH hf=>hKL3 (k3+1) _ w' ⟨hk',hP3.s3 (L:=[g.maps[k3],b33]) hR.nmaps hbe hxe (hR.fresh.2.1 _ hbm) hst (Hp.keepX (l:=[g.maps[k3],b33]) hH.2.2.2.2.2.2 hf) (tn_two hm1F hmap) (hH.get (i:=0) rfl rfl),MapId.step (ids:=x.mappings.map (·.id)) (id:=x.mappings[k3].id) (by simpa using hR.maps.1) hx.tab.m.2.1 (by simp[hk']) hbe (hH.obj (i:=1) rfl rfl) hM'⟩ (by first|omega|(simp only;omega)) ⟨rfl,rfl,rfl,rfl,rfl,rfl,trivial⟩
  · have hke3:k3=x.mappings.length:=by omega
    subst hke3
    rw[List.take_of_length_le (by simp),List.take_of_length_le (by rw[hR.maps.1];exact Nat.le_refl _)]at hI3
    clear hKL3 hk3 h40
    refine cj_exit (K4 (sQ fun K12=>cj_reg ?_))
    refine j_mkmap (fun _ h=>by cases h) rfl fun b80=>?_
    refine jA (k:=K12 (CJ.t [(0,_),(3,_),(4,_),(7,_)] (k:=sQ fun K13=>sQ fun K14=>cj_reg (jM (k:=jN (k:=jF 5 ru125 so122 (k:=jL ag122 hc0 5 (k:=jE ru122 (k:=jM (k:=K14 (cj_block ?_)))))))))))
    intro v5 hH5' hf5'
    have hQ5:=hP3.keep (KeepX.of hf5')
    have hI3':=hI3.keep (fr_mapE hf5' rfl)
    have hM0:MapId v5 b80 [] []:=⟨[],_,hH5'.obj (i:=0) rfl rfl,MEnc.nil'⟩
    have hm2:u3.heap.size≤b80:=hH5'.freshX (i:=0) rfl rfl rfl
    have hm2F:w.heap.size≤b80:=Nat.le_trans hP3.fr.size hm2
    have hm12:b33<b80:=Nat.lt_of_lt_of_le hI3.lt hm2
    clear hH5'
    refine c_loop (σ:=Nat) (fun s=>[(0,ptr g.pb),(3,.nilIface),(4,.map (some b33)),(7,.map (some b80)),(84,.slice p5 x.funcs.length c5),(85,.int .i64 (x.funcs.length:Nat)),(86,.int .i64 (s:Nat))])
      (fun s w'=>s≤x.funcs.length∧QS B w T x g 0 0 x.mappings.length 0 s w'∧MapId w' b33 (x.mappings.map (·.id)) g.maps∧MapId w' b80 ((x.funcs.map (·.id)).take s) (g.funs.take s)) (fun s=>x.funcs.length - s) 0 sR ⟨Nat.zero_le _,hQ5,hI3',hM0⟩ ?_
    rintro k5 u5 ⟨hk5,hP5,hI3,hI5⟩ KL5 hKL5
    try dsimp only at hk5 hP5 hI3 hI5
    have hc0:=mc (f:=⟨u5,0,[]⟩) (fr_row hP5.fr rfl _ _ hpf) rfl
    refine C.begin ⟨u5,0,[]⟩ [] ok_refl .nil ?_
    try dsimp only
    refine sQ fun K15=>cj_reg (jS (k:=K15 (sQ fun K16=>?_)))
    refine cj_dec rfl (fun h87=>?_) (fun h87=>?_)
    · have hk':k5<x.funcs.length:=by omega
      obtain ⟨bq,rfl,hsq⟩:=hx5 (by omega)
      have hkb:k5<g.funs.length:=by rw[hR.funs.1];exact hk'
      have hbe:g.funs[k5]? =some g.funs[k5]:=List.getElem?_eq_getElem hkb
      have hxe:x.funcs[k5]? =some x.funcs[k5]:=List.getElem?_eq_getElem hk'
      have hxm:x.funcs[k5]∈x.funcs:=List.getElem_mem hk'
      have hbm:g.funs[k5]∈g.funs:=List.getElem_mem hkb
      obtain ⟨nf,nb,ni,hst,hat1,hat2,hat3⟩:=(hP5.pf _ _ _ hbe hxe).2 (Nat.le_refl _)
      obtain ⟨es,ck,hmap,hM⟩:=hI5.ex
      have hcell:=osCellX (k:=k5) (v:=ptr g.funs[k5]) (W1:=[tFun,1000000]) hP5.fr rfl rfl hsq (by simp[hkb])
      have hc0:=mc (f:=⟨u5,0,[tFun,1000000]⟩) (fr_row hP5.fr rfl _ _ hpf) rfl
      have htU:OS tStr 1 u5 (.slice p6 T.length c6) (T.map .string):=htab.mono (fr_row hP5.fr rfl)
      refine CJ.turnW (W:=[tFun,1000000]) (Hp.rowMap hst hmap rfl rfl) ?_
      refine cj_skip (K16 (sQ fun K17=>cj_block (sQ fun K18=>cj_reg (jJ ru122 so131 (k:=jL ag131 hcell 0 (k:=jA (k:=K18 (sQ fun K19=>?_))))))))
      refine cj_drawI 17 (lts [0,1,2,3,4,5,6,7,8]++(9,false)::(lts [10,11,12,13,14]++(15,false)::lts [16])) [] rfl (by kernel_rfl) (by kernel_rfl) (dM [] (k:=dM [] (k:=dN [] (k:=dF [] 16 ru125 so27 (k:=dL [] ag27 hc0 16 (k:=dM [] (k:=dN [] (k:=dF [] 5 ru133 so2 (k:=dM [] (k:=dE (h:=fun Kd=>?_)))))))))))
      refine j_getS 0 rfl rfl rfl rfl rfl hat1 htU rfl rfl hl rfl rfl ?_
      refine Kd (sb []) (dM [] (k:=?_))
      refine dj_val rfl rfl (sub_of [] rfl) (fun _ _ h=>r_extract rfl rfl h) (dj_val rfl rfl (sub_of [] rfl) (fun _ _ h=>r_extract rfl rfl h) (dN [] (k:=dF [] 1 ru133 so9 (k:=dE (h:=fun Kd=>jB [_,_,_,_,_,_,_,_] (_::_::_) 0 so9 (k:=Kd (sb []) (dA [] (k:=K19 (CJ.t [(0,_),(3,_),(4,_),(7,_),(9,_),(84,_),(85,_),(86,_)] (k:=sQ fun K20=>?_))))))))))
      refine cj_drawI 17 (lts [0,1,2,3,4,5,6,7,8]++(9,false)::(lts [10,11,12,13,14]++(15,false)::lts [16])) [] rfl (by kernel_rfl) (by kernel_rfl) (dM [] (k:=dM [] (k:=dN [] (k:=dF [] 16 ru125 so27 (k:=dL [] ag27 hc0 16 (k:=dM [] (k:=dN [] (k:=dF [] 6 ru133 so2 (k:=dM [] (k:=dE (h:=fun Kd=>?_)))))))))))
      refine j_getS 0 rfl rfl rfl rfl rfl hat2 htU rfl rfl hl rfl rfl ?_
      refine Kd (sb []) (dM [] (k:=?_))
      refine dj_val rfl rfl (sub_of [] rfl) (fun _ _ h=>r_extract rfl rfl h) (dj_val rfl rfl (sub_of [] rfl) (fun _ _ h=>r_extract rfl rfl h) (dN [] (k:=dF [] 2 ru133 so9 (k:=dE (h:=fun Kd=>jB [_,_,_,_,_,_,_,_] (_::_::_) 0 so9 (k:=Kd (sb []) (dA [] (k:=K20 (CJ.t [(0,_),(3,_),(4,_),(7,_),(9,_),(84,_),(85,_),(86,_)] (k:=sQ fun K21=>?_))))))))))
      refine cj_drawI 17 (lts [0,1,2,3,4,5,6,7,8]++(9,false)::(lts [10,11,12,13,14]++(15,false)::lts [16])) [] rfl (by kernel_rfl) (by kernel_rfl) (dM [] (k:=dM [] (k:=dN [] (k:=dF [] 16 ru125 so27 (k:=dL [] ag27 hc0 16 (k:=dM [] (k:=dN [] (k:=dF [] 7 ru133 so2 (k:=dM [] (k:=dE (h:=fun Kd=>?_)))))))))))
      refine j_getS 0 rfl rfl rfl rfl rfl hat3 htU rfl rfl hl rfl rfl ?_
      refine Kd (sb []) (dM [] (k:=?_))
      refine dj_val rfl rfl (sub_of [] rfl) (fun _ _ h=>r_extract rfl rfl h) (dj_val rfl rfl (sub_of [] rfl) (fun _ _ h=>r_extract rfl rfl h) (dN [] (k:=dF [] 3 ru133 so9 (k:=dE (h:=fun Kd=>jB [_,_,_,_,_,_,_,_] (_::_::_) 0 so9 (k:=Kd (sb []) (dA [] (k:=K21 (CJ.t [(0,_),(3,_),(4,_),(7,_),(9,_),(84,_),(85,_),(86,_)] (k:=cj_reg (jM (k:=jM (k:=jN (k:=?_))))))))))))))
      refine jF 0 ru133 so71 (k:=jH 0 ag71 (k:=jM (k:=?_)))
      refine j_mapupd 1 rfl ru182 (keyT_int ru71) hM rfl rfl rfl (fun w hH hf=>⟨fun _ _=>trivial,trivial⟩) fun es' ck' hM'=>?_
      refine K17 (cj_reg (jI (k:=jM (k:=j_nil (ej_then ?_)))))
      exact fun w' hH hf=>hKL5 (k5+1) _ w' ⟨hk',hP5.s5 (L:=[g.funs[k5],b80]) hR.nfuns hbe hxe (hR.fresh.2.2.1 _ hbm) hst (Hp.keepX (l:=[g.funs[k5],b80]) hH.2.2.2.2.2.2 hf) (tn_two hm2F hmap) (hH.get (i:=0) rfl rfl),hI3.other (Hp.keepX (l:=[g.funs[k5],b80]) hH.2.2.2.2.2.2 hf) (nin_two (hI3.neB hst) (Nat.ne_of_lt hm12)),MapId.step (ids:=x.funcs.map (·.id)) (id:=x.funcs[k5].id) (by simpa using hR.funs.1) hx.tab.f.2.1 (by simp[hk']) hbe (hH.obj (i:=1) rfl rfl) hM'⟩ (by first|omega|(simp only;omega)) ⟨rfl,rfl,rfl,rfl,rfl,rfl,rfl,trivial⟩
    · have hke5:k5=x.funcs.length:=by omega
      subst hke5
      rw[List.take_of_length_le (by simp),List.take_of_length_le (by rw[hR.funs.1];exact Nat.le_refl _)]at hI5
      clear hKL5 hk5 h87
      refine cj_exit (K13 (sQ fun K22=>cj_reg ?_))
      refine j_mkmap (fun _ h=>by cases h) rfl fun b142=>?_
      refine jA (k:=K22 (CJ.t [(0,_),(3,_),(4,_),(7,_),(10,_)] (k:=sQ fun K23=>sQ fun K24=>cj_reg (jM (k:=jN (k:=jF 4 ru125 so121 (k:=jL ag121 hc0 4 (k:=jE ru121 (k:=jM (k:=K24 (cj_block ?_)))))))))))
      intro v4 hH4' hf4'
      have hQ4:=hP5.keep (KeepX.of hf4')
      have hI3':=hI3.keep (fr_mapE hf4' rfl)
      have hI5':=hI5.keep (fr_mapE hf4' rfl)
      have hM0:MapId v4 b142 [] []:=⟨[],_,hH4'.obj (i:=0) rfl rfl,MEnc.nil'⟩
      have hm3:u5.heap.size≤b142:=hH4'.freshX (i:=0) rfl rfl rfl
      have hm3F:w.heap.size≤b142:=Nat.le_trans hP5.fr.size hm3
      have hm13:b33<b142:=Nat.lt_of_lt_of_le hI3.lt hm3
      have hm23:b80<b142:=Nat.lt_of_lt_of_le hI5.lt hm3
      clear hH4'
      refine c_loop (σ:=Nat) (fun s=>[(0,ptr g.pb),(3,.nilIface),(4,.map (some b33)),(7,.map (some b80)),(10,.map (some b142)),(146,.slice p4 x.locs.length c4),(147,.int .i64 (x.locs.length:Nat)),(148,.int .i64 (s:Nat))])
        (fun s w'=>s≤x.locs.length∧QS B w T x g 0 0 x.mappings.length s x.funcs.length w'∧MapId w' b33 (x.mappings.map (·.id)) g.maps∧MapId w' b80 (x.funcs.map (·.id)) g.funs∧MapId w' b142 ((x.locs.map (·.id)).take s) (g.locs.take s)) (fun s=>x.locs.length - s) 0 sR ⟨Nat.zero_le _,hQ4,hI3',hI5',hM0⟩ ?_
      rintro k4 u4 ⟨hk4,hP4,hI3,hI5,hI4⟩ KL4 hKL4
      try dsimp only at hk4 hP4 hI3 hI5 hI4
      have hc0:=mc (f:=⟨u4,0,[]⟩) (fr_row hP4.fr rfl _ _ hpf) rfl
      refine C.begin ⟨u4,0,[]⟩ [] ok_refl .nil ?_
      try dsimp only
      refine sQ fun K25=>cj_reg (jS (k:=K25 (sQ fun K26=>?_)))
      refine cj_dec rfl (fun h149=>?_) (fun h149=>?_)
      · have hk':k4<x.locs.length:=by omega
        obtain ⟨bq,rfl,hsq⟩:=hx4 (by omega)
        have hkb:k4<g.locs.length:=by rw[hR.locs.1];exact hk'
        have hbe:g.locs[k4]? =some g.locs[k4]:=List.getElem?_eq_getElem hkb
        have hxe:x.locs[k4]? =some x.locs[k4]:=List.getElem?_eq_getElem hk'
        have hxm:x.locs[k4]∈x.locs:=List.getElem_mem hk'
        have hbm:g.locs[k4]∈g.locs:=List.getElem_mem hkb
        obtain ⟨pL,cL,hst,yL,hOL,hyL⟩:=(hP4.pl _ _ _ hbe hxe).2 (Nat.le_refl _)
        obtain ⟨⟨hml,hmu⟩,hl60,hln⟩:=hx.tab.locs _ hxm
        have hBb:B≤g.locs[k4]:=hR.fresh.2.2.2.1 _ hbm
        have hcell:=osCellX (k:=k4) (v:=ptr g.locs[k4]) (W1:=[tLoc,tLine]) hP4.fr rfl rfl hsq (by simp[hkb])
        have hpu:Blk u4 g.pb tProf _:=fr_row hP4.fr rfl _ _ hpf
        have hc0:=mc (f:=⟨u4,0,[tLoc,tLine]⟩) hpu rfl
        have hMm:∀w',Fm.ok ⟨u4,0,[tLoc,tLine]⟩ w'→MapHas (Value.int .u64) b33 (mid x x.locs[k4].mapping) (.pointer none) (ptrAt g.maps x.locs[k4].mapping) w':=fun w' hf=>(hI3.keep (fr_mapE hf rfl)).has (by simpa using hR.maps.1.symm) hx.tab.m.1 hx.tab.m.2.1 (by simpa using hmu)
        have hMf:∀(z:Int),z<x.funcs.length→∀w',Fm.ok ⟨u4,0,[tLoc,tLine]⟩ w'→MapHas (Value.int .u64) b80 (fnid x z) (.pointer none) (ptrAt g.funs z) w':=fun z hz w' hf=>(hI5.keep (fr_mapE hf rfl)).has (by simpa using hR.funs.1.symm) hx.tab.f.1 hx.tab.f.2.1 (by simpa using hz)
        refine CJ.turnW (W:=[tLoc,tLine]) (Hp.two hst hOL (fun ho=>⟨(hyL ho).1,Nat.zero_le _⟩) (Nat.zero_le _) rfl rfl (by decide)) ?_
        refine cj_skip (K26 (sQ fun K27=>cj_block (sQ fun K28=>cj_reg (jJ ru121 so134 (k:=jL ag134 hcell 0 (k:=jA (k:=K28 (sQ fun K29=>cj_reg (jM (k:=jM (k:=jM (k:=?_))))))))))))
        refine jN (k:=jF 5 ru137 so71 (k:=jH 0 ag71 (k:=?_)))
        refine j_valw rfl (fun a w ha hH hf=>r_lookT ru180 (keyT_int ru71) zv128 rfl rfl ha (hMm w hf)) (jN (k:=jF 1 ru137 so128 (k:=jB [_,_,_,_,_,_] (_::_::_) 0 so128 (k:=K29 (CJ.t [(0,_),(3,_),(4,_),(7,_),(10,_),(12,_),(146,_),(147,_),(148,_)] (k:=sQ fun K30=>cj_reg (jM (k:=jN (k:=jF 5 ru137 so71 (k:=jB [_,_,_,_,_,_] (_::_::_) 0 so71 (k:=K30 (sQ fun K31=>?_))))))))))))
        refine sQ fun K32=>cj_reg (jM (k:=jN (k:=jF 3 ru137 so135 (k:=jH 0 ag135 (k:=jE ru135 (k:=jM (k:=K32 (cj_block ?_))))))))
        refine cj_loop (σ:=Nat×Ent) (fun s=>[(0,ptr g.pb),(3,.nilIface),(4,.map (some b33)),(7,.map (some b80)),(10,.map (some b142)),(12,ptr g.locs[k4]),(146,.slice (some ⟨bq,0,none⟩) x.locs.length c4),(147,.int .i64 (x.locs.length:Nat)),(148,.int .i64 (k4:Nat)),(167,.slice pL x.locs[k4].lines.length cL),(168,.int .i64 (x.locs[k4].lines.length:Nat)),(169,.int .i64 (s.1:Nat))])
          (fun s=>⟨g.locs[k4],tLoc,cLoc g.maps x.locs[k4] (.slice pL x.locs[k4].lines.length cL),true,true,none⟩::s.2::restH u4 ([g.locs[k4]]++rowL yL))
          (fun s _=>s.1≤x.locs[k4].lines.length∧Own tLine 3 s.2 pL x.locs[k4].lines.length cL (lnsA x g.funs x.locs[k4].lines s.1)∧s.2.b=yL.b∧s.2.on=yL.on) (fun s=>x.locs[k4].lines.length - s.1)
          (0,yL) sR (fun w' hH hf=>⟨hH,Nat.zero_le _,by rw[lnsA_zero];exact hOL,rfl,rfl⟩) ?_
        rintro ⟨j,yj⟩ wj ⟨hj,hOj,hyb,hyo⟩ hfj hHj KLj hKLj
        try dsimp only at hj hOj hyb hyo
        refine C.begin _ _ hfj hHj ?_
        try dsimp only
        refine sQ fun K33=>cj_reg (jS (k:=K33 (sQ fun K34=>?_)))
        refine cj_dec rfl (fun h170=>?_) (fun h170=>?_)
        · have hj':j<x.locs[k4].lines.length:=by omega
          obtain ⟨hfl,hfu2⟩:=hln _ (List.getElem_mem hj')
          have hcl:∀(i:Nat) (u:Value),(cLnR x x.locs[k4].lines[j])[i]? =some u→(lnsA x g.funs x.locs[k4].lines j)[j*3+i]? =some u:=fun i u hu=>lnsA_get hj' hu
          obtain ⟨hon,hpe,h00⟩:=hOj.at_ (hcl 0 _ rfl)
          have h22:=(hOj.at_ (hcl 2 _ rfl)).2.2
          have hlt3:=(List.getElem?_eq_some_iff.1 (hcl 2 _ rfl)).1
          have hltc:=(List.getElem?_eq_some_iff.1 h22).1
          subst hpe
          have hcr:∀(w':World),Blk w' yj.b yj.T yj.cs→∀(i:Nat) (u:Value),(cLnR x x.locs[k4].lines[j])[i]? =some u→w'.cell? ⟨yj.b,0+j*3+i,none⟩=some u:=fun w' hb i u hu=>by rw[hb.cell,Nat.zero_add];exact (hOj.at_ (hcl i u hu)).2.2
          refine cj_skip (K34 (sQ fun K35=>cj_block (sQ fun K36=>cj_reg (jM (k:=jJ ru135 so140 (k:=?_))))))
          refine j_valw rfl (fun a w ha hH hf=>r_loadA (vs:=cLnR x x.locs[k4].lines[j]) ag140 so140 rfl rfl (fun i u hu=>hcr w (hH.get (i:=1) rfl hon) i u hu) ha) (j_allocA (zs:=[(.pointer none),(.int .i64 0),(.int .u64 0)]) zv140 rfl fun b14=>jA (k:=jB [_,_,_] (_::_::_::_) 0 so140 (k:=K36 (sQ fun K37=>cj_reg (jF 2 ru140 so71 (k:=jH 0 ag71 (k:=jA (k:=K37 (sQ fun K38=>cj_reg (jM (k:=?_)))))))))))
          refine j_val rfl (fun _ _ h=>r_neq rfl rfl h) (K38 (CJ.t [(0,_),(3,_),(4,_),(7,_),(10,_),(12,_),(13,_),(15,_),(146,_),(147,_),(148,_),(167,_),(168,_),(169,_),(177,_)] (k:=?_)))
          refine cj_dec rfl (fun hq=>?_) (fun hq=>?_)
          · have hfp:0≤x.locs[k4].lines[j].fn:=fn_pos hq
            obtain ⟨fb,hfb⟩:=ptrAt_get (bs:=g.funs) hfp (by rw[hR.funs.1];exact hfu2)
            have hMj:=hMf x.locs[k4].lines[j].fn hfu2
            rw[hfb]at hMj
            refine sQ fun K39=>cj_drawI 11 (lts [0,1,2,3,4,5,6,7,8,9]++(10,false)::[]) [1] rfl (by kernel_rfl) (by kernel_rfl) (dM [1] (k:=dN [1] (k:=dF [1] 3 ru137 so135 (k:=dH [1] 0 ag135 (k:=dM [1] (k:=dM [1] (k:=dM [1] (k:=?_))))))))
            refine dj_ld rfl rfl (sub_of [1] rfl) (fun a w ha hS=>r_lookT ru182 (keyT_int ru71) zv131 rfl rfl ha (hMj w hS.2)) (dj_val rfl rfl (sub_of [1] rfl) (fun _ _ h=>r_idx ru135 so140 rfl rfl (by omega) h) (dF [1] 0 ru140 so131 (k:=dE (h:=fun Kd=>?_))))
            refine j_put (y:=yj) (o:=0+j*3+0) 2 rfl hon hOj.ho hOj.hw so131 rfl rfl rfl rfl (by omega) ?_
            refine Kd (sb [1]) (K39 (CJ.t [(0,_),(3,_),(4,_),(7,_),(10,_),(12,_),(13,_),(15,_),(146,_),(147,_),(148,_),(167,_),(168,_),(169,_)] (k:=sQ fun K40=>sQ fun K41=>cj_reg (jM (k:=jN (k:=jF 3 ru137 so135 (k:=jH 1 ag135 (k:=jM (k:=jJ ru135 so140 (k:=jF 0 ru140 so131 (k:=?_)))))))))))
            refine j_valw rfl (fun a w ha hH hf=>r_load ag131 rfl (cell_set (v:=ptr fb) (o:=0+j*3+0) (hH.get (i:=2) rfl rfl) (by omega)) ha) (j_val rfl (fun _ _ h=>r_pneql ud131 rfl h) (K41 (cj_if_f rfl (cj_skip (K40 (cj_reg (jM (k:=jN (k:=jF 3 ru137 so135 (k:=jH 1 ag135 (k:=jM (k:=jJ ru135 so140 (k:=jF 2 ru140 so71 (k:=?_))))))))))))))
            refine j_put (y:=⟨yj.b,yj.T,setL yj.cs (0+j*3+0) [ptr fb],true,true,none⟩) (o:=0+j*3+2) 2 rfl rfl rfl rfl so71 rfl rfl rfl rfl (by rw[setL_one_len];omega) ?_
            refine K35 (CJ.t [(0,_),(3,_),(4,_),(7,_),(10,_),(12,_),(146,_),(147,_),(148,_),(167,_),(168,_),(169,_)] (k:=cj_reg (jI (k:=jM (k:=j_nil (ej_then ?_))))))
            first
              |exact fun w' hH hf=>hKLj (j+1,⟨yj.b,yj.T,setL (setL yj.cs (0+j*3+0) [ptr fb]) (0+j*3+2) [.int .u64 0],true,true,none⟩) _ w' ⟨by simp only;omega,lnsA_put hj' hfb hOj hlt3,hyb,hon.symm.trans hyo⟩ hf (hH.drop 0) (by simp only;omega) ⟨rfl,rfl,rfl,rfl,rfl,rfl,rfl,rfl,rfl,rfl,rfl,rfl,trivial⟩
              |exact fun w' hH hf=>hKLj (j+1,yj) _ w' ⟨by simp only;omega,by rw[← lnsA_same hj' hx.tab.f.1 hfu2 (by omega)];exact hOj,hyb,hyo⟩ hf (hH.drop 0) (by simp only;omega) ⟨rfl,rfl,rfl,rfl,rfl,rfl,rfl,rfl,rfl,rfl,rfl,rfl,trivial⟩
          · refine cj_skip (K35 (cj_reg (jI (k:=jM (k:=j_nil (ej_then ?_))))))
            first
              |exact fun w' hH hf=>hKLj (j+1,⟨yj.b,yj.T,setL (setL yj.cs (0+j*3+0) [ptr fb]) (0+j*3+2) [.int .u64 0],true,true,none⟩) _ w' ⟨by simp only;omega,lnsA_put hj' hfb hOj hlt3,hyb,hon.symm.trans hyo⟩ hf (hH.drop 0) (by simp only;omega) ⟨rfl,rfl,rfl,rfl,rfl,rfl,rfl,rfl,rfl,rfl,rfl,rfl,trivial⟩
              |exact fun w' hH hf=>hKLj (j+1,yj) _ w' ⟨by simp only;omega,by rw[← lnsA_same hj' hx.tab.f.1 hfu2 (by omega)];exact hOj,hyb,hyo⟩ hf (hH.drop 0) (by simp only;omega) ⟨rfl,rfl,rfl,rfl,rfl,rfl,rfl,rfl,rfl,rfl,rfl,rfl,trivial⟩
        · intro w5 hH5 hf5
          have hOd:Own tLine 3 yj pL x.locs[k4].lines.length cL (x.locs[k4].lines.flatMap (cLine g.funs)):=by rw[lnsA_full (by omega)]at hOj;exact hOj
          have hkx:KeepX ([g.locs[k4]]++rowL yL) u4 w5:=Hp.keepX ((hH5.drop 0).drop 0) hf5
          have hbl:Blk w5 g.locs[k4] tLoc (cLoc g.maps x.locs[k4] (.slice pL x.locs[k4].lines.length cL)):=hH5.get (i:=0) rfl rfl
          have hrw:yj.on=true→Blk w5 yj.b tLine yj.cs:=fun ho=>by have h:=hH5.get (i:=1) rfl ho;rw[hOj.hT]at h;exact h
          have hnm:∀{mb:Nat} {ids:List Int} {bs:List Nat},MapId u4 mb ids bs→mb∉[g.locs[k4]]++rowL yL:=fun h=>nin_row (h.neB hst) fun ho=>h.neB (hyL ho).1
          have hI4w:=hI4.other hkx (hnm hI4)
          obtain ⟨es,ck,hmap,hM⟩:=hI4w.ex
          have hc0:=mc (f:=⟨w5,0,[1000000]⟩) (ok_blk hf5 hpu rfl) rfl
          have hcb:=mc (f:=⟨w5,0,[1000000]⟩) hbl rfl
          refine C.begin ⟨w5,0,[1000000]⟩ (mpE b142 es ck::restH w5 [b142]) ok_refl (Hp.oneMap hmap (Nat.zero_le _) rfl) ?_
          refine cj_exit (K31 (cj_reg (jM (k:=jM (k:=jN (k:=jF 0 ru137 so71 (k:=jL ag71 hcb 0 (k:=jM (k:=?_)))))))))
          refine j_mapupd 0 rfl ru183 (keyT_int ru71) hM rfl rfl rfl (fun w hH hf=>⟨fun _ _=>trivial,trivial⟩) fun es' ck' hM'=>?_
          refine K27 (cj_reg (jI (k:=jM (k:=j_nil (ej_then ?_)))))
          intro w6 hH6 hf6
          have hk6:KeepX [b142] w5 w6:=Hp.keepX (hH6.drop 0) hf6
          have hkk:=hkx.trans hk6
          have hLQ:LocQ B w6 g g.locs[k4] x.locs[k4]:=⟨pL,cL,hk6.blk hbl (by simpa using (hI4w.neB hbl).symm),yj,hOd,fun ho=>⟨hk6.blk (hrw ho) (by simpa using (hI4w.neB (hrw ho)).symm),hyb▸(hyL (hyo▸ho)).2⟩⟩
          have hn3:∀{mb:Nat} {ids:List Int} {bs:List Nat},MapId u4 mb ids bs→mb≠b142→mb∉([g.locs[k4]]++rowL yL)++[b142]:=fun h hne hm=>by
            rcases List.mem_append.1 hm with hm|hm
            · exact hnm h hm
            · exact hne (by simpa using hm)
          obtain ⟨es0,ck0,hmap0, -⟩:=hI4.ex
          exact hKL4 (k4+1) _ w6 ⟨hk',hP4.s4 (rb:=yL.b) hR.nlocs hbe hxe hBb hst (rows4 hm3F hmap0 hyL) hkk hLQ,hI3.other hkk (hn3 hI3 (Nat.ne_of_lt hm13)),hI5.other hkk (hn3 hI5 (Nat.ne_of_lt hm23)),MapId.step (ids:=x.locs.map (·.id)) (id:=x.locs[k4].id) (by simpa using hR.locs.1) hx.tab.l.2.1 (by simp[hk']) hbe (hH6.obj (i:=0) rfl rfl) hM'⟩ (by first|omega|(simp only;omega)) ⟨rfl,rfl,rfl,rfl,rfl,rfl,rfl,rfl,trivial⟩
      · have hke4:k4=x.locs.length:=by omega
        subst hke4
        rw[List.take_of_length_le (by simp),List.take_of_length_le (by rw[hR.locs.1];exact Nat.le_refl _)]at hI4
        clear hKL4 hk4 h149
        refine cj_exit (K23 (sQ fun K42=>sQ fun K43=>cj_reg (jM (k:=jN (k:=jF 0 ru125 so118 (k:=jL ag118 hc0 0 (k:=jE ru118 (k:=jM (k:=K43 (CJ.t [(0,_),(3,_),(10,_),(220,_),(221,_),(222,_)] (k:=cj_block ?_)))))))))))
        intro v1 hH1' hf1'
        have hQ1:=hP4.keep (KeepX.of hf1')
        have hI4':=hI4.keep (fr_mapE hf1' rfl)
        clear hH1'
        refine c_loop (σ:=Nat) (fun s=>[(0,ptr g.pb),(3,.nilIface),(10,.map (some b142)),(220,.slice p1 x.types.length c1),(221,.int .i64 (x.types.length:Nat)),(222,.int .i64 (s:Nat))])
          (fun s w'=>s≤x.types.length∧QS B w T x g s 0 x.mappings.length x.locs.length x.funcs.length w'∧MapId w' b142 (x.locs.map (·.id)) g.locs) (fun s=>x.types.length - s) 0 sR ⟨Nat.zero_le _,hQ1,hI4'⟩ ?_
        rintro k1 u1 ⟨hk1,hP1,hI4⟩ KL1 hKL1
        try dsimp only at hk1 hP1 hI4
        have hc0:=mc (f:=⟨u1,0,[]⟩) (fr_row hP1.fr rfl _ _ hpf) rfl
        refine C.begin ⟨u1,0,[]⟩ [] ok_refl .nil ?_
        try dsimp only
        refine sQ fun K44=>cj_reg (jS (k:=K44 (sQ fun K45=>?_)))
        refine cj_dec rfl (fun h223=>?_) (fun h223=>?_)
        · have hk':k1<x.types.length:=by omega
          obtain ⟨bq,rfl,hsq⟩:=hx1 (by omega)
          have hkb:k1<g.types.length:=by rw[hR.types.1];exact hk'
          have hbe:g.types[k1]? =some g.types[k1]:=List.getElem?_eq_getElem hkb
          have hxe:x.types[k1]? =some x.types[k1]:=List.getElem?_eq_getElem hk'
          have hxm:x.types[k1]∈x.types:=List.getElem_mem hk'
          have hbm:g.types[k1]∈g.types:=List.getElem_mem hkb
          obtain ⟨nf,nb,hst,hat1,hat2⟩:=(hP1.pt _ _ _ hbe hxe).2 (Nat.le_refl _)
          have hcell:=osCellX (k:=k1) (v:=ptr g.types[k1]) (W1:=[tVT]) hP1.fr rfl rfl hsq (by simp[hkb])
          have hc0:=mc (f:=⟨u1,0,[tVT]⟩) (fr_row hP1.fr rfl _ _ hpf) rfl
          have htU:OS tStr 1 u1 (.slice p6 T.length c6) (T.map .string):=htab.mono (fr_row hP1.fr rfl)
          refine CJ.turnW (W:=[tVT]) (Hp.one hst (Nat.zero_le _) rfl) ?_
          refine cj_skip (K45 (sQ fun K46=>cj_block (sQ fun K47=>cj_reg (jJ ru118 so123 (k:=jL ag123 hcell 0 (k:=jA (k:=K47 (sQ fun K48=>?_))))))))
          refine cj_drawI 17 (lts [0,1,2,3,4,5,6,7,8]++(9,false)::(lts [10,11,12,13,14]++(15,false)::lts [16])) [] rfl (by kernel_rfl) (by kernel_rfl) (dM [] (k:=dM [] (k:=dN [] (k:=dF [] 16 ru125 so27 (k:=dL [] ag27 hc0 16 (k:=dM [] (k:=dN [] (k:=dF [] 2 ru127 so2 (k:=dM [] (k:=dE (h:=fun Kd=>?_)))))))))))
          refine j_getS 0 rfl rfl rfl rfl rfl hat1 htU rfl rfl hl rfl rfl ?_
          refine Kd (sb []) (dM [] (k:=?_))
          refine dj_val rfl rfl (sub_of [] rfl) (fun _ _ h=>r_extract rfl rfl h) (dj_val rfl rfl (sub_of [] rfl) (fun _ _ h=>r_extract rfl rfl h) (dN [] (k:=dF [] 0 ru127 so9 (k:=dE (h:=fun Kd=>jB [_,_,_,_] (_::_) 0 so9 (k:=Kd (sb []) (dA [] (k:=K48 (CJ.t [(0,_),(3,_),(10,_),(17,_),(220,_),(221,_),(222,_)] (k:=?_))))))))))
          refine cj_drawI 17 (lts [0,1,2,3,4,5,6,7,8]++(9,false)::(lts [10,11,12,13,14]++(15,false)::lts [16])) [] rfl (by kernel_rfl) (by kernel_rfl) (dM [] (k:=dM [] (k:=dN [] (k:=dF [] 16 ru125 so27 (k:=dL [] ag27 hc0 16 (k:=dM [] (k:=dN [] (k:=dF [] 3 ru127 so2 (k:=dM [] (k:=dE (h:=fun Kd=>?_)))))))))))
          refine j_getS 0 rfl rfl rfl rfl rfl hat2 htU rfl rfl hl rfl rfl ?_
          refine Kd (sb []) (dM [] (k:=?_))
          refine dj_val rfl rfl (sub_of [] rfl) (fun _ _ h=>r_extract rfl rfl h) (dj_val rfl rfl (sub_of [] rfl) (fun _ _ h=>r_extract rfl rfl h) (dN [] (k:=dF [] 1 ru127 so9 (k:=dE (h:=fun Kd=>jB [_,_,_,_] (_::_) 0 so9 (k:=Kd (sb []) (dA [] (k:=K46 (CJ.t [(0,_),(3,_),(10,_),(220,_),(221,_),(222,_)] (k:=cj_reg (jI (k:=jM (k:=j_nil ?_)))))))))))))
          refine ej_then ?_
          exact fun w' hH hf=>hKL1 (k1+1) _ w' ⟨hk',hP1.s1 (L:=[g.types[k1]]) hR.ntypes hbe hxe (hR.fresh.1 _ hbm) hst (Hp.keepX (l:=[g.types[k1]]) (hH.drop 0) hf) (tn_one rfl) (hH.get (i:=0) rfl rfl),hI4.other (Hp.keepX (l:=[g.types[k1]]) (hH.drop 0) hf) (by simpa using hI4.neB hst)⟩ (by first|omega|(simp only;omega)) ⟨rfl,rfl,rfl,rfl,rfl,rfl,trivial⟩
        · have hke1:k1=x.types.length:=by omega
          subst hke1
          clear hKL1 hk1 h223
          refine cj_exit (K42 (sQ fun K49=>sQ fun K50=>cj_reg (jM (k:=jN (k:=jF 2 ru125 so119 (k:=jL ag119 hc0 2 (k:=jE ru119 (k:=jM (k:=K50 (cj_block ?_))))))))))
          intro v2 hH2' hf2'
          have hQ2:=hP1.keep (KeepX.of hf2')
          have hI4':=hI4.keep (fr_mapE hf2' rfl)
          clear hH2'
          refine c_loop (σ:=Nat) (fun s=>[(0,ptr g.pb),(3,.nilIface),(10,.map (some b142)),(260,.slice p2 x.samples.length c2),(261,.int .i64 (x.samples.length:Nat)),(262,.int .i64 (s:Nat))])
            (fun s w'=>s≤x.samples.length∧QS B w T x g x.types.length s x.mappings.length x.locs.length x.funcs.length w'∧MapId w' b142 (x.locs.map (·.id)) g.locs) (fun s=>x.samples.length - s) 0 sR ⟨Nat.zero_le _,hQ2,hI4'⟩ ?_
          rintro k2 u2 ⟨hk2,hP2,hI4⟩ KL2 hKL2
          try dsimp only at hk2 hP2 hI4
          have hc0:=mc (f:=⟨u2,0,[]⟩) (fr_row hP2.fr rfl _ _ hpf) rfl
          refine C.begin ⟨u2,0,[]⟩ [] ok_refl .nil ?_
          try dsimp only
          refine sQ fun K51=>cj_reg (jS (k:=K51 (sQ fun K52=>?_)))
          refine cj_dec rfl (fun h263=>?_) (fun h263=>?_)
          · have hk':k2<x.samples.length:=by omega
            obtain ⟨bq,rfl,hsq⟩:=hx2 (by omega)
            have hkb:k2<g.sams.length:=by rw[hR.sams.1];exact hk'
            have hbe:g.sams[k2]? =some g.sams[k2]:=List.getElem?_eq_getElem hkb
            have hxe:x.samples[k2]? =some x.samples[k2]:=List.getElem?_eq_getElem hk'
            have hxm:x.samples[k2]∈x.samples:=List.getElem_mem hk'
            have hbm:g.sams[k2]∈g.sams:=List.getElem_mem hkb
            obtain ⟨pv,cv,pi,ci,pl,cl,lbs,es,hst,hrv,hri,hrl,hLQ,hLS,hel⟩:=(hP2.ps _ _ _ hbe hxe).2 (Nat.le_refl _)
            obtain ⟨-, -,hs60, -,hsk⟩:=hx.samples _ hxm
            have hBb:B≤g.sams[k2]:=hR.fresh.2.2.2.2 _ hbm
            have hcell:=osCellX (k:=k2) (v:=ptr g.sams[k2]) (W1:=[]) hP2.fr rfl rfl hsq (by simp[hkb])
            have hpu:Blk u2 g.pb tProf _:=fr_row hP2.fr rfl _ _ hpf
            have hcs:=mc (f:=⟨u2,0,[]⟩) hst rfl
            have htU:OS tStr 1 u2 (.slice p6 T.length c6) (T.map .string):=htab.mono (fr_row hP2.fr rfl)
            refine cj_skip (K52 (sQ fun K53=>cj_block (sQ fun K54=>cj_reg (jJ ru119 so142 (k:=jL ag142 hcell 0 (k:=jA (k:=K54 (sQ fun K55=>cj_reg ?_))))))))
            refine j_mkmap (fun _ h=>by cases h) rfl fun b266=>?_
            refine jA (k:=K55 (sQ fun K56=>cj_reg ?_))
            refine j_mkmap (fun _ h=>by cases h) rfl fun b267=>?_
            refine jA (k:=K56 (sQ fun K57=>sQ fun K58=>cj_reg (jM (k:=jN (k:=jF 6 ru147 so145 (k:=jL ag145 hcs 6 (k:=jE ru145 (k:=jM (k:=K58 (CJ.t [(0,_),(3,_),(10,_),(19,_),(20,_),(21,_),(260,_),(261,_),(262,_),(271,_),(272,_),(273,_)] (k:=cj_block ?_)))))))))))
            intro v6 hH6' hf6'
            have hk6:=KeepX.of hf6'
            have hLT6:LM tStr .string u2.heap.size v6 b266 (keyT (es.take 0)):=LM.nil (hH6'.obj (i:=1) rfl rfl)
            have hLN6:LM tI64 (.int .i64) u2.heap.size v6 b267 (keyN (es.take 0)):=LM.nil (hH6'.obj (i:=0) rfl rfl)
            have hm1:u2.heap.size≤b266:=hH6'.freshX (i:=1) rfl rfl rfl
            have hm2:u2.heap.size≤b267:=hH6'.freshX (i:=0) rfl rfl rfl
            have hmne:b266≠b267:=hH6'.2.2.1 rfl _ (List.Mem.head _) rfl
            clear hH6'
            refine c_loop (σ:=Nat) (fun s=>[(0,ptr g.pb),(3,.nilIface),(10,.map (some b142)),(19,ptr g.sams[k2]),(20,.map (some b266)),(21,.map (some b267)),(260,.slice (some ⟨bq,0,none⟩) x.samples.length c2),(261,.int .i64 (x.samples.length:Nat)),(262,.int .i64 (k2:Nat)),(271,.slice pl es.length cl),(272,.int .i64 (es.length:Nat)),(273,.int .i64 (s:Nat))])
              (fun s w'=>s≤es.length∧KeepX [] u2 w'∧LM tStr .string u2.heap.size w' b266 (keyT (es.take s))∧LM tI64 (.int .i64) u2.heap.size w' b267 (keyN (es.take s))) (fun s=>es.length - s) 0 sR ⟨Nat.zero_le _,hk6,hLT6,hLN6⟩ ?_
            clear hk6 hLT6 hLN6 hf6'
            rintro j u6 ⟨hj,hk6,hLT6,hLN6⟩ KL6 hKL6
            try dsimp only at hj hk6 hLT6 hLN6
            have hpu6:Blk u6 g.pb tProf _:=hk6.blk hpu (by simp)
            have hc0:=mc (f:=⟨u6,0,[]⟩) hpu6 rfl
            refine C.begin ⟨u6,0,[]⟩ [] ok_refl .nil ?_
            try dsimp only
            refine sQ fun K59=>cj_reg (jS (k:=K59 (sQ fun K60=>?_)))
            refine cj_dec rfl (fun h274=>?_) (fun h274=>?_)
            · have hj':j<es.length:=by omega
              obtain ⟨msT,esT,ckT,rowT,hT⟩:=hLT6
              obtain ⟨msN,esN,ckN,rowN,hN⟩:=hLN6
              obtain ⟨yT,pT,cT,hgT,hOT,hyT,hnT⟩:=hT.look es[j].1
              obtain ⟨yN,pN,cN,hgN,hON,hyN,hnN⟩:=hN.look es[j].1
              have hlT:(keyT (es.take j) es[j].1).length≤1000000:=by have:=keyT_len (es.take j) es[j].1;simp at this;omega
              have hlN:(keyN (es.take j) es[j].1).length≤1000000:=by have:=keyN_len (es.take j) es[j].1;simp at this;omega
              have hjl:j<lbs.length:=by rw[hLQ.1];exact hj'
              obtain ⟨hq1,hq2⟩:=hLQ.2 j _ _ (List.getElem?_eq_getElem hjl) (List.getElem?_eq_getElem hj')
              obtain ⟨lb,rfl,hlc⟩:=OS.openS (hrl.os.mono fun b cs hb=>hk6.blk hb (by simp)) (by omega)
              have hcl:∀w',Fm.ok ⟨u6,0,[1000000,tStr,tI64]⟩ w'→∀(i:Nat) (u:Value),(cLb lbs[j])[i]? =some u→w'.cell? ⟨lb,0+j*3+i,none⟩=some u:=fun w' hf i u hu=>by rw[Nat.zero_add];exact hlc ⟨u6,0,[1000000,tStr,tI64]⟩ rfl rfl w' hf _ _ (flatMap_get (c:=cLb) (sz:=3) (fun _=>rfl) (List.getElem?_eq_getElem hjl) i u hu)
              have hc0:=mc (f:=⟨u6,0,[1000000,tStr,tI64]⟩) hpu6 rfl
              have hLy:∀c∈[b266,b267]++rowL yT++rowL yN,c=b266∨c=b267∨(yT.on=true∧c=yT.b)∨(yN.on=true∧c=yN.b):=lab_L
              have hLge:∀c∈[b266,b267]++rowL yT++rowL yN,u2.heap.size≤c:=fun c hc=>by
                rcases hLy c hc with rfl|rfl|⟨h3,rfl⟩|⟨h3,rfl⟩
                · exact hm1
                · exact hm2
                · exact (hyT h3).2
                · exact (hyN h3).2
              have htab6:∀w',Hp ⟨u6,0,[1000000,tStr,tI64]⟩ w' (restH u6 ([b266,b267]++rowL yT++rowL yN))→Fm.ok ⟨u6,0,[1000000,tStr,tI64]⟩ w'→OS tStr 1 w' (.slice p6 T.length c6) (T.map .string):=fun w' hH hf=>OS.young htU hk6 (Hp.keepX hH hf) hLge
              refine CJ.turnW (W:=[1000000,tStr,tI64]) (Hp.labs hT.hm hN.hm hmne hOT hON (fun ho=>(hyT ho).1) (fun ho=>(hyN ho).1) (by decide) rfl rfl rfl) ?_
              refine cj_skip (K60 (sQ fun K61=>cj_block (sQ fun K62=>cj_reg (jJ ru145 so193 (k:=?_)))))
              refine j_valw rfl (fun a w ha hH hf=>r_loadA (vs:=cLb lbs[j]) ag193 so193 rfl rfl (hcl w hf) ha) (j_allocA (zs:=[(.int .i64 0),(.int .i64 0),(.int .i64 0)]) zv193 rfl fun b23=>jB [_,_,_] (_::_::_::_::_::_) 0 so193 (k:=K62 (sQ fun K63=>cj_reg (jA (k:=jA (k:=K63 (sQ fun K64=>cj_reg (jM (k:=jN (k:=jF 16 ru125 so27 (k:=?_)))))))))))
              refine jL ag27 hc0 16 (k:=jF 0 ru193 so2 (k:=jM (k:=?_)))
              refine j_getSg 0 rfl rfl rfl rfl rfl hq1 (fun w hH hf=>htab6 w (((((hH.drop 0).drop 0).drop 0).drop 0).drop 0) hf) rfl hl rfl rfl ?_
              refine jM (k:=jX (k:=jX (k:=jA (k:=jA (k:=K64 (CJ.t [(0,_),(3,_),(10,_),(19,_),(20,_),(21,_),(23,_),(24,_),(260,_),(261,_),(262,_),(271,_),(272,_),(273,_)] (k:=sQ fun K65=>cj_reg (jF 1 ru193 so2 (k:=jH 0 ag2 (k:=?_))))))))))
              refine j_val rfl (fun _ _ h=>r_neq rfl rfl h) (K65 ?_)
              refine cj_dec rfl (fun hq=>?_) (fun hq=>?_)
              · obtain ⟨v,hv,hqv⟩:=lbq_text hq2 hq
                refine sQ fun K66=>cj_reg (jM (k:=jN (k:=jF 16 ru125 so27 (k:=jL ag27 hc0 16 (k:=jF 1 ru193 so2 (k:=jM (k:=?_)))))))
                refine j_getSg 0 rfl rfl rfl rfl rfl hqv (fun w hH hf=>htab6 w (((((hH.drop 0).drop 0).drop 0).drop 0).drop 0) hf) rfl hl rfl rfl ?_
                refine jM (k:=jX (k:=jX (k:=jA (k:=jA (k:=K66 (CJ.t [(0,_),(3,_),(10,_),(19,_),(20,_),(21,_),(24,_),(25,_),(260,_),(261,_),(262,_),(271,_),(272,_),(273,_)] (k:=cj_reg (jM (k:=jM (k:=jM (k:=jM (k:=?_))))))))))))
                refine j_valw rfl (fun a w ha hH hf=>r_mlook1 1 rfl ru143 (keyT_string ru9) hT.hM zv27 rfl rfl (fun _ _ _=>⟨fun _ _=>trivial,trivial⟩) ha hH hf) ?_
                refine j_eqv hgT ?_
                refine jM (k:=?_)
                refine j_bslice1 ru27 so9 zv9 rfl rfl rfl rfl rfl fun b306=>?_
                refine j_appOC 3 rfl hOT ru27 el9 rfl rfl rfl rfl (by omega) rfl fun y8 p8 c8 hO8 hc8 hr8=>?_
                refine j_mapupd 1 rfl ru143 (keyT_string ru9) hT.hM rfl rfl rfl (fun _ _ _=>⟨fun _ _=>trivial,trivial⟩) fun es' ck' hM'=>?_
                refine K61 (cj_reg (jI (k:=jM (k:=j_nil (ej_then ?_)))))
                intro w' hH hf
                have hkk:=Hp.keepX (f:=⟨u6,0,[1000000,tStr,tI64]⟩) (((((hH.drop 0).drop 0).drop 0).drop 0).drop 0) hf
                have hon8:=(hO8.pos (by omega)).1
                first
                  |(have hb8:=hH.get (i:=3) rfl hon8
                    rw[hO8.hT]at hb8
                    obtain ⟨g1,g2,g3⟩:=lab_round (k:=es[j].1) (v:=v) (es':=es') (ck':=ck') (y8:=y8) hT hN (by decide) hm1 hm2 hk6 hyT hnT hyN hLy hkk (hH.obj (i:=1) rfl rfl) (hH.obj (i:=2) rfl rfl) (fun ho=>by have h:=hH.get (i:=4) rfl ho;rw[hON.hT]at h;exact h) hM' hO8 hb8 hr8
                    exact hKL6 (j+1) _ w' ⟨hj',g1,g2.congr (keyT_text hj' hv),g3.congr (keyN_text hj' hv)⟩ (by first|omega|(simp only;omega)) ⟨rfl,rfl,rfl,rfl,rfl,rfl,rfl,rfl,rfl,rfl,rfl,rfl,trivial⟩)
                  |(have hb8:=hH.get (i:=4) rfl hon8
                    rw[hO8.hT]at hb8
                    rw[hqv]at hO8
                    obtain ⟨g1,g2,g3⟩:=lab_round (k:=es[j].1) (v:=es[j].2.2) (es':=es') (ck':=ck') (y8:=y8) hN hT (by decide) hm2 hm1 hk6 hyN hnN hyT (fun c hc=>lab_sw (hLy c hc)) hkk (hH.obj (i:=2) rfl rfl) (hH.obj (i:=1) rfl rfl) (fun ho=>by have h:=hH.get (i:=3) rfl ho;rw[hOT.hT]at h;exact h) hM' hO8 hb8 hr8
                    exact hKL6 (j+1) _ w' ⟨hj',g1,g3.congr (keyT_num hj' hv),g2.congr (keyN_num hj' hv)⟩ (by first|omega|(simp only;omega)) ⟨rfl,rfl,rfl,rfl,rfl,rfl,rfl,rfl,rfl,rfl,rfl,rfl,trivial⟩)
              · obtain ⟨hv,hqv⟩:=lbq_num hq2 (Decidable.not_not.1 hq)
                refine cj_reg (jM (k:=jM (k:=jM (k:=jM (k:=?_)))))
                refine j_valw rfl (fun a w ha hH hf=>r_mlook1 2 rfl ru144 (keyT_string ru9) hN.hM zv53 rfl rfl (fun _ _ _=>⟨fun _ _=>trivial,trivial⟩) ha hH hf) ?_
                refine j_eqv hgN ?_
                refine jF 2 ru193 so2 (k:=jH 0 ag2 (k:=?_))
                refine j_bslice1 ru53 so2 zv2 rfl rfl rfl rfl rfl fun b315=>?_
                refine j_appOC 4 rfl hON ru53 el2 rfl rfl rfl rfl (by omega) rfl fun y8 p8 c8 hO8 hc8 hr8=>?_
                refine j_mapupd 2 rfl ru144 (keyT_string ru9) hN.hM rfl rfl rfl (fun _ _ _=>⟨fun _ _=>trivial,trivial⟩) fun es' ck' hM'=>?_
                refine K61 (CJ.t [(0,_),(3,_),(10,_),(19,_),(20,_),(21,_),(260,_),(261,_),(262,_),(271,_),(272,_),(273,_)] (k:=cj_reg (jI (k:=jM (k:=j_nil (ej_then ?_))))))
                intro w' hH hf
                have hkk:=Hp.keepX (f:=⟨u6,0,[1000000,tStr,tI64]⟩) (((((hH.drop 0).drop 0).drop 0).drop 0).drop 0) hf
                have hon8:=(hO8.pos (by omega)).1
                first
                  |(have hb8:=hH.get (i:=3) rfl hon8
                    rw[hO8.hT]at hb8
                    obtain ⟨g1,g2,g3⟩:=lab_round (k:=es[j].1) (v:=v) (es':=es') (ck':=ck') (y8:=y8) hT hN (by decide) hm1 hm2 hk6 hyT hnT hyN hLy hkk (hH.obj (i:=1) rfl rfl) (hH.obj (i:=2) rfl rfl) (fun ho=>by have h:=hH.get (i:=4) rfl ho;rw[hON.hT]at h;exact h) hM' hO8 hb8 hr8
                    exact hKL6 (j+1) _ w' ⟨hj',g1,g2.congr (keyT_text hj' hv),g3.congr (keyN_text hj' hv)⟩ (by first|omega|(simp only;omega)) ⟨rfl,rfl,rfl,rfl,rfl,rfl,rfl,rfl,rfl,rfl,rfl,rfl,trivial⟩)
                  |(have hb8:=hH.get (i:=4) rfl hon8
                    rw[hO8.hT]at hb8
                    rw[hqv]at hO8
                    obtain ⟨g1,g2,g3⟩:=lab_round (k:=es[j].1) (v:=es[j].2.2) (es':=es') (ck':=ck') (y8:=y8) hN hT (by decide) hm2 hm1 hk6 hyN hnN hyT (fun c hc=>lab_sw (hLy c hc)) hkk (hH.obj (i:=2) rfl rfl) (hH.obj (i:=1) rfl rfl) (fun ho=>by have h:=hH.get (i:=3) rfl ho;rw[hOT.hT]at h;exact h) hM' hO8 hb8 hr8
                    exact hKL6 (j+1) _ w' ⟨hj',g1,g3.congr (keyT_num hj' hv),g2.congr (keyN_num hj' hv)⟩ (by first|omega|(simp only;omega)) ⟨rfl,rfl,rfl,rfl,rfl,rfl,rfl,rfl,rfl,rfl,rfl,rfl,trivial⟩)
            · intro w7 hH7 hf7
              have hje:j=es.length:=by omega
              subst hje
              rw[List.take_of_length_le (Nat.le_refl _)]at hLT6 hLN6
              have hk7:KeepX [] u2 w7:=hk6.thenF hf7
              have hLT7:LM tStr .string u2.heap.size w7 b266 (keyT es):=hLT6.fr hf7
              have hLN7:LM tI64 (.int .i64) u2.heap.size w7 b267 (keyN es):=hLN6.fr hf7
              clear hLT6 hLN6 hKL6 hj h274 hH7
              obtain ⟨ckT,esT,hmT⟩:=hLT7.map
              obtain ⟨ckN,esN,hmN⟩:=hLN7.map
              have hst7:=hk7.blk hst (by simp)
              have hpu7:Blk w7 g.pb tProf _:=hk7.blk hpu (by simp)
              refine C.begin ⟨w7,0,[tSam]⟩ (_::restH w7 [g.sams[k2]]) ok_refl (Hp.one hst7 (Nat.zero_le _) rfl) ?_
              refine cj_exit (K57 (cj_seqF fun K67 hK67=>?_))
              have hJ320:∀v' lt,KeepX [g.sams[k2]] w7 v'→Blk v' g.sams[k2] tSam [.slice none 0 0,.slice pv x.samples[k2].values.length cv,lt,.map none,.map none,.slice pi x.samples[k2].stack.length ci,.slice pl es.length cl]→LabF tStr .string w7 lt (fT x.samples[k2])→N K67 489 [(0,ptr g.pb),(3,.nilIface),(10,.map (some b142)),(19,ptr g.sams[k2]),(21,.map (some b267)),(260,.slice (some ⟨bq,0,none⟩) x.samples.length c2),(261,.int .i64 (x.samples.length:Nat)),(262,.int .i64 (k2:Nat))] v':=by
                rintro v8 lt hk8 hb8 hlt
                refine hK67 ⟨v8,0,[tSam]⟩ _ (_::restH v8 [g.sams[k2]]) ?_ v8 (Hp.one hb8 (Nat.zero_le _) rfl) ok_refl
                have hmN8:=hk8.keep _ _ hmN (by simpa using map_neB hmN hst7)
                refine cj_seqF fun K68 hK68=>?_
                have hJ327:∀v' ln,KeepX [g.sams[k2]] v8 v'→Blk v' g.sams[k2] tSam [.slice none 0 0,.slice pv x.samples[k2].values.length cv,lt,ln,.map none,.slice pi x.samples[k2].stack.length ci,.slice pl es.length cl]→LabF tI64 (.int .i64) w7 ln (fN x.samples[k2])→N K68 489 [(0,ptr g.pb),(3,.nilIface),(10,.map (some b142)),(19,ptr g.sams[k2]),(260,.slice (some ⟨bq,0,none⟩) x.samples.length c2),(261,.int .i64 (x.samples.length:Nat)),(262,.int .i64 (k2:Nat))] v':=by
                  rintro v9 ln hk9 hb9 hlb
                  have hk29:KeepX [g.sams[k2]] u2 v9:=((hk7.mono (by simp)).trans' hk8).trans' hk9
                  have hbu:∀{T0:Nat} {c:Nat} {ds:List Value},Nat.beq T0 tSam=false→Blk u2 c T0 ds→Blk v9 c T0 ds:=fun hT hb=>hk29.blk hb (by simpa using hb.ne hst (fun e=>by rw[e]at hT;simp at hT))
                  have hci:=OS.openS (hri.os.mono fun b cs hb=>hbu rfl hb)
                  have hIv:MapId v9 b142 (x.locs.map (·.id)) g.locs:=hI4.other hk29 (by simpa using hI4.neB hst)
                  have hMl:∀(z:Int),z<x.locs.length→∀w',Fm.ok ⟨v9,0,[tSam]⟩ w'→MapHas (Value.int .u64) b142 (lid x z) (.pointer none) (ptrAt g.locs z) w':=fun z hz w' hf=>(hIv.keep (fr_mapE hf rfl)).has (by simpa using hR.locs.1.symm) hx.tab.l.1 hx.tab.l.2.1 (by simpa using hz)
                  refine hK68 ⟨v9,0,[tSam]⟩ _ (_::restH v9 [g.sams[k2]]) ?_ v9 (Hp.one hb9 (Nat.zero_le _) rfl) ok_refl
                  refine sQ fun K69=>cj_reg (jM (k:=jN (k:=jF 0 ru147 so121 (k:=jB [_,_,_,_,_,_,_] (_::_) 0 so121 (k:=K69 (sQ fun K70=>sQ fun K71=>cj_reg (jM (k:=jN (k:=jF 5 ru147 so84 (k:=jH 0 ag84 (k:=?_)))))))))))
                  refine jE ru84 (k:=jM (k:=K71 (cj_block ?_)))
                  refine cj_loop (σ:=Nat×Ent×Option Addr×Nat) (fun s=>[(0,ptr g.pb),(3,.nilIface),(10,.map (some b142)),(19,ptr g.sams[k2]),(260,.slice (some ⟨bq,0,none⟩) x.samples.length c2),(261,.int .i64 (x.samples.length:Nat)),(262,.int .i64 (k2:Nat)),(338,.slice pi x.samples[k2].stack.length ci),(339,.int .i64 (x.samples[k2].stack.length:Nat)),(340,.int .i64 (s.1:Nat))])
                    (fun s=>s.2.1::⟨g.sams[k2],tSam,[.slice s.2.2.1 s.1 s.2.2.2,.slice pv x.samples[k2].values.length cv,lt,ln,.map none,.slice pi x.samples[k2].stack.length ci,.slice pl es.length cl],true,true,none⟩::restH v9 [g.sams[k2]])
                    (fun s _=>s.1≤x.samples[k2].stack.length∧Own pLoc 1 s.2.1 s.2.2.1 s.1 s.2.2.2 ((x.samples[k2].stack.take s.1).map (ptrAt g.locs))) (fun s=>x.samples[k2].stack.length - s.1)
                    (0,nilE pLoc,none,0) sR (fun w' hH hf=>⟨hH.off,Nat.zero_le _,Own.nil⟩) ?_
                  rintro ⟨m,ym,pm,cm⟩ wm ⟨hm,hOm⟩ hfm hHm KLm hKLm
                  try dsimp only at hm hOm
                  refine C.begin _ _ hfm hHm ?_
                  try dsimp only
                  refine sQ fun K72=>cj_reg (jS (k:=K72 (sQ fun K73=>?_)))
                  refine cj_dec rfl (fun h341=>?_) (fun h341=>?_)
                  · have hm':m<x.samples[k2].stack.length:=by omega
                    obtain ⟨bi,rfl,hcx⟩:=hci (by omega)
                    obtain ⟨hz0,hzl⟩:=hsk _ (List.getElem_mem hm')
                    have hci1:∀w',Fm.ok ⟨v9,0,[tSam]⟩ w'→w'.cell? ⟨bi,0+m*1,none⟩=some (.int .u64 (lid x x.samples[k2].stack[m])):=fun w' hf=>by
                      have h:=hcx ⟨v9,0,[tSam]⟩ rfl rfl w' hf m (.int .u64 (lid x x.samples[k2].stack[m])) (by rw[List.getElem?_map,List.getElem?_eq_getElem hm'];rfl)
                      simpa using h
                    refine cj_skip (K73 (sQ fun K74=>cj_block (sQ fun K75=>cj_reg (jJ ru84 so71 (k:=?_)))))
                    refine j_valw rfl (fun a w ha hH hf=>r_load ag71 rfl (hci1 w hf) ha) (jA (k:=K75 ?_))
                    refine cj_drawI 12 (lts [0,1,2,3,4,5,6,7]++(8,false)::((9,false)::(lts [10,11]++(12,false)::[]))) [1] rfl (by kernel_rfl) (by kernel_rfl) (dM [1] (k:=dM [1] (k:=dN [1] (k:=dF [1] 0 ru147 so121 (k:=dH [1] 0 ag121 (k:=dM [1] (k:=dM [1] (k:=?_))))))))
                    refine dj_ld rfl rfl (sub_of [1] rfl) (fun a w ha hS=>r_lookT ru183 (keyT_int ru71) zv134 rfl rfl ha (hMl _ hzl w hS.2)) (dE (h:=fun Kd=>j_bslice1 ru121 so134 zv134 rfl rfl rfl rfl rfl fun b352=>Kd (sb [2]) (dE (h:=fun Kd=>?_))))
                    refine j_appO 0 rfl hOm ru121 el134 rfl rfl rfl rfl rfl (by omega) rfl fun y353 p353 c353 hO353=>?_
                    refine Kd (sb [1]) (dN [1] (k:=dF [1] 0 ru147 so121 (k:=dE (h:=fun Kd=>jB [_,_,_,_,_,_,_] (_::_::_) 1 so121 (k:=Kd (.inl rfl) (K74 (CJ.t [(0,_),(3,_),(10,_),(19,_),(260,_),(261,_),(262,_),(338,_),(339,_),(340,_)] (k:=cj_reg (jI (k:=jM (k:=j_nil (ej_then ?_))))))))))))
                    exact fun w' hH hf=>hKLm (m+1,y353,p353,c353) _ w' ⟨hm',by rw[← List.take_append_getElem hm',List.map_append];exact hO353⟩ hf hH (by simp only;omega) sR
                  · have hme:m=x.samples[k2].stack.length:=by omega
                    rw[List.take_of_length_le (by omega)]at hOm
                    refine cj_exit (K70 (cj_reg (jM (k:=jN (k:=jF 5 ru147 so84 (k:=jB [_,_,_,_,_,_,_] (_::_::_) 1 so84 (k:=K53 (cj_reg (jI (k:=jM (k:=j_nil (ej_then ?_))))))))))))
                    intro w10 hH hf
                    have hk10:KeepX [g.sams[k2]] v9 w10:=Hp.keepX ((hH.drop 0).drop 0) hf
                    have hk210:=hk29.trans' hk10
                    have hk710:KeepX [g.sams[k2]] w7 w10:=(hk8.trans' hk9).trans' hk10
                    have kr:∀(T0:Nat),Nat.beq T0 tSam=false→∀b cs,Blk w7 b T0 cs→Blk w10 b T0 cs:=fun T0 hT b cs hb=>hk710.blk hb (by simpa using hb.ne hst7 (fun e=>by rw[e]at hT;simp at hT))
                    have km:∀(b:Nat) (es:Array MapEntry) (ck:Nat),w7.heap[b]? =some (.map es ck)→w10.heap[b]? =some (.map es ck):=fun b es ck hb=>hk710.keep _ _ hb (by simpa using map_neB hb hst7)
                    have hSQ:SamQ w10 g.locs g.sams[k2] x.samples[k2]:=⟨_,_,lt,ln,_,_,hH.get (i:=1) rfl rfl,hOm.os hH (i:=0) rfl,(hrv.os.mono fun b cs hb=>hk7.blk hb (by simp)).mono (kr _ rfl),hlt.mono (kr _ rfl) km,hlb.mono (kr _ rfl) km,rfl,rfl⟩
                    exact hKL2 (k2+1) _ w10 ⟨hk',hP2.s2 hR.nsams hbe hxe hBb hst hk210 hSQ,hI4.other hk210 (by simpa using hI4.neB hst)⟩ (by first|omega|(simp only;omega)) ⟨rfl,rfl,rfl,rfl,rfl,rfl,trivial⟩
                clear hK68
                refine sQ fun K76=>cj_reg (jM (k:=?_))
                refine j_valw rfl (fun a w ha hH hf=>r_mlenT ru144 rfl (fr_mapE hf rfl _ _ hmN8) ha) (jG (k:=K76 (CJ.t [(0,_),(3,_),(10,_),(19,_),(21,_),(260,_),(261,_),(262,_),(327,_)] (k:=?_))))
                refine cj_dec rfl (fun hz2=>?_) (fun hz2=>?_)
                · have hlb:LabF tI64 (.int .i64) w7 (.map (some b267)) (fN x.samples[k2]):=hLN7.lab.congr (LbsS.fn hLS)
                  refine cj_reg (jM (k:=jM (k:=jN (k:=jF 3 ru147 so144 (k:=jB [_,_,_,_,_,_,_] (_::_) 0 so144 (k:=j_nil (ej_then ?_)))))))
                  exact fun v' hH hf=>N.sub' (hJ327 v' _ (Hp.keepX (hH.drop 0) hf) (hH.get (i:=0) rfl rfl) hlb) sR
                · have hlb:LabF tI64 (.int .i64) w7 (.map none) (fN x.samples[k2]):=LabF.congr (.inl ⟨rfl,hLN7.none hmN (by omega)⟩) (LbsS.fn hLS)
                  refine cj_skip (ej_then ?_)
                  exact fun v' hH hf=>N.sub' (hJ327 v' _ (Hp.keepX (hH.drop 0) hf) (hH.get (i:=0) rfl rfl) hlb) sR
              clear hK67
              refine sQ fun K77=>cj_reg (jM (k:=?_))
              refine j_valw rfl (fun a w ha hH hf=>r_mlenT ru143 rfl (fr_mapE hf rfl _ _ hmT) ha) (jG (k:=K77 ?_))
              refine cj_dec rfl (fun hz1=>?_) (fun hz1=>?_)
              · have hla:LabF tStr .string w7 (.map (some b266)) (fT x.samples[k2]):=hLT7.lab.congr (LbsS.ft hLS)
                refine cj_reg (jM (k:=jM (k:=jN (k:=jF 2 ru147 so143 (k:=jB [_,_,_,_,_,_,_] (_::_) 0 so143 (k:=j_nil (ej_then ?_)))))))
                exact fun v' hH hf=>N.sub' (hJ320 v' _ (Hp.keepX (hH.drop 0) hf) (hH.get (i:=0) rfl rfl) hla) sR
              · have hla:LabF tStr .string w7 (.map none) (fT x.samples[k2]):=LabF.congr (.inl ⟨rfl,hLT7.none hmT (by omega)⟩) (LbsS.ft hLS)
                refine cj_skip (ej_then ?_)
                exact fun v' hH hf=>N.sub' (hJ320 v' _ (Hp.keepX (hH.drop 0) hf) (hH.get (i:=0) rfl rfl) hla) sR
          · have hke2:k2=x.samples.length:=by omega
            subst hke2
            clear hKL2 hk2 h263 hI4
            intro wA hHA hfA
            have hQA:=hP2.keep (KeepX.of hfA)
            have hpA:Blk wA g.pb tProf _:=fr_row hQA.fr rfl _ _ hpf
            have htA:OS tStr 1 wA (.slice p6 T.length c6) (T.map .string):=htab.mono (fr_row hQA.fr rfl)
            have hcA:OS tI64 1 wA (.slice p7 x.comments.length c7) (cx.map (.int .i64)):=hcom.mono (fr_row hQA.fr rfl)
            clear hHA hfA hP2
            obtain ⟨pp,rfl⟩:∃pp,vp=.pointer pp:=by
              rcases hR.per with ⟨h, -⟩|⟨h, -⟩
              · exact ⟨_,h⟩
              · exact ⟨_,h⟩
            refine C.begin ⟨wA,0,[tProf]⟩ (_::restH wA [g.pb]) ok_refl (Hp.one hpA (Nat.zero_le _) rfl) ?_
            refine cj_exit (K49 (sQ fun K78=>?_))
            refine cj_drawT 17 (lts [0,1,2,3,4,5,6,7,8]++(9,false)::(lts [10,11,12,13,14]++(15,false)::lts [16])) [] rfl (fun w=>w.cell? ⟨g.pb,16,none⟩=some (.slice p6 T.length c6)) (by kernel_rfl) (by kernel_rfl) ?_
            refine dj_valT rfl rfl (sub_of [] rfl) (fun w hH hf=>(hH.get (i:=0) rfl rfl).cell' rfl) (fun _ _ h=>r_move rfl h) (dj_valT rfl rfl (sub_of [] rfl) (fun w hH hf=>(hH.get (i:=0) rfl rfl).cell' rfl) (fun _ _ h=>r_move rfl h) (dj_valT rfl rfl (sub_of [] rfl) (fun w hH hf=>(hH.get (i:=0) rfl rfl).cell' rfl) (fun _ _ h=>r_nil rfl h) (dj_valT rfl rfl (sub_of [] rfl) (fun w hH hf=>(hH.get (i:=0) rfl rfl).cell' rfl) (fun _ _ h=>r_fl (q:=16) (ft:=27) ru125 rfl so27 rfl h) ?_)))
            refine dj_lkT rfl rfl (sub_of [] rfl) (fun w hH hf=>(hH.get (i:=0) rfl rfl).cell' rfl) (fun a w ha hT=>r_load ag27 rfl hT ha) ?_
            refine dj_valT rfl rfl (sub_of [] rfl) (fun w hH hf=>(hH.get (i:=0) rfl rfl).cell' rfl) (fun _ _ h=>r_move rfl h) (dj_valT rfl rfl (sub_of [] rfl) (fun w hH hf=>(hH.get (i:=0) rfl rfl).cell' rfl) (fun _ _ h=>r_nil rfl h) (dj_valT rfl rfl (sub_of [] rfl) (fun w hH hf=>(hH.get (i:=0) rfl rfl).cell' rfl) (fun _ _ h=>r_fl (q:=14) (ft:=2) ru125 rfl so2 rfl h) (dj_valT rfl rfl (sub_of [] rfl) (fun w hH hf=>(hH.get (i:=0) rfl rfl).cell' rfl) (fun _ _ h=>r_move rfl h) (dj_effW rfl fun K2 hK2=>?_))))
            refine j_getS 0 rfl rfl rfl rfl (off:=14) rfl hdx htA rfl rfl hl rfl rfl ?_
            refine j_nil (ej_then (hK2 _ _ (.inr ⟨(sub_of [] rfl),(fun w hH hf=>(hH.get (i:=0) rfl rfl).cell' rfl)⟩) ?_));clear hK2 K2
            refine dj_valT rfl rfl (sub_of [] rfl) (fun w hH hf=>(hH.get (i:=0) rfl rfl).cell' rfl) (fun _ _ h=>r_move rfl h) (dj_valT rfl rfl (sub_of [] rfl) (fun w hH hf=>(hH.get (i:=0) rfl rfl).cell' rfl) (fun _ _ h=>r_extract rfl rfl h) (dj_valT rfl rfl (sub_of [] rfl) (fun w hH hf=>(hH.get (i:=0) rfl rfl).cell' rfl) (fun _ _ h=>r_extract rfl rfl h) (dj_valT rfl rfl (sub_of [] rfl) (fun w hH hf=>(hH.get (i:=0) rfl rfl).cell' rfl) (fun _ _ h=>r_nil rfl h) (dj_valT rfl rfl (sub_of [] rfl) (fun w hH hf=>(hH.get (i:=0) rfl rfl).cell' rfl) (fun _ _ h=>r_fl (q:=7) (ft:=9) ru125 rfl so9 rfl h) (dj_effW rfl fun K2 hK2=>?_)))))
            refine j_put (o:=7) 0 rfl rfl rfl rfl so9 rfl rfl rfl rfl (Nat.le_of_ble_eq_true rfl) ?_
            refine j_nil (ej_then (hK2 _ _ (.inr ⟨(sub_of [] rfl),(fun w hH hf=>(hH.get (i:=0) rfl rfl).cell' rfl)⟩) ?_));clear hK2 K2
            refine dj_valT rfl rfl (sub_of [] rfl) (fun w hH hf=>(hH.get (i:=0) rfl rfl).cell' rfl) (fun _ _ h=>r_assign rfl h) (K78 (CJ.t [(0,_),(3,_)] (k:=sQ fun K79=>?_)))
            refine cj_drawT 17 (lts [0,1,2,3,4,5,6,7,8]++(9,false)::(lts [10,11,12,13,14]++(15,false)::lts [16])) [] rfl (fun w=>w.cell? ⟨g.pb,16,none⟩=some (.slice p6 T.length c6)) (by kernel_rfl) (by kernel_rfl) ?_
            refine dj_valT rfl rfl (sub_of [] rfl) (fun w hH hf=>(hH.get (i:=0) rfl rfl).cell' rfl) (fun _ _ h=>r_move rfl h) (dj_valT rfl rfl (sub_of [] rfl) (fun w hH hf=>(hH.get (i:=0) rfl rfl).cell' rfl) (fun _ _ h=>r_move rfl h) (dj_valT rfl rfl (sub_of [] rfl) (fun w hH hf=>(hH.get (i:=0) rfl rfl).cell' rfl) (fun _ _ h=>r_nil rfl h) (dj_valT rfl rfl (sub_of [] rfl) (fun w hH hf=>(hH.get (i:=0) rfl rfl).cell' rfl) (fun _ _ h=>r_fl (q:=16) (ft:=27) ru125 rfl so27 rfl h) ?_)))
            refine dj_lkT rfl rfl (sub_of [] rfl) (fun w hH hf=>(hH.get (i:=0) rfl rfl).cell' rfl) (fun a w ha hT=>r_load ag27 rfl hT ha) ?_
            refine dj_valT rfl rfl (sub_of [] rfl) (fun w hH hf=>(hH.get (i:=0) rfl rfl).cell' rfl) (fun _ _ h=>r_move rfl h) (dj_valT rfl rfl (sub_of [] rfl) (fun w hH hf=>(hH.get (i:=0) rfl rfl).cell' rfl) (fun _ _ h=>r_nil rfl h) (dj_valT rfl rfl (sub_of [] rfl) (fun w hH hf=>(hH.get (i:=0) rfl rfl).cell' rfl) (fun _ _ h=>r_fl (q:=15) (ft:=2) ru125 rfl so2 rfl h) (dj_valT rfl rfl (sub_of [] rfl) (fun w hH hf=>(hH.get (i:=0) rfl rfl).cell' rfl) (fun _ _ h=>r_move rfl h) (dj_effW rfl fun K2 hK2=>?_))))
            refine j_getS 0 rfl rfl rfl rfl (off:=15) rfl hkx htA rfl rfl hl rfl rfl ?_
            refine j_nil (ej_then (hK2 _ _ (.inr ⟨(sub_of [] rfl),(fun w hH hf=>(hH.get (i:=0) rfl rfl).cell' rfl)⟩) ?_));clear hK2 K2
            refine dj_valT rfl rfl (sub_of [] rfl) (fun w hH hf=>(hH.get (i:=0) rfl rfl).cell' rfl) (fun _ _ h=>r_move rfl h) (dj_valT rfl rfl (sub_of [] rfl) (fun w hH hf=>(hH.get (i:=0) rfl rfl).cell' rfl) (fun _ _ h=>r_extract rfl rfl h) (dj_valT rfl rfl (sub_of [] rfl) (fun w hH hf=>(hH.get (i:=0) rfl rfl).cell' rfl) (fun _ _ h=>r_extract rfl rfl h) (dj_valT rfl rfl (sub_of [] rfl) (fun w hH hf=>(hH.get (i:=0) rfl rfl).cell' rfl) (fun _ _ h=>r_nil rfl h) (dj_valT rfl rfl (sub_of [] rfl) (fun w hH hf=>(hH.get (i:=0) rfl rfl).cell' rfl) (fun _ _ h=>r_fl (q:=8) (ft:=9) ru125 rfl so9 rfl h) (dj_effW rfl fun K2 hK2=>?_)))))
            refine j_put (o:=8) 0 rfl rfl rfl rfl so9 rfl rfl rfl rfl (Nat.le_of_ble_eq_true rfl) ?_
            refine j_nil (ej_then (hK2 _ _ (.inr ⟨(sub_of [] rfl),(fun w hH hf=>(hH.get (i:=0) rfl rfl).cell' rfl)⟩) ?_));clear hK2 K2
            refine dj_valT rfl rfl (sub_of [] rfl) (fun w hH hf=>(hH.get (i:=0) rfl rfl).cell' rfl) (fun _ _ h=>r_assign rfl h) (K79 (CJ.t [(0,_),(3,_)] (k:=?_)))
            refine cj_seqF fun K80 hK80=>?_
            have hJ396:∀v' p9,KeepX [g.pb] wA v'→Blk v' g.pb tProf [.slice p1 x.types.length c1,.string eB,.slice p2 x.samples.length c2,.slice p3 x.mappings.length c3,.slice p4 x.locs.length c4,.slice p5 x.funcs.length c5,.slice none 0 0,.string x.drop,.string x.keep,.int .i64 x.time,.int .i64 x.dur,ptr p9,.int .i64 x.period,.slice p7 x.comments.length c7,.int .i64 0,.int .i64 0,.slice p6 T.length c6,.int .i64 sx]→(∃n m,Blk v' p9 tVT [.string eB,.string eB,.int .i64 n,.int .i64 m]∧At T n x.per.ty∧At T m x.per.unit)∧B≤p9∧p9∉g.types→N K80 489 [(0,ptr g.pb),(3,.nilIface)] v':=by
              rintro v8 p9 hk8 hb8 ⟨⟨n9,m9,hv8,hn9,hm9⟩,hB9,hnt9⟩
              have htA8:OS tStr 1 v8 (.slice p6 T.length c6) (T.map .string):=htA.mono fun b cs hb=>hk8.blk hb (by simpa using hb.ne hpA (by decide))
              have hcA8:OS tI64 1 v8 (.slice p7 x.comments.length c7) (cx.map (.int .i64)):=hcA.mono fun b cs hb=>hk8.blk hb (by simpa using hb.ne hpA (by decide))
              have hcx8:=OS.openS hcA8
              refine hK80 ⟨v8,0,[tProf,tVT]⟩ _ (_::_::restH v8 [g.pb,p9]) ?_ v8 (Hp.pair hb8 hv8 (by decide) rfl rfl) ok_refl
              refine sQ fun K81=>sQ fun K82=>cj_reg (jM (k:=jN (k:=jF 11 ru125 so123 (k:=jH 0 ag123 (k:=jA (k:=K82 (sQ fun K83=>cj_reg (jM (k:=?_)))))))))
              refine j_val rfl (fun _ _ h=>r_pnneq ud123 rfl h) (K83 (cj_if_t rfl (sQ fun K84=>cj_drawI 17 (lts [0,1,2,3,4,5,6,7,8]++(9,false)::(lts [10,11,12,13,14]++(15,false)::lts [16])) [0] rfl (by kernel_rfl) (by kernel_rfl) (dM [0] (k:=dM [0] (k:=dN [0] (k:=dF [0] 16 ru125 so27 (k:=dH [0] 0 ag27 (k:=dM [0] (k:=dN [0] (k:=dF [0] 2 ru127 so2 (k:=dM [0] (k:=?_)))))))))))))
              refine dE (h:=fun Kd=>?_)
              refine j_getS 1 rfl rfl rfl rfl (off:=2) rfl hn9 htA8 rfl rfl hl rfl rfl ?_
              refine Kd (sb [0]) (dM [0] (k:=?_))
              refine dj_val rfl rfl (sub_of [0] rfl) (fun _ _ h=>r_extract rfl rfl h) (dj_val rfl rfl (sub_of [0] rfl) (fun _ _ h=>r_extract rfl rfl h) (dN [0] (k:=dF [0] 0 ru127 so9 (k:=dE (h:=fun Kd=>jB [_,_,_,_] (_::_::_) 1 so9 (k:=Kd (sb [0]) (dA [0] (k:=K84 (CJ.t [(0,_),(3,_),(29,_)] (k:=?_))))))))))
              refine cj_drawI 17 (lts [0,1,2,3,4,5,6,7,8]++(9,false)::(lts [10,11,12,13,14]++(15,false)::lts [16])) [0] rfl (by kernel_rfl) (by kernel_rfl) (dM [0] (k:=dM [0] (k:=dN [0] (k:=dF [0] 16 ru125 so27 (k:=dH [0] 0 ag27 (k:=dM [0] (k:=dN [0] (k:=dF [0] 3 ru127 so2 (k:=dM [0] (k:=dE (h:=fun Kd=>?_)))))))))))
              refine j_getS 1 rfl rfl rfl rfl (off:=3) rfl hm9 htA8 rfl rfl hl rfl rfl ?_
              refine Kd (sb [0]) (dM [0] (k:=?_))
              refine dj_val rfl rfl (sub_of [0] rfl) (fun _ _ h=>r_extract rfl rfl h) (dj_val rfl rfl (sub_of [0] rfl) (fun _ _ h=>r_extract rfl rfl h) (dN [0] (k:=dF [0] 1 ru127 so9 (k:=dE (h:=fun Kd=>jB [_,_,_,_] (_::_::_) 1 so9 (k:=Kd (sb [0]) (dA [0] (k:=K81 (CJ.t [(0,_),(3,_)] (k:=sQ fun K85=>sQ fun K86=>cj_reg (jM (k:=?_))))))))))))
              refine jN (k:=jF 13 ru125 so53 (k:=jH 0 ag53 (k:=jE ru53 (k:=jM (k:=K86 (cj_block ?_))))))
              refine cj_loop (σ:=Nat×Ent×Option Addr×Nat) (fun s=>[(0,ptr g.pb),(3,.nilIface),(441,.slice p7 x.comments.length c7),(442,.int .i64 (x.comments.length:Nat)),(443,.int .i64 (s.1:Nat))])
                (fun s=>s.2.1::⟨g.pb,tProf,[.slice p1 x.types.length c1,.string eB,.slice p2 x.samples.length c2,.slice p3 x.mappings.length c3,.slice p4 x.locs.length c4,.slice p5 x.funcs.length c5,.slice s.2.2.1 s.1 s.2.2.2,.string x.drop,.string x.keep,.int .i64 x.time,.int .i64 x.dur,ptr p9,.int .i64 x.period,.slice p7 x.comments.length c7,.int .i64 0,.int .i64 0,.slice p6 T.length c6,.int .i64 sx],true,true,none⟩::⟨p9,tVT,cVT x.per,true,true,none⟩::restH v8 [g.pb,p9])
                (fun s _=>s.1≤x.comments.length∧Own tStr 1 s.2.1 s.2.2.1 s.1 s.2.2.2 ((x.comments.take s.1).map .string)) (fun s=>x.comments.length - s.1)
                (0,nilE tStr,none,0) sR (fun w' hH hf=>⟨hH.off,Nat.zero_le _,Own.nil⟩) ?_
              rintro ⟨m,ym,pm,cm⟩ wm ⟨hm,hOm⟩ hfm hHm KLm hKLm
              try dsimp only at hm hOm
              refine C.begin _ _ hfm hHm ?_
              try dsimp only
              refine sQ fun K87=>cj_reg (jS (k:=K87 (sQ fun K88=>?_)))
              refine cj_dec rfl (fun h444=>?_) (fun h444=>?_)
              · have hm':m<x.comments.length:=by omega
                obtain ⟨bi,rfl,hcx1⟩:=hcx8 (by omega)
                have hml:m<cx.length:=by rw[hcx.1];exact hm'
                have hat:=hcx.2 m _ _ (List.getElem?_eq_getElem hm') (List.getElem?_eq_getElem hml)
                have hcc:∀w',Fm.ok ⟨v8,0,[tProf,tVT]⟩ w'→w'.cell? ⟨bi,0+m*1,none⟩=some (.int .i64 cx[m]):=fun w' hf=>by
                  have h:=hcx1 ⟨v8,0,[tProf,tVT]⟩ rfl rfl w' hf m (.int .i64 cx[m]) (by rw[List.getElem?_map,List.getElem?_eq_getElem hml];rfl)
                  simpa using h
                refine cj_skip (K88 (sQ fun K89=>cj_block (sQ fun K90=>cj_reg (jJ ru53 so2 (k:=?_)))))
                refine j_valw rfl (fun a w ha hH hf=>r_load ag2 rfl (hcc w hf) ha) (j_alloc1 zv2 rfl rfl fun b31=>jB [_] (_::_::_::_::_) 0 so2 (k:=K90 (sQ fun K91=>cj_reg (jA (k:=K91 (sQ fun K92=>cj_reg (jM (k:=jN (k:=jF 16 ru125 so27 (k:=jH 2 ag27 (k:=?_)))))))))))
                refine jM (k:=?_)
                refine j_getS 0 rfl rfl rfl rfl (off:=0) rfl hat htA8 rfl rfl hl rfl rfl ?_
                refine jM (k:=jX (k:=jX (k:=jA (k:=jA (k:=K92 (CJ.t [(0,_),(3,_),(32,_),(441,_),(442,_),(443,_)] (k:=cj_reg (jM (k:=jM (k:=jN (k:=jF 6 ru125 so27 (k:=jH 2 ag27 (k:=jM (k:=?_))))))))))))))
                refine j_bslice1 ru27 so9 zv9 rfl rfl rfl rfl rfl fun b462=>?_
                refine j_appO 1 rfl hOm ru27 el9 rfl rfl rfl rfl rfl (by omega) rfl fun y463 p463 c463 hO463=>?_
                refine jN (k:=jF 6 ru125 so27 (k:=?_))
                refine j_put (o:=6) 2 rfl rfl rfl rfl so27 rfl rfl rfl rfl (Nat.le_of_ble_eq_true rfl) ?_
                refine K89 (cj_reg (jI (k:=jM (k:=j_nil (ej_then ?_)))))
                exact fun w' hH hf=>hKLm (m+1,y463,p463,c463) _ w' ⟨hm',by rw[← List.take_append_getElem hm',List.map_append];exact hO463⟩ hf (hH.drop 0) (by simp only;omega) sR
              · have hme:m=x.comments.length:=by omega
                rw[List.take_of_length_le (by omega)]at hOm
                replace htA:OS tStr 1 v8 (.slice p6 T.length c6) (T.map .string):=htA8
                refine cj_exit (K85 (CJ.t [(0,_),(3,_)] (k:=sQ fun K93=>cj_reg (jM (k:=jN (k:=jF 13 ru125 so53 (k:=?_)))))))
                refine j_put (o:=13) 1 rfl rfl rfl rfl so53 rfl rfl rfl rfl (Nat.le_of_ble_eq_true rfl) ?_
                refine K93 (sQ fun K94=>?_)
                refine cj_drawT 17 (lts [0,1,2,3,4,5,6,7,8]++(9,false)::(lts [10,11,12,13,14]++(15,false)::lts [16])) [] rfl (fun w=>w.cell? ⟨g.pb,16,none⟩=some (.slice p6 T.length c6)) (by kernel_rfl) (by kernel_rfl) ?_
                refine dj_valT rfl rfl (sub_of [] rfl) (fun w hH hf=>(hH.get (i:=1) rfl rfl).cell' rfl) (fun _ _ h=>r_move rfl h) (dj_valT rfl rfl (sub_of [] rfl) (fun w hH hf=>(hH.get (i:=1) rfl rfl).cell' rfl) (fun _ _ h=>r_move rfl h) (dj_valT rfl rfl (sub_of [] rfl) (fun w hH hf=>(hH.get (i:=1) rfl rfl).cell' rfl) (fun _ _ h=>r_nil rfl h) (dj_valT rfl rfl (sub_of [] rfl) (fun w hH hf=>(hH.get (i:=1) rfl rfl).cell' rfl) (fun _ _ h=>r_fl (q:=16) (ft:=27) ru125 rfl so27 rfl h) ?_)))
                refine dj_lkT rfl rfl (sub_of [] rfl) (fun w hH hf=>(hH.get (i:=1) rfl rfl).cell' rfl) (fun a w ha hT=>r_load ag27 rfl hT ha) ?_
                refine dj_valT rfl rfl (sub_of [] rfl) (fun w hH hf=>(hH.get (i:=1) rfl rfl).cell' rfl) (fun _ _ h=>r_move rfl h) (dj_valT rfl rfl (sub_of [] rfl) (fun w hH hf=>(hH.get (i:=1) rfl rfl).cell' rfl) (fun _ _ h=>r_nil rfl h) (dj_valT rfl rfl (sub_of [] rfl) (fun w hH hf=>(hH.get (i:=1) rfl rfl).cell' rfl) (fun _ _ h=>r_fl (q:=17) (ft:=2) ru125 rfl so2 rfl h) (dj_valT rfl rfl (sub_of [] rfl) (fun w hH hf=>(hH.get (i:=1) rfl rfl).cell' rfl) (fun _ _ h=>r_move rfl h) (dj_effW rfl fun K2 hK2=>?_))))
                refine j_getS 1 rfl rfl rfl rfl (off:=17) rfl hsx htA rfl rfl hl rfl rfl ?_
                refine j_nil (ej_then (hK2 _ _ (.inr ⟨(sub_of [] rfl),(fun w hH hf=>(hH.get (i:=1) rfl rfl).cell' rfl)⟩) ?_));clear hK2 K2
                refine dj_valT rfl rfl (sub_of [] rfl) (fun w hH hf=>(hH.get (i:=1) rfl rfl).cell' rfl) (fun _ _ h=>r_move rfl h) (dj_valT rfl rfl (sub_of [] rfl) (fun w hH hf=>(hH.get (i:=1) rfl rfl).cell' rfl) (fun _ _ h=>r_extract rfl rfl h) (dj_valT rfl rfl (sub_of [] rfl) (fun w hH hf=>(hH.get (i:=1) rfl rfl).cell' rfl) (fun _ _ h=>r_extract rfl rfl h) (dj_valT rfl rfl (sub_of [] rfl) (fun w hH hf=>(hH.get (i:=1) rfl rfl).cell' rfl) (fun _ _ h=>r_nil rfl h) (dj_valT rfl rfl (sub_of [] rfl) (fun w hH hf=>(hH.get (i:=1) rfl rfl).cell' rfl) (fun _ _ h=>r_fl (q:=1) (ft:=9) ru125 rfl so9 rfl h) (dj_effW rfl fun K2 hK2=>?_)))))
                refine j_put (o:=1) 1 rfl rfl rfl rfl so9 rfl rfl rfl rfl (Nat.le_of_ble_eq_true rfl) ?_
                refine j_nil (ej_then (hK2 _ _ (.inr ⟨(sub_of [] rfl),(fun w hH hf=>(hH.get (i:=1) rfl rfl).cell' rfl)⟩) ?_));clear hK2 K2
                refine dj_valT rfl rfl (sub_of [] rfl) (fun w hH hf=>(hH.get (i:=1) rfl rfl).cell' rfl) (fun _ _ h=>r_assign rfl h) (K94 (CJ.t [(0,_),(3,_)] (k:=sQ fun K95=>cj_reg (jM (k:=jN (k:=jF 16 ru125 so27 (k:=?_)))))))
                refine j_put (o:=16) 1 rfl rfl rfl rfl so27 rfl rfl rfl rfl (Nat.le_of_ble_eq_true rfl) ?_
                refine K95 (sQ fun K96=>cj_reg (jM (k:=jA (k:=K96 (cj_ret ?_)))))
                exact ej_ret1 results89 rfl fun w' hH hf=>⟨rfl,⟨g.pb,p9,g.types,g.maps,g.funs,g.locs,g.sams⟩,rfl,ofq_end hR hpb hty hsa hma hlo hfu hQA hpA hk8 hb8 hv8 hB9 hnt9 (Hp.keepX (l:=[g.pb,p9]) (((hH.drop 0).drop 0).drop 0) hf) (hH.get (i:=1) rfl rfl) (hOm.os hH (i:=0) rfl) (hH.get (i:=2) rfl rfl)⟩
            clear hK80
            refine sQ fun K97=>cj_reg (jM (k:=jN (k:=jF 11 ru125 so123 (k:=jH 0 ag123 (k:=jA (k:=K97 (CJ.t [(0,_),(3,_),(28,_)] (k:=sQ fun K98=>cj_reg (jM (k:=?_))))))))))
            refine j_val rfl (fun _ _ h=>r_pneql ud123 rfl h) (K98 ?_)
            refine cj_if rfl (fun hn=>?_) (fun hn=>?_)
            · refine cj_reg (jM (k:=?_))
              refine j_val rfl (fun _ _ h=>r_build (cs:=[(.string ⟨#[]⟩),(.string ⟨#[]⟩),(.int .i64 0),(.int .i64 0)]) bt127 rfl rfl h) (j_boxA (vs:=[_,_,_,_]) rfl rfl fun b399=>jN (k:=jF 11 ru125 so123 (k:=?_)))
              refine j_put (o:=11) 1 rfl rfl rfl rfl so123 rfl rfl rfl rfl (Nat.le_of_ble_eq_true rfl) ?_
              refine j_nil (ej_then ?_)
              first
                |exact fun v' hH hf=>N.sub' (hJ396 v' b399 (Hp.keepX ((hH.drop 0).drop 0) hf) (hH.get (i:=1) rfl rfl) (per_new hR hpb hz hn hQA (Hp.freshT hH rfl rfl rfl) (hH.get (i:=0) rfl rfl))) ⟨rfl,rfl,trivial⟩
                |(obtain ⟨e,hv,hB9,hnt⟩:=per_old hR hn
                  subst e
                  exact fun v' hH hf=>N.sub' (hJ396 v' g.per (Hp.keepX (hH.drop 0) hf) (hH.get (i:=0) rfl rfl) ⟨per_keep hv hQA hnt (Hp.keepX (l:=[g.pb]) (hH.drop 0) hf) hpA,hB9,hnt⟩) ⟨rfl,rfl,trivial⟩)
            · refine cj_skip (ej_then ?_)
              first
                |exact fun v' hH hf=>N.sub' (hJ396 v' b399 (Hp.keepX ((hH.drop 0).drop 0) hf) (hH.get (i:=1) rfl rfl) (per_new hR hpb hz hn hQA (Hp.freshT hH rfl rfl rfl) (hH.get (i:=0) rfl rfl))) ⟨rfl,rfl,trivial⟩
                |(obtain ⟨e,hv,hB9,hnt⟩:=per_old hR hn
                  subst e
                  exact fun v' hH hf=>N.sub' (hJ396 v' g.per (Hp.keepX (hH.drop 0) hf) (hH.get (i:=0) rfl rfl) ⟨per_keep hv hQA hnt (Hp.keepX (l:=[g.pb]) (hH.drop 0) hf) hpA,hB9,hnt⟩) ⟨rfl,rfl,trivial⟩)
structure Chk (x:PProf):Prop where
 val:∀s∈x.samples,s.values.length=x.types.length∧x.types.length≠0
 m:(0:Int)∉x.mappings.map (·.id)∧(x.mappings.map (·.id)).Nodup
 f:(0:Int)∉x.funcs.map (·.id)∧(x.funcs.map (·.id)).Nodup
 l:(0:Int)∉x.locs.map (·.id)∧(x.locs.map (·.id)).Nodup
 lm:∀l∈x.locs,l.mapping<x.mappings.length∧l.lines.length≤1000∧∀n∈l.lines,n.fn<x.funcs.length
 n:x.samples.length≤1000∧x.mappings.length≤1000∧x.locs.length≤1000∧x.funcs.length≤1000
theorem WellP.chk {x:PProf} (h:WellP x):Chk x:=by
 have n3:=h.tab.m.2.2
 have n5:=h.tab.f.2.2
 have n4:=h.tab.l.2.2
 have n2:=h.nsam
 simp only[List.length_map]at n3 n4 n5
 exact ⟨fun s hs=>⟨(h.samples s hs).1,(h.samples s hs).2.1⟩,⟨h.tab.m.1,h.tab.m.2.1⟩,⟨h.tab.f.1,h.tab.f.2.1⟩,⟨h.tab.l.1,h.tab.l.2.1⟩,fun l hl=>⟨(h.tab.locs l hl).1.2,by have:=(h.tab.locs l hl).2.1;omega,fun n hn=>((h.tab.locs l hl).2.2 n hn).2⟩,by omega,by omega,by omega,by omega⟩
theorem idM_new {ids:List Int} {k:Nat} {id:Int} (hl:bs.length=ids.length) (hn:ids.Nodup) (hi:ids[k]? =some id) (hb:bs[k]? =some b):
  (mget (idM (ids.take k) (bs.take k)) id).getD (.pointer none)=.pointer none∧mset (idM (ids.take k) (bs.take k)) id (ptr b)=idM (ids.take (k+1)) (bs.take (k+1)):=by
 have hk:=(List.getElem?_eq_some_iff.1 hi).1
 have hkb:=(List.getElem?_eq_some_iff.1 hb).1
 have hnm:id∉ids.take k:=fun hm=>by
  obtain ⟨j,hj,e⟩:=List.mem_take_iff_getElem.1 hm
  have h1:=(List.getElem?_eq_some_iff.1 hi).2
  have:=nodup_ix hn (by omega) hk (e.trans h1.symm)
  omega
 refine ⟨?_,?_⟩
 ·rw[mget_none.2 (by rw[idM_keys (by simp[hl])];exact hnm)];rfl
 ·rw[idM_mset (by simp[hl]) hnm, ← List.take_append_getElem hk, ← List.take_append_getElem hkb,(List.getElem?_eq_some_iff.1 hi).2,(List.getElem?_eq_some_iff.1 hb).2]
theorem idM_at {α:Type} {xs:List α} {f:α→Int} {y:α} {z:Nat} (hl:bs.length=xs.length) (hn:(xs.map f).Nodup) (hz:xs[z]? =some y) (hb:bs[z]? =some b):(mget (idM (xs.map f) bs) (f y)).getD (.pointer none)=ptr b:=by
 have hm:(f y,ptr b)∈idM (xs.map f) bs:=by
  have:(idM (xs.map f) bs)[z]? =some (f y,ptr b):=by
   unfold idM
   rw[List.getElem?_zip_eq_some]
   exact ⟨by rw[List.getElem?_map,hz];rfl,by rw[List.getElem?_map,hb];rfl⟩
  exact List.mem_of_getElem? this
 rw[mget_mem' (by rw[idM_keys (by simp[hl])];exact hn) hm];rfl
theorem ptrAt_some (h:ptrAt bs z=ptr b):bs[z.toNat]? =some b:=by
 unfold ptrAt at h
 split at h
 ·cases he:bs[z.toNat]? with
  |none=>rw[he]at h;cases h
  |some c=>rw[he]at h;cases h;rfl
 ·cases h
theorem ptrAt_nn {b:Bool} (h:(!(if 0≤z then (bs[z.toNat]?).map fun b=>(⟨b,0,none⟩:Addr) else none).isNone)=b) (hb:b=true):0≤z:=by
 by_cases h0:0≤z
 ·exact h0
 ·rw[if_neg h0]at h;subst hb;cases h
theorem id_ne0 {α:Type} {xs:List α} {f:α→Int} {y:α} (h:(0:Int)∉xs.map f) (hy:y∈xs):f y≠0:=fun e=>h (e▸List.mem_map_of_mem hy)
set_option maxHeartbeats 2000000 in
theorem checkValid_c (B:Nat) (w:World) (x:PProf) (g:G) (hG:OfQ B w x g) (hx:Chk x):Calls Tryz.prog 65 #[ptr g.pb] w (Ret fun v w'=>v=.nilIface∧Fr 0 [] w w'):=by
 obtain ⟨tyv,sav,mav,lov,fuv,cov,hpb,hty,hsa,hma,hlo,hfu, -⟩:=hG.prof
 obtain ⟨p1,l1,c1,rfl,hl1, -,hx1⟩:=hty.openF
 obtain ⟨p2,l2,c2,rfl,hl2, -,hx2⟩:=hsa.openF
 obtain ⟨p3,l3,c3,rfl,hl3, -,hx3⟩:=hma.openF
 obtain ⟨p4,l4,c4,rfl,hl4, -,hx4⟩:=hlo.openF
 obtain ⟨p5,l5,c5,rfl,hl5, -,hx5⟩:=hfu.openF
 obtain rfl:l1=x.types.length:=by have:=hG.types.1;simp at hl1;omega
 obtain rfl:l2=x.samples.length:=by have:=hG.sams.1;simp at hl2;omega
 obtain rfl:l3=x.mappings.length:=by have:=hG.maps.1;simp at hl3;omega
 obtain rfl:l4=x.locs.length:=by have:=hG.locs.1;simp at hl4;omega
 obtain rfl:l5=x.funcs.length:=by have:=hG.funs.1;simp at hl5;omega
 have hc0:=mc (f:=⟨w,0,[]⟩) hpb rfl
 obtain ⟨hn2,hn3,hn4,hn5⟩:=hx.n
 refine startJ (args:=[_]) [(0,_)] 0 [] [] func65 rfl ntmps65 rfl rfl .nil ?_
 refine sQ fun K1=>cj_reg (jA (k:=K1 (sQ fun K2=>cj_reg (jM (k:=jN (k:=jF 0 ru125 so118 (k:=jL ag118 hc0 0 (k:=jE ru118 (k:=jA (k:=K2 ?_))))))))))
 refine cj_seqF fun K3 hK3=>?_
 have hJ33:∀v',Fm.ok ⟨w,0,[]⟩ v'→N K3 259 [(0,ptr g.pb),(3,.int .i64 (x.types.length:Nat))] v':=by
  intro v7 hf7
  refine hK3 ⟨w,0,[]⟩ _ [] ?_ v7 .nil hf7
  refine sQ fun K4=>sQ fun K5=>cj_reg (jM (k:=jN (k:=jF 2 ru125 so119 (k:=jL ag119 hc0 2 (k:=jE ru119 (k:=jM (k:=K5 (CJ.t [(0,_),(3,_),(38,_),(39,_),(40,_)] (k:=cj_block ?_)))))))))
  refine cj_loop (σ:=Nat) (fun s=>[(0,ptr g.pb),(3,.int .i64 (x.types.length:Nat)),(38,.slice p2 x.samples.length c2),(39,.int .i64 (x.samples.length:Nat)),(40,.int .i64 (s:Nat))]) (fun _=>[]) (fun s _=>s≤x.samples.length) (fun s=>x.samples.length - s) 0 sR (fun w' hH hf=>⟨hH,Nat.zero_le _⟩) ?_
  rintro k2 u2 hk2 hf2 hH2 KL2 hKL2
  try dsimp only at hk2
  refine C.begin _ _ hf2 hH2 ?_
  try dsimp only
  refine sQ fun K6=>cj_reg (jS (k:=K6 (sQ fun K7=>?_)))
  refine cj_dec rfl (fun h41=>?_) (fun h41=>?_)
  ·have hk':k2<x.samples.length:=by omega
   obtain ⟨bq,rfl,hsq⟩:=hx2 (by omega)
   have hkb:k2<g.sams.length:=by rw[hG.sams.1];exact hk'
   have hbe:g.sams[k2]? =some g.sams[k2]:=List.getElem?_eq_getElem hkb
   have hxe:x.samples[k2]? =some x.samples[k2]:=List.getElem?_eq_getElem hk'
   have hxm:x.samples[k2]∈x.samples:=List.getElem_mem hk'
   have hcell:=osCell (k:=k2) (v:=ptr g.sams[k2]) (Fr.refl 0 [] w) rfl hsq (by simp[hkb])
   obtain ⟨ls,vs,lm,nm,iv,xv,hst, -,hvs, -⟩:=hG.sams.2 _ _ _ hbe hxe
   obtain ⟨pv,lv,cv,rfl,hlv, -⟩:=hvs.openF
   have hvl:=(hx.val _ hxm).1
   have hlv':lv=x.samples[k2].values.length:=by simpa using hlv.symm
   have hcb:=mc (f:=⟨w,0,[]⟩) hst rfl
   refine cj_skip (K7 (sQ fun K8=>cj_block (sQ fun K9=>cj_reg (jJ ru119 so142 (k:=jL ag142 hcell 0 (k:=jA (k:=K9 (sQ fun K10=>cj_reg (jM (k:=jN (k:=jF 1 ru147 so53 (k:=?_))))))))))))
   refine jL ag53 hcb 1 (k:=jE ru53 (k:=jM (k:=?_)))
   refine j_val rfl (fun _ _ h=>r_neq rfl rfl h) ?_
   refine j_eqv (u:=.bool false) (congrArg Value.bool (decide_eq_false (by omega))) ?_
   refine K10 (CJ.t [(0,_),(3,_),(5,_),(38,_),(39,_),(40,_),(50,_)] (k:=?_))
   refine cj_if_f rfl (cj_skip (K8 (cj_reg (jI (k:=jM (k:=j_nil (ej_then ?_)))))))
   exact fun w' hH hf=>hKL2 (k2+1) _ w' hk' hf hH (by omega) sR
  ·clear hKL2
   refine cj_exit (K4 (sQ fun K11=>cj_reg (jM (k:=jN (k:=jF 3 ru125 so120 (k:=jL ag120 hc0 3 (k:=jE ru120 (k:=?_))))))))
   refine j_mkmap (fun _ h=>by cases h;exact ⟨⟨_,_,ru180⟩,_,_,rfl⟩) rfl fun b74=>?_
   refine jA (k:=K11 (sQ fun K12=>sQ fun K13=>cj_reg (jM (k:=jN (k:=jF 3 ru125 so120 (k:=jL ag120 hc0 3 (k:=jE ru120 (k:=jM (k:=K13 (CJ.t [(0,_),(6,_),(78,_),(79,_),(80,_)] (k:=cj_block ?_)))))))))))
   refine cj_loop (σ:=Nat×List MapEntry×Nat) (fun s=>[(0,ptr g.pb),(6,.map (some b74)),(78,.slice p3 x.mappings.length c3),(79,.int .i64 (x.mappings.length:Nat)),(80,.int .i64 (s.1:Nat))]) (fun s=>mpE b74 s.2.1 s.2.2::[]) (fun s _=>s.1≤x.mappings.length∧MEnc (Value.int .u64) (idM ((x.mappings.map (·.id)).take s.1) (g.maps.take s.1)) s.2.1 s.2.2) (fun s=>x.mappings.length - s.1) (0,[],_) sR (fun w' hH hf=>⟨hH,Nat.zero_le _,MEnc.nil'⟩) ?_
   rintro ⟨k3,es3,ck3⟩ u3 ⟨hk3,hM3⟩ hf3 hH3 KL3 hKL3
   try dsimp only at hk3 hM3
   refine C.begin _ _ hf3 hH3 ?_
   try dsimp only
   refine sQ fun K14=>cj_reg (jS (k:=K14 (sQ fun K15=>?_)))
   refine cj_dec rfl (fun h81=>?_) (fun h81=>?_)
   ·have hk':k3<x.mappings.length:=by omega
    obtain ⟨bq,rfl,hsq⟩:=hx3 (by omega)
    have hkb:k3<g.maps.length:=by rw[hG.maps.1];exact hk'
    have hbe:g.maps[k3]? =some g.maps[k3]:=List.getElem?_eq_getElem hkb
    have hxe:x.mappings[k3]? =some x.mappings[k3]:=List.getElem?_eq_getElem hk'
    have hxm:x.mappings[k3]∈x.mappings:=List.getElem_mem hk'
    have hcell:=osCell (k:=k3) (v:=ptr g.maps[k3]) (Fr.refl 0 [] w) rfl hsq (by simp[hkb])
    have hcb:=mc (f:=⟨w,0,[]⟩) (hG.maps.2 _ _ _ hbe hxe) rfl
    obtain ⟨hno,hup⟩:=idM_new (ids:=(x.mappings.map (·.id))) (id:=x.mappings[k3].id) (by simp[hG.maps.1]) hx.m.2 (by simp[hk']) hbe
    have hnz:=id_ne0 (f:=(·.id)) hx.m.1 hxm
    refine cj_skip (K15 (sQ fun K16=>cj_block (sQ fun K17=>cj_reg (jJ ru120 so128 (k:=jL ag128 hcell 0 (k:=jA (k:=K17 (sQ fun K18=>sQ fun K19=>cj_reg (jM (k:=jN (k:=?_)))))))))))
    refine jF 0 ru130 so71 (k:=jL ag71 hcb 0 (k:=jQ (k:=?_)))
    refine j_eqv (u:=.bool false) (congrArg Value.bool (decide_eq_false hnz)) ?_
    refine K19 (cj_if_f rfl (cj_skip (K18 (sQ fun K20=>sQ fun K21=>cj_reg (jM (k:=jM (k:=jN (k:=jF 0 ru130 so71 (k:=jL ag71 hcb 0 (k:=?_))))))))))
    refine j_valw rfl (fun a w ha hH hf=>r_lookT ru180 (keyT_int ru71) zv128 rfl rfl ha ⟨_,es3,ck3,hH.obj (i:=0) rfl rfl,hM3,hno⟩) (j_val rfl (fun _ _ h=>r_pnneq ud128 rfl h) (K21 (CJ.t [(0,_),(6,_),(8,_),(78,_),(79,_),(80,_),(96,_)] (k:=?_))))
    refine cj_if_f rfl (cj_skip (K20 (cj_reg (jM (k:=jM (k:=jN (k:=jF 0 ru130 so71 (k:=jL ag71 hcb 0 (k:=jM (k:=?_))))))))))
    refine j_mapupd 0 rfl ru180 (keyT_int ru71) hM3 rfl rfl rfl (fun w hH hf=>⟨fun _ _=>trivial,trivial⟩) fun es' ck' hM'=>?_
    rw[hup]at hM'
    refine K16 (cj_reg (jI (k:=jM (k:=j_nil (ej_then ?_)))))
    exact fun w' hH hf=>hKL3 (k3+1,es',ck') _ w' ⟨hk',hM'⟩ hf hH (by omega) sR
   ·have hke3:k3=x.mappings.length:=by omega
    subst hke3
    rw[List.take_of_length_le (by simp),List.take_of_length_le (by rw[hG.maps.1];exact Nat.le_refl _)]at hM3
    clear hKL3 hk3 h81
    refine cj_exit (K12 (sQ fun K22=>cj_reg (jM (k:=jN (k:=jF 5 ru125 so122 (k:=jL ag122 hc0 5 (k:=jE ru122 (k:=?_))))))))
    refine j_mkmap (fun _ h=>by cases h;exact ⟨⟨_,_,ru182⟩,_,_,rfl⟩) rfl fun b116=>?_
    refine jA (k:=K22 (CJ.t [(0,_),(6,_),(9,_)] (k:=sQ fun K23=>sQ fun K24=>cj_reg (jM (k:=jN (k:=jF 5 ru125 so122 (k:=jL ag122 hc0 5 (k:=jE ru122 (k:=jM (k:=K24 (cj_block ?_)))))))))))
    refine cj_loop (σ:=Nat×List MapEntry×Nat) (fun s=>[(0,ptr g.pb),(6,.map (some b74)),(9,.map (some b116)),(120,.slice p5 x.funcs.length c5),(121,.int .i64 (x.funcs.length:Nat)),(122,.int .i64 (s.1:Nat))]) (fun s=>mpE b116 s.2.1 s.2.2::[mpE b74 es3 ck3]) (fun s _=>s.1≤x.funcs.length∧MEnc (Value.int .u64) (idM ((x.funcs.map (·.id)).take s.1) (g.funs.take s.1)) s.2.1 s.2.2) (fun s=>x.funcs.length - s.1) (0,[],_) sR (fun w' hH hf=>⟨hH,Nat.zero_le _,MEnc.nil'⟩) ?_
    rintro ⟨k5,es5,ck5⟩ u5 ⟨hk5,hM5⟩ hf5 hH5 KL5 hKL5
    try dsimp only at hk5 hM5
    refine C.begin _ _ hf5 hH5 ?_
    try dsimp only
    refine sQ fun K25=>cj_reg (jS (k:=K25 (sQ fun K26=>?_)))
    refine cj_dec rfl (fun h123=>?_) (fun h123=>?_)
    ·have hk':k5<x.funcs.length:=by omega
     obtain ⟨bq,rfl,hsq⟩:=hx5 (by omega)
     have hkb:k5<g.funs.length:=by rw[hG.funs.1];exact hk'
     have hbe:g.funs[k5]? =some g.funs[k5]:=List.getElem?_eq_getElem hkb
     have hxe:x.funcs[k5]? =some x.funcs[k5]:=List.getElem?_eq_getElem hk'
     have hxm:x.funcs[k5]∈x.funcs:=List.getElem_mem hk'
     have hcell:=osCell (k:=k5) (v:=ptr g.funs[k5]) (Fr.refl 0 [] w) rfl hsq (by simp[hkb])
     have hcb:=mc (f:=⟨w,0,[]⟩) (hG.funs.2 _ _ _ hbe hxe) rfl
     obtain ⟨hno,hup⟩:=idM_new (ids:=(x.funcs.map (·.id))) (id:=x.funcs[k5].id) (by simp[hG.funs.1]) hx.f.2 (by simp[hk']) hbe
     have hnz:=id_ne0 (f:=(·.id)) hx.f.1 hxm
     refine cj_skip (K26 (sQ fun K27=>cj_block (sQ fun K28=>cj_reg (jJ ru122 so131 (k:=jL ag131 hcell 0 (k:=jA (k:=K28 (sQ fun K29=>sQ fun K30=>cj_reg (jM (k:=jN (k:=?_)))))))))))
     refine jF 0 ru133 so71 (k:=jL ag71 hcb 0 (k:=jQ (k:=?_)))
     refine j_eqv (u:=.bool false) (congrArg Value.bool (decide_eq_false hnz)) ?_
     refine K30 (cj_if_f rfl (cj_skip (K29 (sQ fun K31=>sQ fun K32=>cj_reg (jM (k:=jM (k:=jN (k:=jF 0 ru133 so71 (k:=jL ag71 hcb 0 (k:=?_))))))))))
     refine j_valw rfl (fun a w ha hH hf=>r_lookT ru182 (keyT_int ru71) zv131 rfl rfl ha ⟨_,es5,ck5,hH.obj (i:=0) rfl rfl,hM5,hno⟩) (j_val rfl (fun _ _ h=>r_pnneq ud131 rfl h) (K32 (CJ.t [(0,_),(6,_),(9,_),(11,_),(120,_),(121,_),(122,_),(138,_)] (k:=?_))))
     refine cj_if_f rfl (cj_skip (K31 (cj_reg (jM (k:=jM (k:=jN (k:=jF 0 ru133 so71 (k:=jL ag71 hcb 0 (k:=jM (k:=?_))))))))))
     refine j_mapupd 0 rfl ru182 (keyT_int ru71) hM5 rfl rfl rfl (fun w hH hf=>⟨fun _ _=>trivial,trivial⟩) fun es' ck' hM'=>?_
     rw[hup]at hM'
     refine K27 (cj_reg (jI (k:=jM (k:=j_nil (ej_then ?_)))))
     exact fun w' hH hf=>hKL5 (k5+1,es',ck') _ w' ⟨hk',hM'⟩ hf hH (by omega) sR
    ·have hke5:k5=x.funcs.length:=by omega
     subst hke5
     rw[List.take_of_length_le (by simp),List.take_of_length_le (by rw[hG.funs.1];exact Nat.le_refl _)]at hM5
     clear hKL5 hk5 h123
     refine cj_exit (K23 (sQ fun K33=>cj_reg (jM (k:=jN (k:=jF 4 ru125 so121 (k:=jL ag121 hc0 4 (k:=jE ru121 (k:=?_))))))))
     refine j_mkmap (fun _ h=>by cases h;exact ⟨⟨_,_,ru183⟩,_,_,rfl⟩) rfl fun b158=>?_
     refine jA (k:=K33 (CJ.t [(0,_),(6,_),(9,_),(12,_)] (k:=sQ fun K34=>sQ fun K35=>cj_reg (jM (k:=jN (k:=jF 4 ru125 so121 (k:=jL ag121 hc0 4 (k:=jE ru121 (k:=jM (k:=K35 (cj_block ?_)))))))))))
     refine cj_loop (σ:=Nat×List MapEntry×Nat) (fun s=>[(6,.map (some b74)),(9,.map (some b116)),(12,.map (some b158)),(162,.slice p4 x.locs.length c4),(163,.int .i64 (x.locs.length:Nat)),(164,.int .i64 (s.1:Nat))]) (fun s=>mpE b158 s.2.1 s.2.2::[mpE b116 es5 ck5,mpE b74 es3 ck3]) (fun s _=>s.1≤x.locs.length∧MEnc (Value.int .u64) (idM ((x.locs.map (·.id)).take s.1) (g.locs.take s.1)) s.2.1 s.2.2) (fun s=>x.locs.length - s.1) (0,[],_) sR (fun w' hH hf=>⟨hH,Nat.zero_le _,MEnc.nil'⟩) ?_
     rintro ⟨k4,es4,ck4⟩ u4 ⟨hk4,hM4⟩ hf4 hH4 KL4 hKL4
     try dsimp only at hk4 hM4
     refine C.begin _ _ hf4 hH4 ?_
     try dsimp only
     refine sQ fun K36=>cj_reg (jS (k:=K36 (sQ fun K37=>?_)))
     refine cj_dec rfl (fun h165=>?_) (fun h165=>?_)
     ·have hk':k4<x.locs.length:=by omega
      obtain ⟨bq,rfl,hsq⟩:=hx4 (by omega)
      have hkb:k4<g.locs.length:=by rw[hG.locs.1];exact hk'
      have hbe:g.locs[k4]? =some g.locs[k4]:=List.getElem?_eq_getElem hkb
      have hxe:x.locs[k4]? =some x.locs[k4]:=List.getElem?_eq_getElem hk'
      have hxm:x.locs[k4]∈x.locs:=List.getElem_mem hk'
      have hcell:=osCell (k:=k4) (v:=ptr g.locs[k4]) (Fr.refl 0 [] w) rfl hsq (by simp[hkb])
      obtain ⟨lsv,hst,hlsv⟩:=(hG.locs.2 _ _ _ hbe hxe).ex
      obtain ⟨pL,lL,cL,rfl,hlL, -,hlc⟩:=hlsv.openF
      obtain rfl:lL=x.locs[k4].lines.length:=by rw[flatMap_len (c:=cLine g.funs) (sz:=3) (fun _=>rfl)]at hlL;omega
      obtain ⟨hmu,hl60,hln⟩:=hx.lm _ hxm
      have hcb:=mc (f:=⟨w,0,[]⟩) hst rfl
      obtain ⟨hno,hup⟩:=idM_new (ids:=(x.locs.map (·.id))) (id:=x.locs[k4].id) (by simp[hG.locs.1]) hx.l.2 (by simp[hk']) hbe
      have hnz:=id_ne0 (f:=(·.id)) hx.l.1 hxm
      refine cj_skip (K37 (sQ fun K38=>cj_block (sQ fun K39=>cj_reg (jJ ru121 so134 (k:=jL ag134 hcell 0 (k:=jA (k:=K39 (sQ fun K40=>sQ fun K41=>cj_reg (jM (k:=jN (k:=?_)))))))))))
      refine jF 0 ru137 so71 (k:=jL ag71 hcb 0 (k:=jQ (k:=?_)))
      refine j_eqv (u:=.bool false) (congrArg Value.bool (decide_eq_false hnz)) ?_
      refine K41 (cj_if_f rfl (cj_skip (K40 (sQ fun K42=>sQ fun K43=>cj_reg (jM (k:=jM (k:=jN (k:=jF 0 ru137 so71 (k:=jL ag71 hcb 0 (k:=?_))))))))))
      refine j_valw rfl (fun a w ha hH hf=>r_lookT ru183 (keyT_int ru71) zv134 rfl rfl ha ⟨_,es4,ck4,hH.obj (i:=0) rfl rfl,hM4,hno⟩) (j_val rfl (fun _ _ h=>r_pnneq ud134 rfl h) (K43 (CJ.t [(6,_),(9,_),(12,_),(14,_),(162,_),(163,_),(164,_),(180,_)] (k:=?_))))
      refine cj_if_f rfl (cj_skip (K42 (sQ fun K44=>cj_reg (jM (k:=jM (k:=jN (k:=jF 0 ru137 so71 (k:=jL ag71 hcb 0 (k:=jM (k:=?_))))))))))
      refine j_mapupd 0 rfl ru183 (keyT_int ru71) hM4 rfl rfl rfl (fun w hH hf=>⟨fun _ _=>trivial,trivial⟩) fun es' ck' hM'=>?_
      rw[hup]at hM'
      refine K44 (cj_seqF fun K45 hK45=>?_)
      have hJ199:∀v',Hp ⟨w,0,[]⟩ v' [mpE b158 es' ck',mpE b116 es5 ck5,mpE b74 es3 ck3]→Fm.ok ⟨w,0,[]⟩ v'→N K45 259 [(6,.map (some b74)),(9,.map (some b116)),(12,.map (some b158)),(14,ptr g.locs[k4]),(162,.slice (some ⟨bq,0,none⟩) x.locs.length c4),(163,.int .i64 (x.locs.length:Nat)),(164,.int .i64 (k4:Nat))] v':=by
       intro v7 hH7 hf7
       refine hK45 ⟨w,0,[]⟩ _ [mpE b158 es' ck',mpE b116 es5 ck5,mpE b74 es3 ck3] ?_ v7 hH7 hf7
       refine sQ fun K46=>cj_reg (jM (k:=jN (k:=jF 3 ru137 so135 (k:=jL ag135 hcb 3 (k:=jE ru135 (k:=jM (k:=K46 (CJ.t [(6,_),(9,_),(12,_),(162,_),(163,_),(164,_),(225,_),(226,_),(227,_)] (k:=cj_block ?_)))))))))
       refine cj_loop (σ:=Nat) (fun s=>[(6,.map (some b74)),(9,.map (some b116)),(12,.map (some b158)),(162,.slice (some ⟨bq,0,none⟩) x.locs.length c4),(163,.int .i64 (x.locs.length:Nat)),(164,.int .i64 (k4:Nat)),(225,.slice pL x.locs[k4].lines.length cL),(226,.int .i64 (x.locs[k4].lines.length:Nat)),(227,.int .i64 (s:Nat))]) (fun _=>[mpE b158 es' ck',mpE b116 es5 ck5,mpE b74 es3 ck3]) (fun s _=>s≤x.locs[k4].lines.length) (fun s=>x.locs[k4].lines.length - s) 0 sR (fun w' hH hf=>⟨hH,Nat.zero_le _⟩) ?_
       rintro j uj hj hfj hHj KLj hKLj
       try dsimp only at hj
       refine C.begin _ _ hfj hHj ?_
       try dsimp only
       refine sQ fun K47=>cj_reg (jS (k:=K47 (sQ fun K48=>?_)))
       refine cj_dec rfl (fun h228=>?_) (fun h228=>?_)
       ·have hj':j<x.locs[k4].lines.length:=by omega
        obtain ⟨bl,rfl,hlc2⟩:=hlc (by omega)
        have hfu2:=hln _ (List.getElem_mem hj')
        have hcr:∀w',Fm.ok ⟨w,0,[]⟩ w'→∀(i:Nat) (u:Value),(cLine g.funs x.locs[k4].lines[j])[i]? =some u→w'.cell? ⟨bl,0+j*3+i,none⟩=some u:=fun w' hf i u hu=>by rw[Nat.zero_add];exact hlc2 ⟨w,0,[]⟩ rfl rfl w' hf _ _ (flatMap_get (c:=cLine g.funs) (sz:=3) (fun _=>rfl) (List.getElem?_eq_getElem hj') i u hu)
        refine cj_skip (K48 (sQ fun K49=>cj_block (sQ fun K50=>cj_reg (jJ ru135 so140 (k:=?_)))))
        refine j_valw rfl (fun a w ha hH hf=>r_loadA (vs:=cLine g.funs x.locs[k4].lines[j]) ag140 so140 rfl rfl (hcr w hf) ha) (j_allocA (zs:=[(.pointer none),(.int .i64 0),(.int .u64 0)]) zv140 rfl fun b17=>?_)
        refine j_storeW 0 rfl rfl rfl rfl so140 rfl rfl rfl rfl rfl ?_
        refine K50 (sQ fun K51=>cj_reg (jF 0 ru140 so131 (k:=jH 0 ag131 (k:=jA (k:=K51 (sQ fun K52=>cj_reg (jM (k:=?_))))))))
        refine j_val rfl (fun _ _ h=>r_pnneq ud131 rfl h) (K52 (CJ.t [(6,_),(9,_),(12,_),(18,_),(162,_),(163,_),(164,_),(225,_),(226,_),(227,_),(234,_)] (k:=?_)))
        refine cj_if rfl (fun hq2=>?_) (fun hq2=>?_)
        ·have hfp:0≤x.locs[k4].lines[j].fn:=ptrAt_nn rfl hq2
         obtain ⟨fb,hfb⟩:=ptrAt_get (bs:=g.funs) hfp (by rw[hG.funs.1];exact hfu2)
         rw[hfb]
         have hy1:x.locs[k4].lines[j].fn.toNat<x.funcs.length:=by omega
         have hy2:=ptrAt_some hfb
         have hbf:=hG.funs.2 _ _ _ hy2 (List.getElem?_eq_getElem hy1)
         have hcf:=mc (f:=⟨w,0,[]⟩) hbf rfl
         have hgf:=idM_at (f:=(·.id)) hG.funs.1 hx.f.2 (List.getElem?_eq_getElem hy1) hy2
         have hfz:=id_ne0 (f:=(·.id)) hx.f.1 (List.getElem_mem hy1)
         refine sQ fun K53=>cj_reg (jM (k:=jN (k:=jF 0 ru133 so71 (k:=jL ag71 hcf 0 (k:=jQ (k:=?_))))))
         refine j_eqv (u:=.bool false) (congrArg Value.bool (decide_eq_false hfz)) ?_
         refine jM (k:=?_)
         refine j_gt rfl rfl (jM (k:=?_))
         refine j_gt rfl rfl (jM (k:=?_))
         refine j_gt rfl rfl (jN (k:=?_))
         refine j_gt rfl rfl (jF 0 ru133 so71 (k:=?_))
         refine j_gt rfl rfl (jL ag71 hcf 0 (k:=?_))
         refine j_gt rfl rfl (j_valw rfl (fun a w ha hH hf=>r_lookT ru182 (keyT_int ru71) zv131 rfl rfl ha ⟨_,es5,ck5,hH.obj (i:=2) rfl rfl,hM5,hgf⟩) (j_gt rfl rfl (jM (k:=?_))))
         refine j_gt rfl rfl (j_valw rfl (fun a w' ha hH hf=>r_pneq ud131 nf133 ns133 rfl rfl (hf.blk hbf (.inr (by simp))) (hf.blk hbf (.inr (by simp))) ha) ?_)
         refine j_eqv (u:=.bool false) (congrArg Value.bool (decide_eq_false (by simp))) ?_
         refine jK (k:=K53 (CJ.t [(6,_),(9,_),(12,_),(18,_),(162,_),(163,_),(164,_),(225,_),(226,_),(227,_),(249,_)] (k:=?_)))
         refine cj_if_f rfl (cj_skip (K49 (cj_reg (jI (k:=jM (k:=j_nil (ej_then ?_)))))))
         exact fun w' hH hf=>hKLj (j+1) _ w' hj' hf (hH.drop 0) (by omega) sR
        ·refine cj_skip (K49 (cj_reg (jI (k:=jM (k:=j_nil (ej_then ?_))))))
         exact fun w' hH hf=>hKLj (j+1) _ w' hj' hf (hH.drop 0) (by omega) sR
       ·clear hKLj
        refine cj_exit (K38 (cj_reg (jI (k:=jM (k:=j_nil (ej_then ?_))))))
        exact fun w' hH hf=>hKL4 (k4+1,es',ck') _ w' ⟨hk',hM'⟩ hf hH (by omega) sR
      clear hK45
      refine sQ fun K54=>cj_reg (jM (k:=jN (k:=jF 1 ru137 so128 (k:=jL ag128 hcb 1 (k:=jA (k:=K54 (CJ.t [(6,_),(9,_),(12,_),(14,_),(15,_),(162,_),(163,_),(164,_)] (k:=sQ fun K55=>cj_reg (jM (k:=?_))))))))))
      refine j_val rfl (fun _ _ h=>r_pnneq ud128 rfl h) (K55 ?_)
      refine cj_if rfl (fun hq=>?_) (fun hq=>?_)
      ·have hmp:0≤x.locs[k4].mapping:=ptrAt_nn rfl hq
       obtain ⟨mb,hmb⟩:=ptrAt_get (bs:=g.maps) hmp (by rw[hG.maps.1];exact hmu)
       rw[hmb]
       have hz1:x.locs[k4].mapping.toNat<x.mappings.length:=by omega
       have hz2:=ptrAt_some hmb
       have hbm:=hG.maps.2 _ _ _ hz2 (List.getElem?_eq_getElem hz1)
       have hcm:=mc (f:=⟨w,0,[]⟩) hbm rfl
       have hget:=idM_at (f:=(·.id)) hG.maps.1 hx.m.2 (List.getElem?_eq_getElem hz1) hz2
       have hmz:=id_ne0 (f:=(·.id)) hx.m.1 (List.getElem_mem hz1)
       refine sQ fun K56=>cj_reg (jM (k:=jN (k:=jF 0 ru130 so71 (k:=jL ag71 hcm 0 (k:=jQ (k:=?_))))))
       refine j_eqv (u:=.bool false) (congrArg Value.bool (decide_eq_false hmz)) ?_
       refine jM (k:=?_)
       refine j_gt rfl rfl (jM (k:=?_))
       refine j_gt rfl rfl (jM (k:=?_))
       refine j_gt rfl rfl (jN (k:=?_))
       refine j_gt rfl rfl (jF 0 ru130 so71 (k:=?_))
       refine j_gt rfl rfl (jL ag71 hcm 0 (k:=?_))
       refine j_gt rfl rfl ?_
       refine j_valw rfl (fun a w ha hH hf=>r_lookT ru180 (keyT_int ru71) zv128 rfl rfl ha ⟨_,es3,ck3,hH.obj (i:=2) rfl rfl,by first|exact hM3|(simp only[List.take_length];exact hM3),hget⟩) ?_
       refine j_gt rfl rfl (jM (k:=?_))
       refine j_gt rfl rfl (j_valw rfl (fun a w' ha hH hf=>r_pneq ud128 nf130 ns130 rfl rfl (hf.blk hbm (.inr (by simp))) (hf.blk hbm (.inr (by simp))) ha) ?_)
       refine j_eqv (u:=.bool false) (congrArg Value.bool (decide_eq_false (by simp))) ?_
       refine jK (k:=K56 (CJ.t [(6,_),(9,_),(12,_),(14,_),(15,_),(162,_),(163,_),(164,_),(214,_)] (k:=?_)))
       refine cj_if_f rfl (cj_skip (ej_then ?_))
       exact fun v' hH hf=>N.sub' (hJ199 v' hH hf) sR
      ·refine cj_skip (ej_then ?_)
       exact fun v' hH hf=>N.sub' (hJ199 v' hH hf) sR
     ·refine cj_exit (K34 (sQ fun K57=>cj_reg (jA (k:=K57 (cj_ret ?_)))))
      exact ej_ret1 results65 rfl fun w' hH hf=>⟨rfl,hf⟩
 clear hK3
 refine sQ fun K58=>cj_reg (jM (k:=jQ (k:=jM (k:=?_))))
 refine j_split (t:=26) rfl (fun hg26=>?_) (fun hg26=>?_)
 ·refine j_gt rfl rfl (jM (k:=?_))
  refine j_gt rfl rfl (jN (k:=?_))
  refine j_gt rfl rfl (jF 2 ru125 so119 (k:=?_))
  refine j_gt rfl rfl (jL ag119 hc0 2 (k:=?_))
  refine j_gt rfl rfl (jE ru119 (k:=?_))
  refine j_gt rfl rfl (j_val rfl (fun _ _ h=>r_neq rfl rfl h) ?_)
  refine j_eqv (u:=.bool false) (congrArg Value.bool (decide_eq_false (by
   have h0:x.types.length=0:=by simpa using hg26
   have h1:x.samples.length=0:=by
    cases hs:x.samples with
    |nil=>rfl
    |cons a r=>exact absurd h0 (hx.val a (by rw[hs];exact List.Mem.head _)).2
   omega))) ?_
  refine jT (k:=K58 (CJ.t [(0,_),(3,_),(33,_)] (k:=?_)))
  refine cj_if_f rfl (cj_skip (ej_then ?_))
  exact fun v' hH hf=>N.sub' (hJ33 v' hf) ⟨rfl,rfl,trivial⟩
 ·refine j_gf rfl rfl rfl rfl (j_gf rfl rfl rfl rfl (j_gf rfl rfl rfl rfl (j_gf rfl rfl rfl rfl (j_gf rfl rfl rfl rfl (j_gf rfl rfl rfl rfl (jK (k:=K58 ?_)))))))
  refine cj_if_f rfl (cj_skip (ej_then ?_))
  exact fun v' hH hf=>N.sub' (hJ33 v' hf) ⟨rfl,rfl,trivial⟩
end Go.Proofs.YtifdadlhmlhfiaaGreatDoor
namespace Go.Proofs
open Go.Shelf
variable {T n:Nat} {w:World}
def Tryz.sortTx_ren:Go.Shelf.Ren:=⟨fun|6=>98|15=>114|14=>113|28=>132|29=>133|20=>124|21=>125|22=>126|23=>127|24=>128|25=>129|26=>130|27=>131|46=>150|47=>151|48=>152|49=>153|50=>154|57=>169|n=>n,fun|22=>54|24=>109|25=>186|3=>3|39=>152|0=>0|53=>236|55=>71|4=>4|46=>230|45=>229|50=>215|5=>5|9=>9|66=>251|70=>255|76=>265|77=>266|n=>n,fun|n=>n⟩
theorem Tryz.sortTx:Go.Proofs.SlLaysF0.n6 Tryz.prog Tryz.sortTx_ren:={
 mixed:=by kernel_rfl
 f6:=⟨Tryz.f98.name,by decide,Tryz.func98.trans (congrArg some (by kernel_rfl))⟩
 f14:=⟨Tryz.f113.name,by decide,Tryz.func113.trans (congrArg some (by kernel_rfl))⟩
 f15:=Tryz.func114.trans (congrArg some (by kernel_rfl))
 f20:=⟨Tryz.f124.name,by decide,Tryz.func124.trans (congrArg some (by kernel_rfl))⟩
 f21:=⟨Tryz.f125.name,by decide,Tryz.func125.trans (congrArg some (by kernel_rfl))⟩
 f22:=⟨Tryz.f126.name,by decide,Tryz.func126.trans (congrArg some (by kernel_rfl))⟩
 f23:=⟨Tryz.f127.name,by decide,Tryz.func127.trans (congrArg some (by kernel_rfl))⟩
 f24:=⟨Tryz.f128.name,by decide,Tryz.func128.trans (congrArg some (by kernel_rfl))⟩
 f25:=⟨Tryz.f129.name,by decide,Tryz.func129.trans (congrArg some (by kernel_rfl))⟩
 f26:=⟨Tryz.f130.name,by decide,Tryz.func130.trans (congrArg some (by kernel_rfl))⟩
 f27:=⟨Tryz.f131.name,by decide,Tryz.func131.trans (congrArg some (by kernel_rfl))⟩
 f28:=Tryz.func132.trans (congrArg some (by kernel_rfl))
 f29:=Tryz.func133.trans (congrArg some (by kernel_rfl))
 f46:=⟨Tryz.f150.name,by decide,Tryz.func150.trans (congrArg some (by kernel_rfl))⟩
 f47:=Tryz.func151.trans (congrArg some (by kernel_rfl))
 f48:=Tryz.func152.trans (congrArg some (by kernel_rfl))
 f49:=⟨Tryz.f153.name,by decide,Tryz.func153.trans (congrArg some (by kernel_rfl))⟩
 f50:=⟨Tryz.f154.name,by decide,Tryz.func154.trans (congrArg some (by kernel_rfl))⟩
 f57:=⟨Tryz.f169.name,by decide,Tryz.func169.trans (congrArg some (by kernel_rfl))⟩
 t0:=Tryz.underlying0
 a0:=Tryz.isAgg0
 z0:=Tryz.sizeOf0
 v0:=Tryz.zeroValue0
 t3:=Tryz.underlying3
 a3:=Tryz.isAgg3
 z3:=Tryz.sizeOf3
 v3:=Tryz.zeroValue3
 t4:=Tryz.underlying4
 a4:=Tryz.isAgg4
 z4:=Tryz.sizeOf4
 v4:=Tryz.zeroValue4
 t5:=Tryz.underlying5
 a5:=Tryz.isAgg5
 z5:=Tryz.sizeOf5
 v5:=Tryz.zeroValue5
 t9:=Tryz.underlying9
 a9:=Tryz.isAgg9
 z9:=Tryz.sizeOf9
 v9:=Tryz.zeroValue9
 t22:=Tryz.underlying54
 a22:=Tryz.isAgg54
 z22:=Tryz.sizeOf54
 v22:=Tryz.zeroValue54
 t25:=Tryz.underlying186
 a25:=Tryz.isAgg186
 z25:=Tryz.sizeOf186
 v25:=Tryz.zeroValue186
 t39:=Tryz.underlying152
 a39:=Tryz.isAgg152
 z39:=Tryz.sizeOf152
 v39:=Tryz.zeroValue152
 t45:=Tryz.underlying229
 a45:=Tryz.isAgg229
 z45:=Tryz.sizeOf229
 v45:=Tryz.zeroValue229
 t46:=Tryz.underlying230
 a46:=Tryz.isAgg230
 z46:=Tryz.sizeOf230
 v46:=Tryz.zeroValue230
 t50:=Tryz.underlying215
 a50:=Tryz.isAgg215
 z50:=Tryz.sizeOf215
 v50:=Tryz.zeroValue215
 t53:=Tryz.underlying236
 a53:=Tryz.isAgg236
 z53:=Tryz.sizeOf236
 v53:=Tryz.zeroValue236
 t55:=Tryz.underlying71
 a55:=Tryz.isAgg71
 z55:=Tryz.sizeOf71
 v55:=Tryz.zeroValue71
 t66:=Tryz.underlying251
 a66:=Tryz.isAgg251
 z66:=Tryz.sizeOf251
 v66:=Tryz.zeroValue251
 t70:=Tryz.underlying255
 a70:=Tryz.isAgg255
 z70:=Tryz.sizeOf255
 v70:=Tryz.zeroValue255
 t76:=Tryz.underlying265
 a76:=Tryz.isAgg265
 z76:=Tryz.sizeOf265
 v76:=Tryz.zeroValue265
 t77:=Tryz.underlying266
 a77:=Tryz.isAgg266
 z77:=Tryz.sizeOf266
 v77:=Tryz.zeroValue266 }
def Tryz.sortNu_ren:Go.Shelf.Ren:=⟨fun|6=>101|15=>114|14=>115|28=>132|29=>133|20=>134|21=>135|22=>136|23=>137|24=>138|25=>139|26=>140|27=>141|46=>155|47=>151|48=>152|49=>156|50=>157|57=>170|n=>n,fun|22=>55|24=>112|25=>188|3=>3|39=>152|0=>0|53=>236|55=>71|4=>4|46=>230|45=>229|50=>215|5=>5|9=>9|66=>251|70=>255|76=>265|77=>266|n=>n,fun|n=>n⟩
theorem Tryz.sortNu:Go.Proofs.SlLaysF0.n6 Tryz.prog Tryz.sortNu_ren:={
 mixed:=by kernel_rfl
 f6:=⟨Tryz.f101.name,by decide,Tryz.func101.trans (congrArg some (by kernel_rfl))⟩
 f14:=⟨Tryz.f115.name,by decide,Tryz.func115.trans (congrArg some (by kernel_rfl))⟩
 f15:=Tryz.func114.trans (congrArg some (by kernel_rfl))
 f20:=⟨Tryz.f134.name,by decide,Tryz.func134.trans (congrArg some (by kernel_rfl))⟩
 f21:=⟨Tryz.f135.name,by decide,Tryz.func135.trans (congrArg some (by kernel_rfl))⟩
 f22:=⟨Tryz.f136.name,by decide,Tryz.func136.trans (congrArg some (by kernel_rfl))⟩
 f23:=⟨Tryz.f137.name,by decide,Tryz.func137.trans (congrArg some (by kernel_rfl))⟩
 f24:=⟨Tryz.f138.name,by decide,Tryz.func138.trans (congrArg some (by kernel_rfl))⟩
 f25:=⟨Tryz.f139.name,by decide,Tryz.func139.trans (congrArg some (by kernel_rfl))⟩
 f26:=⟨Tryz.f140.name,by decide,Tryz.func140.trans (congrArg some (by kernel_rfl))⟩
 f27:=⟨Tryz.f141.name,by decide,Tryz.func141.trans (congrArg some (by kernel_rfl))⟩
 f28:=Tryz.func132.trans (congrArg some (by kernel_rfl))
 f29:=Tryz.func133.trans (congrArg some (by kernel_rfl))
 f46:=⟨Tryz.f155.name,by decide,Tryz.func155.trans (congrArg some (by kernel_rfl))⟩
 f47:=Tryz.func151.trans (congrArg some (by kernel_rfl))
 f48:=Tryz.func152.trans (congrArg some (by kernel_rfl))
 f49:=⟨Tryz.f156.name,by decide,Tryz.func156.trans (congrArg some (by kernel_rfl))⟩
 f50:=⟨Tryz.f157.name,by decide,Tryz.func157.trans (congrArg some (by kernel_rfl))⟩
 f57:=⟨Tryz.f170.name,by decide,Tryz.func170.trans (congrArg some (by kernel_rfl))⟩
 t0:=Tryz.underlying0
 a0:=Tryz.isAgg0
 z0:=Tryz.sizeOf0
 v0:=Tryz.zeroValue0
 t3:=Tryz.underlying3
 a3:=Tryz.isAgg3
 z3:=Tryz.sizeOf3
 v3:=Tryz.zeroValue3
 t4:=Tryz.underlying4
 a4:=Tryz.isAgg4
 z4:=Tryz.sizeOf4
 v4:=Tryz.zeroValue4
 t5:=Tryz.underlying5
 a5:=Tryz.isAgg5
 z5:=Tryz.sizeOf5
 v5:=Tryz.zeroValue5
 t9:=Tryz.underlying9
 a9:=Tryz.isAgg9
 z9:=Tryz.sizeOf9
 v9:=Tryz.zeroValue9
 t22:=Tryz.underlying55
 a22:=Tryz.isAgg55
 z22:=Tryz.sizeOf55
 v22:=Tryz.zeroValue55
 t25:=Tryz.underlying188
 a25:=Tryz.isAgg188
 z25:=Tryz.sizeOf188
 v25:=Tryz.zeroValue188
 t39:=Tryz.underlying152
 a39:=Tryz.isAgg152
 z39:=Tryz.sizeOf152
 v39:=Tryz.zeroValue152
 t45:=Tryz.underlying229
 a45:=Tryz.isAgg229
 z45:=Tryz.sizeOf229
 v45:=Tryz.zeroValue229
 t46:=Tryz.underlying230
 a46:=Tryz.isAgg230
 z46:=Tryz.sizeOf230
 v46:=Tryz.zeroValue230
 t50:=Tryz.underlying215
 a50:=Tryz.isAgg215
 z50:=Tryz.sizeOf215
 v50:=Tryz.zeroValue215
 t53:=Tryz.underlying236
 a53:=Tryz.isAgg236
 z53:=Tryz.sizeOf236
 v53:=Tryz.zeroValue236
 t55:=Tryz.underlying71
 a55:=Tryz.isAgg71
 z55:=Tryz.sizeOf71
 v55:=Tryz.zeroValue71
 t66:=Tryz.underlying251
 a66:=Tryz.isAgg251
 z66:=Tryz.sizeOf251
 v66:=Tryz.zeroValue251
 t70:=Tryz.underlying255
 a70:=Tryz.isAgg255
 z70:=Tryz.sizeOf255
 v70:=Tryz.zeroValue255
 t76:=Tryz.underlying265
 a76:=Tryz.isAgg265
 z76:=Tryz.sizeOf265
 v76:=Tryz.zeroValue265
 t77:=Tryz.underlying266
 a77:=Tryz.isAgg266
 z77:=Tryz.sizeOf266
 v77:=Tryz.zeroValue266 }
open Go Go.Fw Go.Proofs.YtifdadlhmlhfiaaGreatDoor Go.Shelf Go.RowKit Go.Lib Go.Sort
def cmpB (x y:ByteArray):Int:=if ltB x y=true then -1 else if (ltB x y||decide (x=y))=true then 0 else 1
theorem run_sgtr {P:Program} (x y:ByteArray) (W:World):Sem.run P (binOp BinOp.gtr 9 (Value.string x) (Value.string y)) W=.ok (.bool (!(ltB x y||decide (x=y)))) W:=by
 simp[binOp,Op.stringOp,ltB,ba_eq]
set_option maxHeartbeats 1000000 in
theorem YtifdadlhmlhfiaaGreatDoor.compared_c (x y:ByteArray) (W:World):Calls Tryz.prog 100 #[.string x,.string y] W fun e w'=>e=.returned (.int .i64 (cmpB x y))∧w'=W:=by
 go_enter Tryz.func100,Tryz.ntmps100
 go_wp2
 ·go_ret
  have h:ltB x y=true:= ‹_›
  simp[cmpB,h]
 ·rw[run_sgtr]
  have h:ltB x y=false:= ‹_›
  go_wp2
  ·go_ret
   have h2:(!decide (x=y))=true:= ‹_›
   simp at h2
   simp[cmpB,h,h2]
  ·go_ret
   have h2:(!decide (x=y))=false:= ‹_›
   simp at h2
   subst h2
   simp[cmpB,h]
set_option maxHeartbeats 1000000 in
theorem YtifdadlhmlhfiaaGreatDoor.clo1_c (x y:ByteArray) (p q:Option Addr) (l c m d:Nat) (W:World):Calls Tryz.prog 99 #[.agg #[.string x,.slice p l c],.agg #[.string y,.slice q m d]] W fun e w'=>e=.returned (.int .i64 (cmpB x y))∧∃k os',w'=grow (W.drewN k) os':=by
 have hcon:=fun W'=>YtifdadlhmlhfiaaGreatDoor.compared_c x y W'
 generalize cmpB x y=r at hcon⊢
 go_enter Tryz.func99,Tryz.ntmps99
 go_wp2_with (go_at_call 100;refine (hcon _).mono ?_;rintro e w' ⟨rfl,rfl⟩)
 go_ret
 exact ⟨rfl,0,_,by rw[alloc_eq_grow,alloc_eq_grow,grow_grow];rfl⟩
set_option maxHeartbeats 1000000 in
theorem YtifdadlhmlhfiaaGreatDoor.clo2_c (x y:ByteArray) (p q:Option Addr) (l c m d:Nat) (W:World):Calls Tryz.prog 102 #[.agg #[.string x,.slice p l c],.agg #[.string y,.slice q m d]] W fun e w'=>e=.returned (.int .i64 (cmpB x y))∧∃k os',w'=grow (W.drewN k) os':=by
 have hcon:=fun W'=>YtifdadlhmlhfiaaGreatDoor.compared_c x y W'
 generalize cmpB x y=r at hcon⊢
 go_enter Tryz.func102,Tryz.ntmps102
 go_wp2_with (go_at_call 100;refine (hcon _).mono ?_;rintro e w' ⟨rfl,rfl⟩)
 go_ret
 exact ⟨rfl,0,_,by rw[alloc_eq_grow,alloc_eq_grow,grow_grow];rfl⟩
abbrev LbE:=ByteArray×Option Addr×Nat×Nat
def encL (x:LbE):List Value:=[.string x.1,.slice x.2.1 x.2.2.1 x.2.2.2]
def cmpL (x y:LbE):Int:=cmpB x.1 y.1
theorem ltL (x y:LbE):ltOf cmpL x y=ltB x.1 y.1:=by
 unfold ltOf cmpL cmpB
 cases h:ltB x.1 y.1
 ·by_cases e:x.1=y.1<;>simp[e]
 ·simp
theorem swoL:SWO (ltOf cmpL) where
 irrefl x:=by rw[ltL,ltB_eq];simp[List.lt_irrefl]
 trans x y z h1 h2:=by
  rw[ltL,ltB_eq]at*
  simp only[decide_eq_true_eq]at*
  exact List.lt_trans h1 h2
 ntrans x y z h1 h2:=by
  rw[ltL,ltB_eq]at*
  simp only[decide_eq_false_iff_not,List.not_lt]at*
  exact List.le_trans h2 h1
theorem flatK_toList (d:Array LbE):(flatK encL 2 d).toList=d.toList.flatMap encL:=by
 apply List.ext_getElem?
 intro j
 by_cases hj:j<d.size*2
 ·have h1:j/2<d.size:=by omega
  have e1:j=j/2*2+j%2:=by omega
  have h2:(encL d[j/2])[j%2]? =some ((encL d[j/2])[j%2]'(by simp[encL];omega)):=List.getElem?_eq_getElem _
  have h3:=flatMap_get (c:=encL) (sz:=2) (fun _=>rfl) (xs:=d.toList) (j:=j/2) (a:=d[j/2]) (by simp[h1]) (j%2) _ h2
  rw[← e1]at h3
  rw[h3,Array.getElem?_toList,Array.getElem?_eq_getElem (by simpa using hj)]
  have h4:=get_flatK encL 2 d j hj
  rw[getElem!_pos (flatK encL 2 d) j (by simpa using hj)]at h4
  rw[h4,getElem!_pos d (j/2) h1,getElem!_pos (encL d[j/2]) (j%2) (by simp[encL];omega)]
 ·rw[List.getElem?_eq_none (by simpa using hj),List.getElem?_eq_none]
  have:∀l:List LbE,(l.flatMap encL).length=l.length*2:=fun l=>by
   induction l with
   |nil=>rfl
   |cons a r ih=>rw[List.flatMap_cons,List.length_append,ih];simp[encL];omega
  rw[this];simpa using hj
theorem take_putCells' (F cur:Array Value) (h:F.size≤cur.size):(putCells id 0 F cur).toList.take F.size=F.toList:=by
 apply List.ext_getElem?
 intro j
 by_cases hj:j<F.size
 ·rw[List.getElem?_take_of_lt hj,Array.getElem?_toList]
  simp[putCells,hj,show j<cur.size by omega]
 ·rw[List.getElem?_take_eq_none (by omega),List.getElem?_eq_none (by simpa using hj)]
theorem holdsK_of {b:Nat} {cs ex:List Value} {xs:List LbE} (hb:Blk w b T cs) (he:cs=xs.flatMap encL++ex):HoldsK encL 2 w b 0 xs.toArray:=by
 intro j hj
 refine ⟨?_,?_⟩
 ·rw[Nat.zero_add,hb.cell,he]
  have h1:(flatK encL 2 xs.toArray).toList=xs.flatMap encL:=by rw[flatK_toList]
  rw[← h1,List.getElem?_append_left (by simpa using hj),Array.getElem?_toList,Array.getElem?_eq_getElem hj,getElem!_pos (flatK encL 2 xs.toArray) j hj]
  rfl
 ·have h1:w.heap[b]? =some (.cells cs.toArray T (0,0)):=hb
  simp[World.frozen?,h1]
theorem heap_sortedK {g:Nat} {os:Array Obj} {cur:Array Value} {e:TypeId} {fr:Nat×Nat} (d:Array LbE) (hb:w.heap[g]? =some (.cells cur e fr)):
  (sortWorldK encL 2 w g 0 n d os).heap[g]? =some (.cells (putCells id 0 (flatK encL 2 d) cur) e fr):=by
 have hg:g<w.heap.size:=(Array.getElem?_eq_some_iff.1 hb).1
 unfold sortWorldK
 rw[heap_grow_old _ _ (by simpa[putRowK]using hg)]
 simp[putRowK,putRow,mapBlock,Sort.ahead,Array.getElem?_modify,hb,onCells]
theorem keepX_sortedK {g:Nat} {os:Array Obj} (d:Array LbE):KeepX [g] w (sortWorldK encL 2 w g 0 n d os):=by
 refine ⟨rfl,rfl,rfl,by simp[sortWorldK,grow,putRowK,putRow,mapBlock,Sort.ahead],fun k o hk hne=>?_⟩
 have hlt:=(Array.getElem?_eq_some_iff.1 hk).1
 unfold sortWorldK
 rw[heap_grow_old _ _ (by simpa[putRowK]using hlt)]
 have:g≠k:=fun e=>hne (by rw[e];simp)
 simp[putRowK,putRow,mapBlock,Sort.ahead,Array.getElem?_modify,this,hk]
theorem ltB_total {x y:ByteArray} (h:ltB y x=false) (hne:x≠y):ltB x y=true:=by
 rw[ltB_eq]at*
 simp only[decide_eq_false_iff_not,List.not_lt,decide_eq_true_eq]at*
 rcases List.le_iff_lt_or_eq.1 h with h|h
 ·exact h
 ·exact absurd (show ByteArray.mk x.data=ByteArray.mk y.data by rw[Array.toList_inj.1 h]) hne
theorem sortL_c {ρ:Ren} (L:SlLaysF0.n6 Tryz.prog ρ) {g:Nat} (aE:∀w,(isAgg (ρ.t 24)).run Tryz.prog w=.ok true w) (zE:∀w,(Go.sizeOf (ρ.t 24)).run Tryz.prog w=.ok 2 w) (eg:∀args w,(callFunc g args).run Tryz.prog w=.ok (.enter g args) w)
  (hcmp:∀(x y:LbE) (W:World),Calls Tryz.prog g #[.agg (encL x).toArray,.agg (encL y).toArray] W fun e w'=>e=.returned (.int .i64 (cmpL x y))∧∃k os',w'=grow (W.drewN k) os')
  (w:World) (y:Ent) (p:Option Addr) (l c:Nat) (xs:List LbE) (hO:Own T 2 y p l c (xs.flatMap encL)) (hb:y.on=true→Blk w y.b T y.cs) (hn:(xs.map (·.1)).Nodup) (hl:l≤1000000):
  Calls Tryz.prog (ρ.f 6) #[.slice p l c,.func (.func g) #[] #[]] w (Ret fun _ w'=>∃ys:List LbE,ys.Perm xs∧(ys.map (·.1)).Pairwise (fun a b=>ltB a b=true)∧((w'=w∧Own T 2 y p l c (ys.flatMap encL))∨y.on=true∧∃cs',Own T 2 { y with cs:=cs' } p l c (ys.flatMap encL)∧Blk w' y.b T cs'∧KeepX [y.b] w w')):=by
 have hfl:∀q:List LbE,(q.flatMap encL).length=q.length*2:=fun q=>by
  induction q with
  |nil=>rfl
  |cons a r ih=>rw[List.flatMap_cons,List.length_append,ih];simp[encL];omega
 have hlen:xs.length=l:=by have:=hO.sl.1;rw[hfl]at this;omega
 by_cases h0:l=0
 ·subst h0
  have e1:xs=[]:=List.eq_nil_of_length_eq_zero hlen
  refine (AnyF.slices_SortFunc_none { L with } p c _ w).mono ?_
  rintro e w' ⟨rfl,rfl⟩
  exact ⟨[],by rw[e1],by simp,.inl ⟨rfl,by rw[e1]at hO;exact hO⟩⟩
 obtain ⟨hon,hpp⟩:=hO.pos (by omega)
 subst hpp
 have hb:=hb hon
 obtain ⟨h1,h2,h3⟩:=hO.sl
 rcases h3 with ⟨-, -,⟨ex,h4⟩,h5⟩|⟨h3, -⟩
 case inr=>rw[hon]at h3;cases h3
 have hH:=holdsK_of hb h4
 have hc:=AnyQ.slices_SortFunc L 2 aE zE encL (fun _=>rfl) (fun x v hv=>by simp[encL]at hv;rcases hv with rfl|rfl<;>rfl) cmpL swoL g #[] y.b 0 c xs.toArray w eg (fun m os dk _ a b=>hcmp a b _) hH hb.lt (by simp;omega)
 have hsz:xs.toArray.size=l:=by simpa using hlen
 rw[hsz]at hc
 refine hc.mono ?_
 rintro e w' ⟨rfl,d,n,os,hp,hs,rfl⟩
 have hds:d.size=l:=by rw[hp.1];exact hsz
 have hperm:d.toList.Perm xs:=by
  have h6:=hp.2.2
  rw[← hsz]at h6
  rw[Array.extract_size]at h6
  rw[hsz, ← hds,Array.extract_size]at h6
  exact h6
 have hpw:(d.toList.map (·.1)).Pairwise (fun a b=>ltB a b=true):=by
  rw[List.pairwise_iff_getElem]
  intro i j hi hj hij
  have hi':i<d.size:=by simpa using hi
  have hj':j<d.size:=by simpa using hj
  have h7:=hs i j (Nat.zero_le _) hij (by omega)
  rw[ltL,getElem!_pos d i hi',getElem!_pos d j hj']at h7
  have hnd:(d.toList.map (·.1)).Nodup:=(hperm.map _).nodup_iff.2 hn
  simp only[List.getElem_map,Array.getElem_toList]
  refine ltB_total h7 fun e=>?_
  have:=nodup_ix hnd hi hj (by simpa using e)
  omega
 have hb':w.heap[y.b]? =some (.cells y.cs.toArray T (0,0)):=hb
 have hhs:=heap_sortedK (n:=n) (os:=os) d hb'
 have hcl:l*2≤y.cs.length:=by rw[h4,List.length_append,h1];omega
 have htk:=take_putCells' (flatK encL 2 d) y.cs.toArray (by simp[hds];exact hcl)
 rw[flatK_toList,size_flatK,hds]at htk
 refine ⟨d.toList,hperm,hpw,.inr ⟨hon,(putCells id 0 (flatK encL 2 d) y.cs.toArray).toList,⟨hO.hT,hO.hw,hO.ho,?_⟩,by simpa[Blk]using hhs,keepX_sortedK d⟩⟩
 refine ⟨by rw[hfl];simp[hds],h2,.inl ⟨hon,rfl,⟨(putCells id 0 (flatK encL 2 d) y.cs.toArray).toList.drop (l*2),?_⟩,?_⟩⟩
 ·rw[← htk,List.take_append_drop]
 ·have:(putCells id 0 (flatK encL 2 d) y.cs.toArray).size=y.cs.length:=by simp[putCells]
  simp only[Array.length_toList,this];exact h5
end Go.Proofs
namespace Go.Proofs.YtifdadlhmlhfiaaGreatDoor
open Go Go.Fw Go.Proofs Go.Proofs.Tryz
variable {z:Int} {w:World}
theorem CJ.turn {P:Program} {c:Code} {Q:Exit→Act→World→Prop} {n:Nat} {e:Env} {ws:World} {W:List Nat} {H:Heap} (hH:Hp ⟨ws,0,W⟩ ws H) (h:CJ P c Q n ⟨ws,0,W⟩ e H):CJ P c Q n ⟨ws,0,[]⟩ e []:=fun w _ hf=>h w (hH.fr hf) (hf.quiet 0 W)
theorem PS.init {B:Nat} {w0:World} {mb:Nat} {x:PProf} {g:G} {T:List ByteArray} (hG:OfP B w0 x g) (k:Fr 0 [] w0 w) (tab:Tab w mb (allS x) T) (zero:T[0]? =some eB):PS B w0 mb x g 0 0 0 0 0 T w:=by
 have kr:=fun (b:Nat) (T:Nat) (cs:List Value) (hb:Blk w0 b T cs)=>k.blk hb (.inr (by simp))
 refine ⟨tab,zero,k.quiet B wP,fun i b y hb hy=>⟨fun h=>by omega,fun _=>kr _ _ _ (hG.types.2 i b y hb hy)⟩,fun i b y hb hy=>⟨fun h=>by omega,fun _=>?_⟩,fun i b y hb hy=>⟨fun h=>by omega,fun _=>kr _ _ _ (hG.maps.2 i b y hb hy)⟩,fun i b y hb hy=>⟨fun h=>by omega,fun _=>?_⟩,fun i b y hb hy=>⟨fun h=>by omega,fun _=>kr _ _ _ (hG.funs.2 i b y hb hy)⟩,kr _ _ _ hG.per,fun b cs hb=>⟨cs,kr _ _ _ hb,LC.refl⟩⟩
 ·obtain ⟨ls,vs,lm,nm,h1,h2⟩:=(hG.sams.2 i b y hb hy).ex
  exact ⟨ls,vs,lm,nm,kr _ _ _ h1,h2⟩
 ·obtain ⟨ls,h1,h2⟩:=(hG.locs.2 i b y hb hy).ex
  obtain ⟨cs,h3,h4⟩:=hG.rows b (List.mem_of_getElem? hb)
  exact ⟨ls,kr _ _ _ h1,h2,fun rb n c e=>h4 rb n c (by rw[Blk.same' h3 h1,e];rfl)⟩
theorem flatMap_bound {α β:Type} {f:α→List β} {c:Nat}:∀{l:List α},(∀a∈l,(f a).length≤c)→(l.flatMap f).length≤c*l.length
 |[],_=>by simp
 |a::r,h=>by
    rw[List.flatMap_cons,List.length_append,List.length_cons]
    have h1:=h a (by simp)
    have h2:=flatMap_bound (l:=r) fun b hb=>h b (by simp[hb])
    rw[Nat.mul_succ];omega
theorem u64_range (h:IntKind.u64.wrap z=z):0≤z∧z<18446744073709551616:=by
 simp[IntKind.wrap,IntKind.bits,IntKind.signed]at h;omega
structure Rng (x:PProf):Prop where
 time:IntKind.i64.wrap x.time=x.time
 dur:IntKind.i64.wrap x.dur=x.dur
 period:IntKind.i64.wrap x.period=x.period
 vals:∀s∈x.samples,∀z∈s.values,IntKind.i64.wrap z=z
 nums:∀s∈x.samples,∀t∈s.nums,∀z∈t.list,IntKind.i64.wrap z=z
 maps:∀m∈x.mappings,IntKind.u64.wrap m.id=m.id∧IntKind.u64.wrap m.start=m.start∧IntKind.u64.wrap m.limit=m.limit∧IntKind.u64.wrap m.offset=m.offset
 locs:∀l∈x.locs,IntKind.u64.wrap l.id=l.id∧IntKind.u64.wrap l.addr=l.addr∧∀n∈l.lines,IntKind.i64.wrap n.line=n.line
 funs:∀f∈x.funcs,IntKind.u64.wrap f.id=f.id∧IntKind.i64.wrap f.start=f.start
theorem RProf.rng {cs:List Value} {x:PProf} (h:RProf w cs x):Rng x:=by
 obtain ⟨a,s,m,l,f,cm, -,ha,hs,hm,hl,hf, -,h1,h2,h3⟩:=h
 refine ⟨h1,h2,h3,hs.each fun c y hR=>?_,hs.each fun c y hR=>?_,hm.each fun c y hR=>hR.2,hl.each fun c y hR=>?_,hf.each fun c y hR=>hR.2⟩
 ·obtain ⟨_,_,_,_, -, -,h, -, -⟩:=hR
  exact h.each fun _ _ h=>h.2
 ·obtain ⟨_,_,_,_, -, -, -, -,h⟩:=hR
  refine h.each fun c t hR=>?_
  obtain ⟨_, -,h⟩:=hR
  exact h.each fun _ _ h=>h.2
 ·obtain ⟨_, -,h1, -,h2,h⟩:=hR
  exact ⟨h1,h2,h.each fun _ _ h=>h.2.2⟩
theorem idAt_range {ids:List Int} (h:∀i∈ids,IntKind.u64.wrap i=i):0≤idAt ids z∧idAt ids z<18446744073709551616:=by
 unfold idAt
 split
 ·rw[List.getD_eq_getElem?_getD]
  cases hg:ids[z.toNat]? with
  |none=>simp
  |some i=>exact u64_range (h i (List.mem_of_getElem? hg))
 ·omega
theorem Rng.mid {x:PProf} (h:Rng x) (z:Int):0≤mid x z∧mid x z<18446744073709551616:=idAt_range fun i hi=>by
 obtain ⟨m,hm,rfl⟩:=List.mem_map.1 hi
 exact (h.maps m hm).1
theorem Rng.fnid {x:PProf} (h:Rng x) (z:Int):0≤fnid x z∧fnid x z<18446744073709551616:=idAt_range fun i hi=>by
 obtain ⟨m,hm,rfl⟩:=List.mem_map.1 hi
 exact (h.funs m hm).1
theorem Rng.lid {x:PProf} (h:Rng x) (z:Int):0≤lid x z∧lid x z<18446744073709551616:=idAt_range fun i hi=>by
 obtain ⟨m,hm,rfl⟩:=List.mem_map.1 hi
 exact (h.locs m hm).1
theorem At.wrap {T:List ByteArray} {n:Int} {s:ByteArray} (h:At T n s) (hl:T.length≤100000000):IntKind.i64.wrap n=n:=by
 obtain ⟨k,rfl,hk⟩:=h
 have:=(List.getElem?_eq_some_iff.1 hk).1
 exact wrap64_small (by omega) (by omega)
def MT (T:List ByteArray) (t:PType) (M:List Nat):Prop:=∃n m,M=vtB n m∧At T n t.ty∧At T m t.unit
def MM (T:List ByteArray) (m:PMapping) (M:List Nat):Prop:=∃n k,M=mpB m.id.toNat m.start.toNat m.limit.toNat m.offset.toNat n k m.fu m.fi m.li m.inl∧At T n m.file∧At T k m.build
def MF (T:List ByteArray) (f:PFunc) (M:List Nat):Prop:=∃n k i,M=fnB f.id.toNat n k i f.start∧At T n f.name∧At T k f.system∧At T i f.file
def ML (x:PProf) (l:PLoc) (M:List Nat):Prop:=M=optB 1 l.id.toNat++(optB 2 (mid x l.mapping).toNat++(optB 3 l.addr.toNat++msB 4 (l.lines.map fun n=>lnB (fnid x n.fn).toNat n.line)))
def MS (T:List ByteArray) (x:PProf) (s:PSample) (M:List Nat):Prop:=∃lbs,LbR T lbs (labE s)∧M=smB (s.stack.map fun z=>(lid x z).toNat) s.values lbs
def All2 {α β:Type} (xs:List α) (ys:List β) (R:α→β→Prop):Prop:=ys.length=xs.length∧∀(i:Nat) a b,xs[i]? =some a→ys[i]? =some b→R a b
theorem Each.pick {α β:Type}:∀{bs:List Nat} {xs:List α} {φ:Nat→α→Prop} {R:Nat→α→β→Prop},Each bs xs φ→(∀b x,x∈xs→φ b x→∃M,R b x M)→∃Ms:List β,Ms.length=xs.length∧∀(i:Nat) b x M,bs[i]? =some b→xs[i]? =some x→Ms[i]? =some M→R b x M
 |[],[],_,_,_,_=>⟨[],rfl,by simp⟩
 |[],_::_,_,_,h,_=>by have:=h.1;simp at this
 |_::_,[],_,_,h,_=>by have:=h.1;simp at this
 |b::bs,x::xs,φ,R,h,hp=>by
    obtain ⟨Ms,h1,h2⟩:=Each.pick (bs:=bs) (xs:=xs) (φ:=φ) (R:=R) ⟨by have:=h.1;simpa using this,fun i b' x' hb hx=>h.2 (i+1) b' x' (by simpa using hb) (by simpa using hx)⟩ fun b' x' hx=>hp b' x' (by simp[hx])
    obtain ⟨M,hM⟩:=hp b x (by simp) (h.2 0 b x rfl rfl)
    refine ⟨M::Ms,by simp[h1],fun i b' x' M' hb hx hm=>?_⟩
    cases i with
    |zero=>simp at hb hx hm;subst hb;subst hx;subst hm;exact hM
    |succ i=>exact h2 i b' x' M' (by simpa using hb) (by simpa using hx) (by simpa using hm)
structure PR (x:PProf) (T:List ByteArray) (q:PIn):Prop where
 ts:All2 x.types q.ts (MT T)
 ss:All2 x.samples q.ss (MS T x)
 ms:All2 x.mappings q.ms (MM T)
 ls:All2 x.locs q.ls (ML x)
 fs:All2 x.funcs q.fs (MF T)
 tab:q.tab=T
 zero:T[0]? =some eB
 sub:∀s∈T,s∈allS x
 nd:T.Nodup
 dx:At T q.dx x.drop
 kx:At T q.kx x.keep
 ti:q.ti=x.time
 du:q.du=x.dur
 pe:q.pe=x.period
 tx:At T q.tx x.per.ty
 ux:At T q.ux x.per.unit
def sumS (l:List ByteArray):Nat:=(l.map fun s=>s.size+1).sum
end Go.Proofs.YtifdadlhmlhfiaaGreatDoor
namespace Go.Fw
open Go Go.Proofs.YtifdadlhmlhfiaaGreatDoor
variable {sz t:Nat}
section
variable {H:Type} {enc:TypeId×Value→H} {P:Program} {w:World}
def RD {α:Type} (enc:TypeId×Value→H) (P:Program) (w:World) (t:Nat) (R:World→List Value→α→Prop) (m:α→Nat):Prop:=
 ∀(fuel:Nat) (cs:List Value) (x:DataW H×List MemPlace),DataW.trod enc P w 0 (fun _=>true) true fuel t cs=some x→∃a,R w cs a∧m a≤Rows.uptoBulk x.1
theorem wf_wrap_eq {k:IntKind} {n:Int} (h:(Lit.int k n).wf=true):k.wrap n=n:=by
 cases k<;>simp[Lit.wf,IntKind.wrap,IntKind.min,IntKind.max,IntKind.signed,IntKind.bits]at h⊢ <;>omega
theorem rd_str (ht:P.underlying t=some .string):RD enc P w t RStr (fun s=>s.size+1):=fun fuel cs x h=>by
 obtain ⟨s,rfl,rfl, -⟩:=DataW.trod_string ht h
 exact ⟨s,rfl,by simp only[Rows.uptoBulk];rw[Array.length_toList];exact Nat.le_refl _⟩
theorem rd_int {k:IntKind} (ht:P.underlying t=some (.int k)):RD enc P w t (RInt k) (fun _=>0):=fun fuel cs x h=>by
 obtain ⟨n,rfl, -,hw⟩:=DataW.trod_int ht h
 exact ⟨n,⟨rfl,wf_wrap_eq hw⟩,Nat.zero_le _⟩
def RBool (_:World) (c:List Value) (x:Bool):Prop:=c=[.bool x]
theorem rd_bool (ht:P.underlying t=some .bool):RD enc P w t RBool (fun _=>0):=fun fuel cs x h=>by
 obtain ⟨b,rfl, -⟩:=DataW.trod_bool ht h
 exact ⟨b,rfl,Nat.zero_le _⟩
def RSl {α:Type} (R:World→List Value→α→Prop) (sz:Nat) (w:World) (c:List Value) (xs:List α):Prop:=∃v,c=[v]∧Lay R sz w v xs
theorem flat_inv:∀{cs:List (List Value)},(∀c∈cs,c.length=sz)→∀(j:Nat) (u:Value),cs.flatten[j]? =some u→∃(i:Nat) (c:List Value) (r:Nat),cs[i]? =some c∧c[r]? =some u∧j=i*sz+r
 |[],_,j,u,h=>by simp at h
 |a::cs,hl,j,u,h=>by
    have ha:=hl a (by simp)
    rw[List.flatten_cons]at h
    by_cases hj:j<a.length
    ·rw[List.getElem?_append_left hj]at h
     exact ⟨0,a,j,rfl,h,by simp⟩
    ·rw[List.getElem?_append_right (by omega)]at h
     obtain ⟨i,c,r,h1,h2,h3⟩:=flat_inv (fun c hc=>hl c (by simp[hc])) _ u h
     exact ⟨i+1,c,r,by simpa using h1,h2,by rw[Nat.succ_mul];omega⟩
theorem cells_get {a:Addr} {n:Nat} {c:List Value} (h:w.cells? 0 a n=some c):c.length=n∧∀(r:Nat) u,c[r]? =some u→w.cell? (a.add r)=some u:=by
 unfold World.cells? at h
 rw[if_pos (Nat.zero_le _)]at h
 have hl:c.length=n:=by simpa using mapM_some_length h
 refine ⟨hl,fun r u hu=>?_⟩
 have hr:=(List.getElem?_eq_some_iff.1 hu).1
 have:=mapM_some_get h r r (by rw[List.getElem?_range (by omega)])
 rw[this];exact hu
theorem sum_le {α:Type} {m:α→Nat}:∀{ys:List α} {es:List (DataW H×List MemPlace)},ys.length≤es.length→(∀(i:Nat) y e,ys[i]? =some y→es[i]? =some e→m y≤Rows.uptoBulk e.1)→(ys.map m).sum≤Rows.uptoBulkAll (es.map (·.1))
 |[],_,_,_=>Nat.zero_le _
 |_::_,[],h,_=>by simp at h
 |y::ys,e::es,h,hp=>by
    have h1:=sum_le (m:=m) (ys:=ys) (es:=es) (by simpa using h) fun i y' e' hy he=>hp (i+1) y' e' (by simpa using hy) (by simpa using he)
    have h2:=hp 0 y e rfl rfl
    simp only[List.map_cons,List.sum_cons,Rows.uptoBulkAll]
    omega
theorem rd_slice {α:Type} {m:α→Nat} {R:World→List Value→α→Prop} {e:Nat} (ht:P.underlying t=some (.slice e)) (hc:P.cellsOf e=sz) (hp:0<sz) (he:RD enc P w e R m):RD enc P w t (RSl R sz) (fun xs=>(xs.map m).sum):=fun fuel cs x h=>by
 rcases DataW.trod_slice ht h with ⟨rfl, -⟩|⟨a,len,cap,elems,rest,n, -,rfl,rfl, -,hlc,hcm,hel,hget, -, -⟩
 ·exact ⟨[],⟨_,rfl,[],⟨⟨none,0,rfl,Nat.le_refl _,.inl rfl⟩,by simp,Nat.zero_le _⟩,rfl,by simp,by simp⟩,Nat.zero_le _⟩
 ·have key:∀i:Fin len,∃(c:List Value) (y:α),w.cells? 0 (a.add (i.1*sz)) sz=some c∧R w c y∧∀e,elems[i.1]? =some e→m y≤Rows.uptoBulk e.1:=fun i=>by
   have h1:=hget i.1 i.2
   rw[hc,List.getElem?_eq_getElem (by omega)]at h1
   obtain ⟨c,h2,h3⟩:=Option.bind_eq_some_iff.1 h1
   obtain ⟨y,hy⟩:=he _ _ _ h3
   exact ⟨c,y,h2,hy.1,fun e he=>by
    rw[List.getElem?_eq_getElem (by omega)]at he
    cases he;exact hy.2⟩
  let fc:Fin len→List Value:=fun i=>Classical.choose (key i)
  let fy:Fin len→α:=fun i=>Classical.choose (Classical.choose_spec (key i))
  have hk:∀i:Fin len,w.cells? 0 (a.add (i.1*sz)) sz=some (fc i)∧R w (fc i) (fy i)∧∀e,elems[i.1]? =some e→m (fy i)≤Rows.uptoBulk e.1:=fun i=>Classical.choose_spec (Classical.choose_spec (key i))
  have hlen:∀c∈List.ofFn fc,c.length=sz:=fun c hcm=>by
   obtain ⟨i,hi⟩:=List.mem_iff_getElem?.1 hcm
   have hlt:=(List.getElem?_eq_some_iff.1 hi).1
   simp at hlt
   rw[List.getElem?_ofFn,dif_pos hlt]at hi
   cases hi
   exact (cells_get (hk ⟨i,hlt⟩).1).1
  refine ⟨List.ofFn fy,⟨_,rfl,List.ofFn fc,⟨⟨some a,cap,by simp,by simpa using hlc,?_⟩,?_,?_⟩,by simp,hlen,?_⟩,?_⟩
  rotate_left 4
  ·have h1:=sum_le (m:=m) (ys:=List.ofFn fy) (es:=elems) (by simp;omega) fun i y e hy he=>by
    have hlt:=(List.getElem?_eq_some_iff.1 hy).1
    simp at hlt
    rw[List.getElem?_ofFn,dif_pos hlt]at hy
    cases hy
    exact (hk ⟨i,hlt⟩).2.2 e he
   simp only[Rows.uptoBulk]
   omega
  ·by_cases h0:len=0
   ·exact .inl (by simpa using h0)
   ·right
    have hs:a.spot=none:=by
     have h1:=(cells_get (hk ⟨0,by omega⟩).1)
     have h2:0<(fc ⟨0,by omega⟩).length:=by rw[h1.1];exact hp
     have h3:=h1.2 0 _ (List.getElem?_eq_getElem h2)
     have h4:=World.cell?_spot h3
     simpa[Addr.add]using h4
    obtain ⟨b,off,spot⟩:=a
    simp at hs
    subst hs
    refine ⟨b,off,rfl,fun j u hj=>?_⟩
    obtain ⟨i,c,r,h1,h2,rfl⟩:=flat_inv hlen j u hj
    have hlt:=(List.getElem?_eq_some_iff.1 h1).1
    simp at hlt
    rw[List.getElem?_ofFn,dif_pos hlt]at h1
    cases h1
    have h3:=(cells_get (hk ⟨i,hlt⟩).1).2 r u h2
    have h4:(Addr.add ⟨b,off,none⟩ (i*sz)).add r=⟨b,off+(i*sz+r),none⟩:=by
     unfold Addr.add
     by_cases q1:i*sz=0<;>by_cases q2:r=0<;>simp[q1,q2,Nat.add_assoc]
    rw[h4]at h3
    exact h3
  ·have:∀{l:List (List Value)},(∀c∈l,c.length=sz)→l.flatten.length=l.length*sz:=by
    intro l
    induction l with
    |nil=>intro _;simp
    |cons a r ih=>intro h;rw[List.flatten_cons,List.length_append,h a (by simp),ih (fun c hc=>h c (by simp[hc])),List.length_cons,Nat.succ_mul];omega
   rw[this hlen];simp
  ·have:(List.ofFn fy).length=len:=by simp
   rw[this]
   have:maxLen=9223372036854775807:=by decide
   omega
  ·intro i c y h1 h2
   have hlt:=(List.getElem?_eq_some_iff.1 h1).1
   simp at hlt
   rw[List.getElem?_ofFn,dif_pos hlt]at h1 h2
   cases h1;cases h2
   exact (hk ⟨i,hlt⟩).2.1
end
end Go.Fw
namespace Go.Proofs.YtifdadlhmlhfiaaGreatDoor
open Go Go.Fw Go.Proofs
variable {f:Fm} {es:List MapEntry} {T c ck l:Nat} {p:Option Addr} {s:PSample} {v:Value} {w w':World}
section
variable {H:Type} {enc:TypeId×Value→H} {w:World}
theorem cellsOf9:Tryz.prog.cellsOf 9=1:=by kernel_rfl
theorem cellsOf3:Tryz.prog.cellsOf 3=1:=by kernel_rfl
theorem cellsOf2:Tryz.prog.cellsOf 2=1:=by kernel_rfl
theorem cellsOf71:Tryz.prog.cellsOf 71=1:=by kernel_rfl
theorem cellsOf4:Tryz.prog.cellsOf 4=1:=by kernel_rfl
theorem cellsOf29:Tryz.prog.cellsOf 29=2:=by kernel_rfl
theorem cellsOf109:Tryz.prog.cellsOf 109=2:=by kernel_rfl
theorem cellsOf112:Tryz.prog.cellsOf 112=2:=by kernel_rfl
theorem cellsOf57:Tryz.prog.cellsOf 57=4:=by kernel_rfl
theorem cellsOf73:Tryz.prog.cellsOf 73=10:=by kernel_rfl
theorem cellsOf114:Tryz.prog.cellsOf 114=2:=by kernel_rfl
theorem cellsOf77:Tryz.prog.cellsOf 77=4:=by kernel_rfl
theorem cellsOf80:Tryz.prog.cellsOf 80=5:=by kernel_rfl
theorem cellsOf31:Tryz.prog.cellsOf 31=14:=by kernel_rfl
theorem cellsOf27:Tryz.prog.cellsOf 27=1:=by kernel_rfl
theorem cellsOf53:Tryz.prog.cellsOf 53=1:=by kernel_rfl
theorem cellsOf32:Tryz.prog.cellsOf 32=1:=by kernel_rfl
theorem cellsOf22:Tryz.prog.cellsOf 22=1:=by kernel_rfl
theorem cellsOf23:Tryz.prog.cellsOf 23=1:=by kernel_rfl
theorem cellsOf24:Tryz.prog.cellsOf 24=1:=by kernel_rfl
theorem cellsOf25:Tryz.prog.cellsOf 25=1:=by kernel_rfl
theorem cellsOf26:Tryz.prog.cellsOf 26=1:=by kernel_rfl
theorem cellsOf54:Tryz.prog.cellsOf 54=1:=by kernel_rfl
theorem cellsOf55:Tryz.prog.cellsOf 55=1:=by kernel_rfl
theorem cellsOf75:Tryz.prog.cellsOf 75=1:=by kernel_rfl
def mTy (t:PType):Nat:=(t.ty.size+1)+(t.unit.size+1)
def mTx (t:PTexts):Nat:=(t.key.size+1)+(t.list.map fun s=>s.size+1).sum
def mNu (t:PNums):Nat:=t.key.size+1
def mSm (s:PSample):Nat:=(s.texts.map mTx).sum+(s.nums.map mNu).sum
def mMp (m:PMapping):Nat:=(m.file.size+1)+(m.build.size+1)
def mLn (_:PLine):Nat:=0
def mLc (_:PLoc):Nat:=0
def mFn (f:PFunc):Nat:=(f.name.size+1)+((f.system.size+1)+(f.file.size+1))
def mPf (x:PProf):Nat:=(x.types.map mTy).sum+((x.samples.map mSm).sum+((x.mappings.map mMp).sum+((x.funcs.map mFn).sum+((x.drop.size+1)+((x.keep.size+1)+(mTy x.per+((x.deflt.size+1)+(x.comments.map fun s=>s.size+1).sum)))))))
theorem rd_Type:RD enc Tryz.prog w 29 RType mTy:=fun fuel cs x h=>by
 obtain ⟨xs,n, -,rfl,hlen,hxl,hf⟩:=DataW.trod_struct ud29 h
 rw[cellsOf29]at hlen
 replace hxl:xs.length=2:=hxl
 obtain ⟨y0,y1,rfl⟩:∃y0 y1,xs=[y0,y1]:=by
  clear hf h
  rcases xs with _|⟨y0,xs⟩
  ·simp at hxl
  rcases xs with _|⟨y1,xs⟩
  ·simp at hxl
  rcases xs with _|⟨y,xs⟩
  ·exact ⟨_,_,rfl⟩
  ·simp at hxl
 have t0:=hf 0 _ rfl
 obtain ⟨a0,r0,q0⟩:=(rd_str ud9) _ _ y0 t0
 have g0:RStr w ((cs.drop 0).take (Tryz.prog.cellsOf 9)) a0:=r0
 rw[cellsOf9]at g0
 clear t0 r0
 have t1:=hf 1 _ rfl
 obtain ⟨a1,r1,q1⟩:=(rd_str ud9) _ _ y1 t1
 have g1:RStr w ((cs.drop 1).take (Tryz.prog.cellsOf 9)) a1:=r1
 rw[cellsOf9]at g1
 clear t1 r1
 clear hf
 have hq:Rows.uptoBulk y0.1+(Rows.uptoBulk y1.1+0)+1≤Rows.uptoBulk (.agg ([y0,y1].map (·.1))):=by simp only[Rows.uptoBulk,Rows.uptoBulkAll,List.map_cons,List.map_nil];omega
 obtain ⟨c0,c1,rfl⟩:∃c0 c1,cs=[c0,c1]:=by
  clear h g0 g1
  rcases cs with _|⟨c0,cs⟩
  ·simp at hlen
  rcases cs with _|⟨c1,cs⟩
  ·simp at hlen
  rcases cs with _|⟨c,cs⟩
  ·exact ⟨_,_,rfl⟩
  ·simp at hlen
 have h0:RStr w [c0] a0:=g0
 have h1:RStr w [c1] a1:=g1
 have e0:=h0
 obtain rfl:=(List.cons.inj e0).1
 have e1:=h1
 obtain rfl:=(List.cons.inj e1).1
 have p0:a0.size+1≤Rows.uptoBulk y0.1:=q0
 have p1:a1.size+1≤Rows.uptoBulk y1.1:=q1
 refine ⟨⟨a0,a1⟩,rfl,?_⟩
 refine Nat.le_trans ?_ hq
 simp only[mTy];omega
theorem rd_Texts:RD enc Tryz.prog w 109 RTexts mTx:=fun fuel cs x h=>by
 obtain ⟨xs,n, -,rfl,hlen,hxl,hf⟩:=DataW.trod_struct ud109 h
 rw[cellsOf109]at hlen
 replace hxl:xs.length=2:=hxl
 obtain ⟨y0,y1,rfl⟩:∃y0 y1,xs=[y0,y1]:=by
  clear hf h
  rcases xs with _|⟨y0,xs⟩
  ·simp at hxl
  rcases xs with _|⟨y1,xs⟩
  ·simp at hxl
  rcases xs with _|⟨y,xs⟩
  ·exact ⟨_,_,rfl⟩
  ·simp at hxl
 have t0:=hf 0 _ rfl
 obtain ⟨a0,r0,q0⟩:=(rd_str ud9) _ _ y0 t0
 have g0:RStr w ((cs.drop 0).take (Tryz.prog.cellsOf 9)) a0:=r0
 rw[cellsOf9]at g0
 clear t0 r0
 have t1:=hf 1 _ rfl
 obtain ⟨a1,r1,q1⟩:=(rd_slice ud27 cellsOf9 (by decide) (rd_str ud9)) _ _ y1 t1
 have g1:(RSl RStr 1) w ((cs.drop 1).take (Tryz.prog.cellsOf 27)) a1:=r1
 rw[cellsOf27]at g1
 clear t1 r1
 clear hf
 have hq:Rows.uptoBulk y0.1+(Rows.uptoBulk y1.1+0)+1≤Rows.uptoBulk (.agg ([y0,y1].map (·.1))):=by simp only[Rows.uptoBulk,Rows.uptoBulkAll,List.map_cons,List.map_nil];omega
 obtain ⟨c0,c1,rfl⟩:∃c0 c1,cs=[c0,c1]:=by
  clear h g0 g1
  rcases cs with _|⟨c0,cs⟩
  ·simp at hlen
  rcases cs with _|⟨c1,cs⟩
  ·simp at hlen
  rcases cs with _|⟨c,cs⟩
  ·exact ⟨_,_,rfl⟩
  ·simp at hlen
 have h0:RStr w [c0] a0:=g0
 have h1:(RSl RStr 1) w [c1] a1:=g1
 have e0:=h0
 obtain rfl:=(List.cons.inj e0).1
 obtain ⟨v1,e1,h1⟩:=h1
 obtain rfl:=(List.cons.inj e1).1
 have p0:a0.size+1≤Rows.uptoBulk y0.1:=q0
 have p1:(a1.map (fun s:ByteArray=>s.size+1)).sum≤Rows.uptoBulk y1.1:=q1
 refine ⟨⟨a0,a1⟩,⟨_,rfl,h1⟩,?_⟩
 refine Nat.le_trans ?_ hq
 simp only[mTx];omega
theorem rd_Numbers:RD enc Tryz.prog w 112 RNums mNu:=fun fuel cs x h=>by
 obtain ⟨xs,n, -,rfl,hlen,hxl,hf⟩:=DataW.trod_struct ud112 h
 rw[cellsOf112]at hlen
 replace hxl:xs.length=2:=hxl
 obtain ⟨y0,y1,rfl⟩:∃y0 y1,xs=[y0,y1]:=by
  clear hf h
  rcases xs with _|⟨y0,xs⟩
  ·simp at hxl
  rcases xs with _|⟨y1,xs⟩
  ·simp at hxl
  rcases xs with _|⟨y,xs⟩
  ·exact ⟨_,_,rfl⟩
  ·simp at hxl
 have t0:=hf 0 _ rfl
 obtain ⟨a0,r0,q0⟩:=(rd_str ud9) _ _ y0 t0
 have g0:RStr w ((cs.drop 0).take (Tryz.prog.cellsOf 9)) a0:=r0
 rw[cellsOf9]at g0
 clear t0 r0
 have t1:=hf 1 _ rfl
 obtain ⟨a1,r1,q1⟩:=(rd_slice ud53 cellsOf2 (by decide) (rd_int ud2)) _ _ y1 t1
 have g1:(RSl (RInt .i64) 1) w ((cs.drop 1).take (Tryz.prog.cellsOf 53)) a1:=r1
 rw[cellsOf53]at g1
 clear t1 r1
 clear hf
 have hq:Rows.uptoBulk y0.1+(Rows.uptoBulk y1.1+0)+1≤Rows.uptoBulk (.agg ([y0,y1].map (·.1))):=by simp only[Rows.uptoBulk,Rows.uptoBulkAll,List.map_cons,List.map_nil];omega
 obtain ⟨c0,c1,rfl⟩:∃c0 c1,cs=[c0,c1]:=by
  clear h g0 g1
  rcases cs with _|⟨c0,cs⟩
  ·simp at hlen
  rcases cs with _|⟨c1,cs⟩
  ·simp at hlen
  rcases cs with _|⟨c,cs⟩
  ·exact ⟨_,_,rfl⟩
  ·simp at hlen
 have h0:RStr w [c0] a0:=g0
 have h1:(RSl (RInt .i64) 1) w [c1] a1:=g1
 have e0:=h0
 obtain rfl:=(List.cons.inj e0).1
 obtain ⟨v1,e1,h1⟩:=h1
 obtain rfl:=(List.cons.inj e1).1
 have p0:a0.size+1≤Rows.uptoBulk y0.1:=q0
 have p1:(a1.map (fun _:Int=>0)).sum≤Rows.uptoBulk y1.1:=q1
 refine ⟨⟨a0,a1⟩,⟨_,rfl,h1⟩,?_⟩
 refine Nat.le_trans ?_ hq
 simp only[mNu];omega
theorem rd_Sample:RD enc Tryz.prog w 57 RSample mSm:=fun fuel cs x h=>by
 obtain ⟨xs,n, -,rfl,hlen,hxl,hf⟩:=DataW.trod_struct ud57 h
 rw[cellsOf57]at hlen
 replace hxl:xs.length=4:=hxl
 obtain ⟨y0,y1,y2,y3,rfl⟩:∃y0 y1 y2 y3,xs=[y0,y1,y2,y3]:=by
  clear hf h
  rcases xs with _|⟨y0,xs⟩
  ·simp at hxl
  rcases xs with _|⟨y1,xs⟩
  ·simp at hxl
  rcases xs with _|⟨y2,xs⟩
  ·simp at hxl
  rcases xs with _|⟨y3,xs⟩
  ·simp at hxl
  rcases xs with _|⟨y,xs⟩
  ·exact ⟨_,_,_,_,rfl⟩
  ·simp at hxl
 have t0:=hf 0 _ rfl
 obtain ⟨a0,r0,q0⟩:=(rd_slice ud32 cellsOf3 (by decide) (rd_int ud3)) _ _ y0 t0
 have g0:(RSl (RInt .i64) 1) w ((cs.drop 0).take (Tryz.prog.cellsOf 32)) a0:=r0
 rw[cellsOf32]at g0
 clear t0 r0
 have t1:=hf 1 _ rfl
 obtain ⟨a1,r1,q1⟩:=(rd_slice ud53 cellsOf2 (by decide) (rd_int ud2)) _ _ y1 t1
 have g1:(RSl (RInt .i64) 1) w ((cs.drop 1).take (Tryz.prog.cellsOf 53)) a1:=r1
 rw[cellsOf53]at g1
 clear t1 r1
 have t2:=hf 2 _ rfl
 obtain ⟨a2,r2,q2⟩:=(rd_slice ud54 cellsOf109 (by decide) rd_Texts) _ _ y2 t2
 have g2:(RSl RTexts 2) w ((cs.drop 2).take (Tryz.prog.cellsOf 54)) a2:=r2
 rw[cellsOf54]at g2
 clear t2 r2
 have t3:=hf 3 _ rfl
 obtain ⟨a3,r3,q3⟩:=(rd_slice ud55 cellsOf112 (by decide) rd_Numbers) _ _ y3 t3
 have g3:(RSl RNums 2) w ((cs.drop 3).take (Tryz.prog.cellsOf 55)) a3:=r3
 rw[cellsOf55]at g3
 clear t3 r3
 clear hf
 have hq:Rows.uptoBulk y0.1+(Rows.uptoBulk y1.1+(Rows.uptoBulk y2.1+(Rows.uptoBulk y3.1+0)))+1≤Rows.uptoBulk (.agg ([y0,y1,y2,y3].map (·.1))):=by simp only[Rows.uptoBulk,Rows.uptoBulkAll,List.map_cons,List.map_nil];omega
 obtain ⟨c0,c1,c2,c3,rfl⟩:∃c0 c1 c2 c3,cs=[c0,c1,c2,c3]:=by
  clear h g0 g1 g2 g3
  rcases cs with _|⟨c0,cs⟩
  ·simp at hlen
  rcases cs with _|⟨c1,cs⟩
  ·simp at hlen
  rcases cs with _|⟨c2,cs⟩
  ·simp at hlen
  rcases cs with _|⟨c3,cs⟩
  ·simp at hlen
  rcases cs with _|⟨c,cs⟩
  ·exact ⟨_,_,_,_,rfl⟩
  ·simp at hlen
 have h0:(RSl (RInt .i64) 1) w [c0] a0:=g0
 have h1:(RSl (RInt .i64) 1) w [c1] a1:=g1
 have h2:(RSl RTexts 2) w [c2] a2:=g2
 have h3:(RSl RNums 2) w [c3] a3:=g3
 obtain ⟨v0,e0,h0⟩:=h0
 obtain rfl:=(List.cons.inj e0).1
 obtain ⟨v1,e1,h1⟩:=h1
 obtain rfl:=(List.cons.inj e1).1
 obtain ⟨v2,e2,h2⟩:=h2
 obtain rfl:=(List.cons.inj e2).1
 obtain ⟨v3,e3,h3⟩:=h3
 obtain rfl:=(List.cons.inj e3).1
 have p0:(a0.map (fun _:Int=>0)).sum≤Rows.uptoBulk y0.1:=q0
 have p1:(a1.map (fun _:Int=>0)).sum≤Rows.uptoBulk y1.1:=q1
 have p2:(a2.map mTx).sum≤Rows.uptoBulk y2.1:=q2
 have p3:(a3.map mNu).sum≤Rows.uptoBulk y3.1:=q3
 refine ⟨⟨a0,a1,a2,a3⟩,⟨_,_,_,_,rfl,h0,h1,h2,h3⟩,?_⟩
 refine Nat.le_trans ?_ hq
 simp only[mSm];omega
theorem rd_Mapping:RD enc Tryz.prog w 73 RMapping mMp:=fun fuel cs x h=>by
 obtain ⟨xs,n, -,rfl,hlen,hxl,hf⟩:=DataW.trod_struct ud73 h
 rw[cellsOf73]at hlen
 replace hxl:xs.length=10:=hxl
 obtain ⟨y0,y1,y2,y3,y4,y5,y6,y7,y8,y9,rfl⟩:∃y0 y1 y2 y3 y4 y5 y6 y7 y8 y9,xs=[y0,y1,y2,y3,y4,y5,y6,y7,y8,y9]:=by
  clear hf h
  rcases xs with _|⟨y0,xs⟩
  ·simp at hxl
  rcases xs with _|⟨y1,xs⟩
  ·simp at hxl
  rcases xs with _|⟨y2,xs⟩
  ·simp at hxl
  rcases xs with _|⟨y3,xs⟩
  ·simp at hxl
  rcases xs with _|⟨y4,xs⟩
  ·simp at hxl
  rcases xs with _|⟨y5,xs⟩
  ·simp at hxl
  rcases xs with _|⟨y6,xs⟩
  ·simp at hxl
  rcases xs with _|⟨y7,xs⟩
  ·simp at hxl
  rcases xs with _|⟨y8,xs⟩
  ·simp at hxl
  rcases xs with _|⟨y9,xs⟩
  ·simp at hxl
  rcases xs with _|⟨y,xs⟩
  ·exact ⟨_,_,_,_,_,_,_,_,_,_,rfl⟩
  ·simp at hxl
 have t0:=hf 0 _ rfl
 obtain ⟨a0,r0,q0⟩:=(rd_int ud71) _ _ y0 t0
 have g0:(RInt .u64) w ((cs.drop 0).take (Tryz.prog.cellsOf 71)) a0:=r0
 rw[cellsOf71]at g0
 clear t0 r0
 have t1:=hf 1 _ rfl
 obtain ⟨a1,r1,q1⟩:=(rd_int ud71) _ _ y1 t1
 have g1:(RInt .u64) w ((cs.drop 1).take (Tryz.prog.cellsOf 71)) a1:=r1
 rw[cellsOf71]at g1
 clear t1 r1
 have t2:=hf 2 _ rfl
 obtain ⟨a2,r2,q2⟩:=(rd_int ud71) _ _ y2 t2
 have g2:(RInt .u64) w ((cs.drop 2).take (Tryz.prog.cellsOf 71)) a2:=r2
 rw[cellsOf71]at g2
 clear t2 r2
 have t3:=hf 3 _ rfl
 obtain ⟨a3,r3,q3⟩:=(rd_int ud71) _ _ y3 t3
 have g3:(RInt .u64) w ((cs.drop 3).take (Tryz.prog.cellsOf 71)) a3:=r3
 rw[cellsOf71]at g3
 clear t3 r3
 have t4:=hf 4 _ rfl
 obtain ⟨a4,r4,q4⟩:=(rd_str ud9) _ _ y4 t4
 have g4:RStr w ((cs.drop 4).take (Tryz.prog.cellsOf 9)) a4:=r4
 rw[cellsOf9]at g4
 clear t4 r4
 have t5:=hf 5 _ rfl
 obtain ⟨a5,r5,q5⟩:=(rd_str ud9) _ _ y5 t5
 have g5:RStr w ((cs.drop 5).take (Tryz.prog.cellsOf 9)) a5:=r5
 rw[cellsOf9]at g5
 clear t5 r5
 have t6:=hf 6 _ rfl
 obtain ⟨a6,r6,q6⟩:=(rd_bool ud4) _ _ y6 t6
 have g6:RBool w ((cs.drop 6).take (Tryz.prog.cellsOf 4)) a6:=r6
 rw[cellsOf4]at g6
 clear t6 r6
 have t7:=hf 7 _ rfl
 obtain ⟨a7,r7,q7⟩:=(rd_bool ud4) _ _ y7 t7
 have g7:RBool w ((cs.drop 7).take (Tryz.prog.cellsOf 4)) a7:=r7
 rw[cellsOf4]at g7
 clear t7 r7
 have t8:=hf 8 _ rfl
 obtain ⟨a8,r8,q8⟩:=(rd_bool ud4) _ _ y8 t8
 have g8:RBool w ((cs.drop 8).take (Tryz.prog.cellsOf 4)) a8:=r8
 rw[cellsOf4]at g8
 clear t8 r8
 have t9:=hf 9 _ rfl
 obtain ⟨a9,r9,q9⟩:=(rd_bool ud4) _ _ y9 t9
 have g9:RBool w ((cs.drop 9).take (Tryz.prog.cellsOf 4)) a9:=r9
 rw[cellsOf4]at g9
 clear t9 r9
 clear hf
 have hq:Rows.uptoBulk y0.1+(Rows.uptoBulk y1.1+(Rows.uptoBulk y2.1+(Rows.uptoBulk y3.1+(Rows.uptoBulk y4.1+(Rows.uptoBulk y5.1+(Rows.uptoBulk y6.1+(Rows.uptoBulk y7.1+(Rows.uptoBulk y8.1+(Rows.uptoBulk y9.1+0)))))))))+1≤Rows.uptoBulk (.agg ([y0,y1,y2,y3,y4,y5,y6,y7,y8,y9].map (·.1))):=by simp only[Rows.uptoBulk,Rows.uptoBulkAll,List.map_cons,List.map_nil];omega
 obtain ⟨c0,c1,c2,c3,c4,c5,c6,c7,c8,c9,rfl⟩:∃c0 c1 c2 c3 c4 c5 c6 c7 c8 c9,cs=[c0,c1,c2,c3,c4,c5,c6,c7,c8,c9]:=by
  clear h g0 g1 g2 g3 g4 g5 g6 g7 g8 g9
  rcases cs with _|⟨c0,cs⟩
  ·simp at hlen
  rcases cs with _|⟨c1,cs⟩
  ·simp at hlen
  rcases cs with _|⟨c2,cs⟩
  ·simp at hlen
  rcases cs with _|⟨c3,cs⟩
  ·simp at hlen
  rcases cs with _|⟨c4,cs⟩
  ·simp at hlen
  rcases cs with _|⟨c5,cs⟩
  ·simp at hlen
  rcases cs with _|⟨c6,cs⟩
  ·simp at hlen
  rcases cs with _|⟨c7,cs⟩
  ·simp at hlen
  rcases cs with _|⟨c8,cs⟩
  ·simp at hlen
  rcases cs with _|⟨c9,cs⟩
  ·simp at hlen
  rcases cs with _|⟨c,cs⟩
  ·exact ⟨_,_,_,_,_,_,_,_,_,_,rfl⟩
  ·simp at hlen
 have h0:(RInt .u64) w [c0] a0:=g0
 have h1:(RInt .u64) w [c1] a1:=g1
 have h2:(RInt .u64) w [c2] a2:=g2
 have h3:(RInt .u64) w [c3] a3:=g3
 have h4:RStr w [c4] a4:=g4
 have h5:RStr w [c5] a5:=g5
 have h6:RBool w [c6] a6:=g6
 have h7:RBool w [c7] a7:=g7
 have h8:RBool w [c8] a8:=g8
 have h9:RBool w [c9] a9:=g9
 obtain ⟨e0,h0⟩:=h0
 obtain rfl:=(List.cons.inj e0).1
 obtain ⟨e1,h1⟩:=h1
 obtain rfl:=(List.cons.inj e1).1
 obtain ⟨e2,h2⟩:=h2
 obtain rfl:=(List.cons.inj e2).1
 obtain ⟨e3,h3⟩:=h3
 obtain rfl:=(List.cons.inj e3).1
 have e4:=h4
 obtain rfl:=(List.cons.inj e4).1
 have e5:=h5
 obtain rfl:=(List.cons.inj e5).1
 have e6:=h6
 obtain rfl:=(List.cons.inj e6).1
 have e7:=h7
 obtain rfl:=(List.cons.inj e7).1
 have e8:=h8
 obtain rfl:=(List.cons.inj e8).1
 have e9:=h9
 obtain rfl:=(List.cons.inj e9).1
 have p0:0≤Rows.uptoBulk y0.1:=q0
 have p1:0≤Rows.uptoBulk y1.1:=q1
 have p2:0≤Rows.uptoBulk y2.1:=q2
 have p3:0≤Rows.uptoBulk y3.1:=q3
 have p4:a4.size+1≤Rows.uptoBulk y4.1:=q4
 have p5:a5.size+1≤Rows.uptoBulk y5.1:=q5
 have p6:0≤Rows.uptoBulk y6.1:=q6
 have p7:0≤Rows.uptoBulk y7.1:=q7
 have p8:0≤Rows.uptoBulk y8.1:=q8
 have p9:0≤Rows.uptoBulk y9.1:=q9
 refine ⟨⟨a0,a1,a2,a3,a4,a5,a6,a7,a8,a9⟩,⟨rfl,h0,h1,h2,h3⟩,?_⟩
 refine Nat.le_trans ?_ hq
 simp only[mMp];omega
theorem rd_Line:RD enc Tryz.prog w 114 RLine mLn:=fun fuel cs x h=>by
 obtain ⟨xs,n, -,rfl,hlen,hxl,hf⟩:=DataW.trod_struct ud114 h
 rw[cellsOf114]at hlen
 replace hxl:xs.length=2:=hxl
 obtain ⟨y0,y1,rfl⟩:∃y0 y1,xs=[y0,y1]:=by
  clear hf h
  rcases xs with _|⟨y0,xs⟩
  ·simp at hxl
  rcases xs with _|⟨y1,xs⟩
  ·simp at hxl
  rcases xs with _|⟨y,xs⟩
  ·exact ⟨_,_,rfl⟩
  ·simp at hxl
 have t0:=hf 0 _ rfl
 obtain ⟨a0,r0,q0⟩:=(rd_int ud3) _ _ y0 t0
 have g0:(RInt .i64) w ((cs.drop 0).take (Tryz.prog.cellsOf 3)) a0:=r0
 rw[cellsOf3]at g0
 clear t0 r0
 have t1:=hf 1 _ rfl
 obtain ⟨a1,r1,q1⟩:=(rd_int ud2) _ _ y1 t1
 have g1:(RInt .i64) w ((cs.drop 1).take (Tryz.prog.cellsOf 2)) a1:=r1
 rw[cellsOf2]at g1
 clear t1 r1
 clear hf
 have hq:Rows.uptoBulk y0.1+(Rows.uptoBulk y1.1+0)+1≤Rows.uptoBulk (.agg ([y0,y1].map (·.1))):=by simp only[Rows.uptoBulk,Rows.uptoBulkAll,List.map_cons,List.map_nil];omega
 obtain ⟨c0,c1,rfl⟩:∃c0 c1,cs=[c0,c1]:=by
  clear h g0 g1
  rcases cs with _|⟨c0,cs⟩
  ·simp at hlen
  rcases cs with _|⟨c1,cs⟩
  ·simp at hlen
  rcases cs with _|⟨c,cs⟩
  ·exact ⟨_,_,rfl⟩
  ·simp at hlen
 have h0:(RInt .i64) w [c0] a0:=g0
 have h1:(RInt .i64) w [c1] a1:=g1
 obtain ⟨e0,h0⟩:=h0
 obtain rfl:=(List.cons.inj e0).1
 obtain ⟨e1,h1⟩:=h1
 obtain rfl:=(List.cons.inj e1).1
 have p0:0≤Rows.uptoBulk y0.1:=q0
 have p1:0≤Rows.uptoBulk y1.1:=q1
 refine ⟨⟨a0,a1⟩,⟨rfl,h0,h1⟩,?_⟩
 refine Nat.le_trans ?_ hq
 simp only[mLn];omega
theorem rd_Location:RD enc Tryz.prog w 77 RLoc mLc:=fun fuel cs x h=>by
 obtain ⟨xs,n, -,rfl,hlen,hxl,hf⟩:=DataW.trod_struct ud77 h
 rw[cellsOf77]at hlen
 replace hxl:xs.length=4:=hxl
 obtain ⟨y0,y1,y2,y3,rfl⟩:∃y0 y1 y2 y3,xs=[y0,y1,y2,y3]:=by
  clear hf h
  rcases xs with _|⟨y0,xs⟩
  ·simp at hxl
  rcases xs with _|⟨y1,xs⟩
  ·simp at hxl
  rcases xs with _|⟨y2,xs⟩
  ·simp at hxl
  rcases xs with _|⟨y3,xs⟩
  ·simp at hxl
  rcases xs with _|⟨y,xs⟩
  ·exact ⟨_,_,_,_,rfl⟩
  ·simp at hxl
 have t0:=hf 0 _ rfl
 obtain ⟨a0,r0,q0⟩:=(rd_int ud71) _ _ y0 t0
 have g0:(RInt .u64) w ((cs.drop 0).take (Tryz.prog.cellsOf 71)) a0:=r0
 rw[cellsOf71]at g0
 clear t0 r0
 have t1:=hf 1 _ rfl
 obtain ⟨a1,r1,q1⟩:=(rd_int ud3) _ _ y1 t1
 have g1:(RInt .i64) w ((cs.drop 1).take (Tryz.prog.cellsOf 3)) a1:=r1
 rw[cellsOf3]at g1
 clear t1 r1
 have t2:=hf 2 _ rfl
 obtain ⟨a2,r2,q2⟩:=(rd_int ud71) _ _ y2 t2
 have g2:(RInt .u64) w ((cs.drop 2).take (Tryz.prog.cellsOf 71)) a2:=r2
 rw[cellsOf71]at g2
 clear t2 r2
 have t3:=hf 3 _ rfl
 obtain ⟨a3,r3,q3⟩:=(rd_slice ud75 cellsOf114 (by decide) rd_Line) _ _ y3 t3
 have g3:(RSl RLine 2) w ((cs.drop 3).take (Tryz.prog.cellsOf 75)) a3:=r3
 rw[cellsOf75]at g3
 clear t3 r3
 clear hf
 have hq:Rows.uptoBulk y0.1+(Rows.uptoBulk y1.1+(Rows.uptoBulk y2.1+(Rows.uptoBulk y3.1+0)))+1≤Rows.uptoBulk (.agg ([y0,y1,y2,y3].map (·.1))):=by simp only[Rows.uptoBulk,Rows.uptoBulkAll,List.map_cons,List.map_nil];omega
 obtain ⟨c0,c1,c2,c3,rfl⟩:∃c0 c1 c2 c3,cs=[c0,c1,c2,c3]:=by
  clear h g0 g1 g2 g3
  rcases cs with _|⟨c0,cs⟩
  ·simp at hlen
  rcases cs with _|⟨c1,cs⟩
  ·simp at hlen
  rcases cs with _|⟨c2,cs⟩
  ·simp at hlen
  rcases cs with _|⟨c3,cs⟩
  ·simp at hlen
  rcases cs with _|⟨c,cs⟩
  ·exact ⟨_,_,_,_,rfl⟩
  ·simp at hlen
 have h0:(RInt .u64) w [c0] a0:=g0
 have h1:(RInt .i64) w [c1] a1:=g1
 have h2:(RInt .u64) w [c2] a2:=g2
 have h3:(RSl RLine 2) w [c3] a3:=g3
 obtain ⟨e0,h0⟩:=h0
 obtain rfl:=(List.cons.inj e0).1
 obtain ⟨e1,h1⟩:=h1
 obtain rfl:=(List.cons.inj e1).1
 obtain ⟨e2,h2⟩:=h2
 obtain rfl:=(List.cons.inj e2).1
 obtain ⟨v3,e3,h3⟩:=h3
 obtain rfl:=(List.cons.inj e3).1
 have p0:0≤Rows.uptoBulk y0.1:=q0
 have p1:0≤Rows.uptoBulk y1.1:=q1
 have p2:0≤Rows.uptoBulk y2.1:=q2
 have p3:(a3.map mLn).sum≤Rows.uptoBulk y3.1:=q3
 refine ⟨⟨a0,a1,a2,a3⟩,⟨_,rfl,h0,h1,h2,h3⟩,?_⟩
 refine Nat.le_trans ?_ hq
 simp only[mLc];omega
theorem rd_Func:RD enc Tryz.prog w 80 RFunc mFn:=fun fuel cs x h=>by
 obtain ⟨xs,n, -,rfl,hlen,hxl,hf⟩:=DataW.trod_struct ud80 h
 rw[cellsOf80]at hlen
 replace hxl:xs.length=5:=hxl
 obtain ⟨y0,y1,y2,y3,y4,rfl⟩:∃y0 y1 y2 y3 y4,xs=[y0,y1,y2,y3,y4]:=by
  clear hf h
  rcases xs with _|⟨y0,xs⟩
  ·simp at hxl
  rcases xs with _|⟨y1,xs⟩
  ·simp at hxl
  rcases xs with _|⟨y2,xs⟩
  ·simp at hxl
  rcases xs with _|⟨y3,xs⟩
  ·simp at hxl
  rcases xs with _|⟨y4,xs⟩
  ·simp at hxl
  rcases xs with _|⟨y,xs⟩
  ·exact ⟨_,_,_,_,_,rfl⟩
  ·simp at hxl
 have t0:=hf 0 _ rfl
 obtain ⟨a0,r0,q0⟩:=(rd_int ud71) _ _ y0 t0
 have g0:(RInt .u64) w ((cs.drop 0).take (Tryz.prog.cellsOf 71)) a0:=r0
 rw[cellsOf71]at g0
 clear t0 r0
 have t1:=hf 1 _ rfl
 obtain ⟨a1,r1,q1⟩:=(rd_str ud9) _ _ y1 t1
 have g1:RStr w ((cs.drop 1).take (Tryz.prog.cellsOf 9)) a1:=r1
 rw[cellsOf9]at g1
 clear t1 r1
 have t2:=hf 2 _ rfl
 obtain ⟨a2,r2,q2⟩:=(rd_str ud9) _ _ y2 t2
 have g2:RStr w ((cs.drop 2).take (Tryz.prog.cellsOf 9)) a2:=r2
 rw[cellsOf9]at g2
 clear t2 r2
 have t3:=hf 3 _ rfl
 obtain ⟨a3,r3,q3⟩:=(rd_str ud9) _ _ y3 t3
 have g3:RStr w ((cs.drop 3).take (Tryz.prog.cellsOf 9)) a3:=r3
 rw[cellsOf9]at g3
 clear t3 r3
 have t4:=hf 4 _ rfl
 obtain ⟨a4,r4,q4⟩:=(rd_int ud2) _ _ y4 t4
 have g4:(RInt .i64) w ((cs.drop 4).take (Tryz.prog.cellsOf 2)) a4:=r4
 rw[cellsOf2]at g4
 clear t4 r4
 clear hf
 have hq:Rows.uptoBulk y0.1+(Rows.uptoBulk y1.1+(Rows.uptoBulk y2.1+(Rows.uptoBulk y3.1+(Rows.uptoBulk y4.1+0))))+1≤Rows.uptoBulk (.agg ([y0,y1,y2,y3,y4].map (·.1))):=by simp only[Rows.uptoBulk,Rows.uptoBulkAll,List.map_cons,List.map_nil];omega
 obtain ⟨c0,c1,c2,c3,c4,rfl⟩:∃c0 c1 c2 c3 c4,cs=[c0,c1,c2,c3,c4]:=by
  clear h g0 g1 g2 g3 g4
  rcases cs with _|⟨c0,cs⟩
  ·simp at hlen
  rcases cs with _|⟨c1,cs⟩
  ·simp at hlen
  rcases cs with _|⟨c2,cs⟩
  ·simp at hlen
  rcases cs with _|⟨c3,cs⟩
  ·simp at hlen
  rcases cs with _|⟨c4,cs⟩
  ·simp at hlen
  rcases cs with _|⟨c,cs⟩
  ·exact ⟨_,_,_,_,_,rfl⟩
  ·simp at hlen
 have h0:(RInt .u64) w [c0] a0:=g0
 have h1:RStr w [c1] a1:=g1
 have h2:RStr w [c2] a2:=g2
 have h3:RStr w [c3] a3:=g3
 have h4:(RInt .i64) w [c4] a4:=g4
 obtain ⟨e0,h0⟩:=h0
 obtain rfl:=(List.cons.inj e0).1
 have e1:=h1
 obtain rfl:=(List.cons.inj e1).1
 have e2:=h2
 obtain rfl:=(List.cons.inj e2).1
 have e3:=h3
 obtain rfl:=(List.cons.inj e3).1
 obtain ⟨e4,h4⟩:=h4
 obtain rfl:=(List.cons.inj e4).1
 have p0:0≤Rows.uptoBulk y0.1:=q0
 have p1:a1.size+1≤Rows.uptoBulk y1.1:=q1
 have p2:a2.size+1≤Rows.uptoBulk y2.1:=q2
 have p3:a3.size+1≤Rows.uptoBulk y3.1:=q3
 have p4:0≤Rows.uptoBulk y4.1:=q4
 refine ⟨⟨a0,a1,a2,a3,a4⟩,⟨rfl,h0,h4⟩,?_⟩
 refine Nat.le_trans ?_ hq
 simp only[mFn];omega
theorem rd_Profile:RD enc Tryz.prog w 31 RProf mPf:=fun fuel cs x h=>by
 obtain ⟨xs,n, -,rfl,hlen,hxl,hf⟩:=DataW.trod_struct ud31 h
 rw[cellsOf31]at hlen
 replace hxl:xs.length=13:=hxl
 obtain ⟨y0,y1,y2,y3,y4,y5,y6,y7,y8,y9,y10,y11,y12,rfl⟩:∃y0 y1 y2 y3 y4 y5 y6 y7 y8 y9 y10 y11 y12,xs=[y0,y1,y2,y3,y4,y5,y6,y7,y8,y9,y10,y11,y12]:=by
  clear hf h
  rcases xs with _|⟨y0,xs⟩
  ·simp at hxl
  rcases xs with _|⟨y1,xs⟩
  ·simp at hxl
  rcases xs with _|⟨y2,xs⟩
  ·simp at hxl
  rcases xs with _|⟨y3,xs⟩
  ·simp at hxl
  rcases xs with _|⟨y4,xs⟩
  ·simp at hxl
  rcases xs with _|⟨y5,xs⟩
  ·simp at hxl
  rcases xs with _|⟨y6,xs⟩
  ·simp at hxl
  rcases xs with _|⟨y7,xs⟩
  ·simp at hxl
  rcases xs with _|⟨y8,xs⟩
  ·simp at hxl
  rcases xs with _|⟨y9,xs⟩
  ·simp at hxl
  rcases xs with _|⟨y10,xs⟩
  ·simp at hxl
  rcases xs with _|⟨y11,xs⟩
  ·simp at hxl
  rcases xs with _|⟨y12,xs⟩
  ·simp at hxl
  rcases xs with _|⟨y,xs⟩
  ·exact ⟨_,_,_,_,_,_,_,_,_,_,_,_,_,rfl⟩
  ·simp at hxl
 have t0:=hf 0 _ rfl
 obtain ⟨a0,r0,q0⟩:=(rd_slice ud22 cellsOf29 (by decide) rd_Type) _ _ y0 t0
 have g0:(RSl RType 2) w ((cs.drop 0).take (Tryz.prog.cellsOf 22)) a0:=r0
 rw[cellsOf22]at g0
 clear t0 r0
 have t1:=hf 1 _ rfl
 obtain ⟨a1,r1,q1⟩:=(rd_str ud9) _ _ y1 t1
 have g1:RStr w ((cs.drop 1).take (Tryz.prog.cellsOf 9)) a1:=r1
 rw[cellsOf9]at g1
 clear t1 r1
 have t2:=hf 2 _ rfl
 obtain ⟨a2,r2,q2⟩:=(rd_slice ud23 cellsOf57 (by decide) rd_Sample) _ _ y2 t2
 have g2:(RSl RSample 4) w ((cs.drop 2).take (Tryz.prog.cellsOf 23)) a2:=r2
 rw[cellsOf23]at g2
 clear t2 r2
 have t3:=hf 3 _ rfl
 obtain ⟨a3,r3,q3⟩:=(rd_slice ud24 cellsOf73 (by decide) rd_Mapping) _ _ y3 t3
 have g3:(RSl RMapping 10) w ((cs.drop 3).take (Tryz.prog.cellsOf 24)) a3:=r3
 rw[cellsOf24]at g3
 clear t3 r3
 have t4:=hf 4 _ rfl
 obtain ⟨a4,r4,q4⟩:=(rd_slice ud25 cellsOf77 (by decide) rd_Location) _ _ y4 t4
 have g4:(RSl RLoc 4) w ((cs.drop 4).take (Tryz.prog.cellsOf 25)) a4:=r4
 rw[cellsOf25]at g4
 clear t4 r4
 have t5:=hf 5 _ rfl
 obtain ⟨a5,r5,q5⟩:=(rd_slice ud26 cellsOf80 (by decide) rd_Func) _ _ y5 t5
 have g5:(RSl RFunc 5) w ((cs.drop 5).take (Tryz.prog.cellsOf 26)) a5:=r5
 rw[cellsOf26]at g5
 clear t5 r5
 have t6:=hf 6 _ rfl
 obtain ⟨a6,r6,q6⟩:=(rd_slice ud27 cellsOf9 (by decide) (rd_str ud9)) _ _ y6 t6
 have g6:(RSl RStr 1) w ((cs.drop 6).take (Tryz.prog.cellsOf 27)) a6:=r6
 rw[cellsOf27]at g6
 clear t6 r6
 have t7:=hf 7 _ rfl
 obtain ⟨a7,r7,q7⟩:=(rd_str ud9) _ _ y7 t7
 have g7:RStr w ((cs.drop 7).take (Tryz.prog.cellsOf 9)) a7:=r7
 rw[cellsOf9]at g7
 clear t7 r7
 have t8:=hf 8 _ rfl
 obtain ⟨a8,r8,q8⟩:=(rd_str ud9) _ _ y8 t8
 have g8:RStr w ((cs.drop 8).take (Tryz.prog.cellsOf 9)) a8:=r8
 rw[cellsOf9]at g8
 clear t8 r8
 have t9:=hf 9 _ rfl
 obtain ⟨a9,r9,q9⟩:=(rd_int ud2) _ _ y9 t9
 have g9:(RInt .i64) w ((cs.drop 9).take (Tryz.prog.cellsOf 2)) a9:=r9
 rw[cellsOf2]at g9
 clear t9 r9
 have t10:=hf 10 _ rfl
 obtain ⟨a10,r10,q10⟩:=(rd_int ud2) _ _ y10 t10
 have g10:(RInt .i64) w ((cs.drop 10).take (Tryz.prog.cellsOf 2)) a10:=r10
 rw[cellsOf2]at g10
 clear t10 r10
 have t11:=hf 11 _ rfl
 obtain ⟨a11,r11,q11⟩:=(rd_int ud2) _ _ y11 t11
 have g11:(RInt .i64) w ((cs.drop 11).take (Tryz.prog.cellsOf 2)) a11:=r11
 rw[cellsOf2]at g11
 clear t11 r11
 have t12:=hf 12 _ rfl
 obtain ⟨a12,r12,q12⟩:=rd_Type _ _ y12 t12
 have g12:RType w ((cs.drop 12).take (Tryz.prog.cellsOf 29)) a12:=r12
 rw[cellsOf29]at g12
 clear t12 r12
 clear hf
 have hq:Rows.uptoBulk y0.1+(Rows.uptoBulk y1.1+(Rows.uptoBulk y2.1+(Rows.uptoBulk y3.1+(Rows.uptoBulk y4.1+(Rows.uptoBulk y5.1+(Rows.uptoBulk y6.1+(Rows.uptoBulk y7.1+(Rows.uptoBulk y8.1+(Rows.uptoBulk y9.1+(Rows.uptoBulk y10.1+(Rows.uptoBulk y11.1+(Rows.uptoBulk y12.1+0))))))))))))+1≤Rows.uptoBulk (.agg ([y0,y1,y2,y3,y4,y5,y6,y7,y8,y9,y10,y11,y12].map (·.1))):=by simp only[Rows.uptoBulk,Rows.uptoBulkAll,List.map_cons,List.map_nil];omega
 obtain ⟨c0,c1,c2,c3,c4,c5,c6,c7,c8,c9,c10,c11,c12,c13,rfl⟩:∃c0 c1 c2 c3 c4 c5 c6 c7 c8 c9 c10 c11 c12 c13,cs=[c0,c1,c2,c3,c4,c5,c6,c7,c8,c9,c10,c11,c12,c13]:=by
  clear h g0 g1 g2 g3 g4 g5 g6 g7 g8 g9 g10 g11 g12
  rcases cs with _|⟨c0,cs⟩
  ·simp at hlen
  rcases cs with _|⟨c1,cs⟩
  ·simp at hlen
  rcases cs with _|⟨c2,cs⟩
  ·simp at hlen
  rcases cs with _|⟨c3,cs⟩
  ·simp at hlen
  rcases cs with _|⟨c4,cs⟩
  ·simp at hlen
  rcases cs with _|⟨c5,cs⟩
  ·simp at hlen
  rcases cs with _|⟨c6,cs⟩
  ·simp at hlen
  rcases cs with _|⟨c7,cs⟩
  ·simp at hlen
  rcases cs with _|⟨c8,cs⟩
  ·simp at hlen
  rcases cs with _|⟨c9,cs⟩
  ·simp at hlen
  rcases cs with _|⟨c10,cs⟩
  ·simp at hlen
  rcases cs with _|⟨c11,cs⟩
  ·simp at hlen
  rcases cs with _|⟨c12,cs⟩
  ·simp at hlen
  rcases cs with _|⟨c13,cs⟩
  ·simp at hlen
  rcases cs with _|⟨c,cs⟩
  ·exact ⟨_,_,_,_,_,_,_,_,_,_,_,_,_,_,rfl⟩
  ·simp at hlen
 have h0:(RSl RType 2) w [c0] a0:=g0
 have h1:RStr w [c1] a1:=g1
 have h2:(RSl RSample 4) w [c2] a2:=g2
 have h3:(RSl RMapping 10) w [c3] a3:=g3
 have h4:(RSl RLoc 4) w [c4] a4:=g4
 have h5:(RSl RFunc 5) w [c5] a5:=g5
 have h6:(RSl RStr 1) w [c6] a6:=g6
 have h7:RStr w [c7] a7:=g7
 have h8:RStr w [c8] a8:=g8
 have h9:(RInt .i64) w [c9] a9:=g9
 have h10:(RInt .i64) w [c10] a10:=g10
 have h11:(RInt .i64) w [c11] a11:=g11
 have h12:RType w [c12,c13] a12:=g12
 obtain ⟨v0,e0,h0⟩:=h0
 obtain rfl:=(List.cons.inj e0).1
 have e1:=h1
 obtain rfl:=(List.cons.inj e1).1
 obtain ⟨v2,e2,h2⟩:=h2
 obtain rfl:=(List.cons.inj e2).1
 obtain ⟨v3,e3,h3⟩:=h3
 obtain rfl:=(List.cons.inj e3).1
 obtain ⟨v4,e4,h4⟩:=h4
 obtain rfl:=(List.cons.inj e4).1
 obtain ⟨v5,e5,h5⟩:=h5
 obtain rfl:=(List.cons.inj e5).1
 obtain ⟨v6,e6,h6⟩:=h6
 obtain rfl:=(List.cons.inj e6).1
 have e7:=h7
 obtain rfl:=(List.cons.inj e7).1
 have e8:=h8
 obtain rfl:=(List.cons.inj e8).1
 obtain ⟨e9,h9⟩:=h9
 obtain rfl:=(List.cons.inj e9).1
 obtain ⟨e10,h10⟩:=h10
 obtain rfl:=(List.cons.inj e10).1
 obtain ⟨e11,h11⟩:=h11
 obtain rfl:=(List.cons.inj e11).1
 have e12:=h12
 simp only[RType,List.cons.injEq,and_true]at e12
 obtain ⟨rfl,rfl⟩:=e12
 have p0:(a0.map mTy).sum≤Rows.uptoBulk y0.1:=q0
 have p1:a1.size+1≤Rows.uptoBulk y1.1:=q1
 have p2:(a2.map mSm).sum≤Rows.uptoBulk y2.1:=q2
 have p3:(a3.map mMp).sum≤Rows.uptoBulk y3.1:=q3
 have p4:(a4.map mLc).sum≤Rows.uptoBulk y4.1:=q4
 have p5:(a5.map mFn).sum≤Rows.uptoBulk y5.1:=q5
 have p6:(a6.map (fun s:ByteArray=>s.size+1)).sum≤Rows.uptoBulk y6.1:=q6
 have p7:a7.size+1≤Rows.uptoBulk y7.1:=q7
 have p8:a8.size+1≤Rows.uptoBulk y8.1:=q8
 have p9:0≤Rows.uptoBulk y9.1:=q9
 have p10:0≤Rows.uptoBulk y10.1:=q10
 have p11:0≤Rows.uptoBulk y11.1:=q11
 have p12:(a12.ty.size+1)+(a12.unit.size+1)≤Rows.uptoBulk y12.1:=q12
 refine ⟨⟨a0,a1,a2,a3,a4,a5,a6,a7,a8,a9,a10,a11,a12⟩,⟨_,_,_,_,_,_,rfl,h0,h2,h3,h4,h5,h6,h9,h10,h11⟩,?_⟩
 refine Nat.le_trans ?_ hq
 simp only[mPf];rw[show mTy ⟨a12.ty,a12.unit⟩=(a12.ty.size+1)+(a12.unit.size+1) from rfl];omega
end
theorem keptOf {W W':World} (k:Fr 0 [] W W') (may:MemPlace→Prop):W.keptBut W' may:=by
 refine ⟨k.os,k.output,fun i hi=>?_⟩
 obtain ⟨o,ho⟩:∃o,W.heap[i]? =some o:=⟨_,Array.getElem?_eq_getElem hi⟩
 rw[ho,k.keep _ o ho (.inr (by simp))]
 cases o<;>simp
open Go Go.Fw Go.Proofs Go.Proofs.Tryz
theorem lay_of_os {α β:Type} {sz:Nat} {R:World→List Value→α→Prop} {bs:List β} {c:β→List Value} {f:β→α} {xs:List α} (h:OS T sz w v (bs.flatMap c)) (hx:bs.map f=xs) (hc:∀b,(c b).length=sz) (hp:0<sz) (hR:∀b∈bs,R w (c b) (f b)) (hl:xs.length≤1000000000):Lay R sz w v xs:=by
 subst hx
 obtain ⟨p,l,cc,rfl,hlen,hlc,ho⟩:=h.open
 have hfl:(bs.flatMap c).length=bs.length*sz:=flatMap_len hc _
 have hll:l=bs.length:=by
  rw[hfl]at hlen
  exact (Nat.eq_of_mul_eq_mul_right hp hlen).symm
 subst hll
 refine ⟨bs.map c,⟨⟨p,cc,by simp,by simpa using hlc,?_⟩,?_,by simp at hl⊢;omega⟩,by simp,fun q hq=>?_,fun i q x hq hx=>?_⟩
 ·by_cases h0:bs.length=0
  ·exact .inl (by simpa using h0)
  ·right
   obtain ⟨b,rfl,hcell⟩:=ho (by omega)
   refine ⟨b,0,rfl,fun j u hu=>?_⟩
   rw[Nat.zero_add]
   exact hcell w (Keep.refl w) j u (by rw[List.flatMap_def];exact hu)
 ·rw[← List.flatMap_def,hfl];simp
 ·obtain ⟨b, -,rfl⟩:=List.mem_map.1 hq
  exact hc b
 ·rw[List.getElem?_map]at hq hx
  cases hb:bs[i]? with
  |none=>rw[hb]at hq;cases hq
  |some b=>
   rw[hb]at hq hx
   simp at hq hx
   subst hq;subst hx
   exact hR b (List.mem_of_getElem? hb)
theorem map_flat {α:Type} (g:α→Value) (xs:List α):xs.map g=xs.flatMap fun x=>[g x]:=by
 induction xs with
 |nil=>rfl
 |cons a r ih=>simp[ih]
theorem lay_of_os1 {α:Type} {R:World→List Value→α→Prop} {xs:List α} {g:α→Value} (h:OS T 1 w v (xs.map g)) (hR:∀x∈xs,R w [g x] x) (hl:xs.length≤1000000000):Lay R 1 w v xs:=by
 rw[map_flat]at h
 exact lay_of_os (f:=fun x=>x) h (by simp) (fun _=>rfl) (by omega) hR hl
theorem bys_of_os {D:List Nat} (h:OS tU8 1 w v (D.map bv)) (hl:0<D.length):∃b c,v=.slice (some ⟨b,0,none⟩) D.length c∧Bys w b 0 c D:=by
 obtain ⟨y,p,l,c,rfl,hO,hb⟩:=h
 obtain ⟨e1,e2,e3,s1,s2,s3⟩:=hO
 have hll:l=D.length:=by simpa using s1.symm
 subst hll
 rcases s3 with ⟨h5,h6,⟨ex,h7⟩,h8⟩|⟨h5,h6,h7⟩
 ·refine ⟨y.b,c,by rw[h6],s2,y.cs,hb h5,fun j d hd=>?_⟩
  have hj:=(List.getElem?_eq_some_iff.1 hd).1
  rw[h7,Nat.zero_add,List.getElem?_append_left (by simpa using hj),List.getElem?_map,hd];rfl
 ·omega
abbrev tTx:Nat:=109
abbrev tNu:Nat:=112
theorem find_key {α:Type} (key:α→ByteArray):∀{xs:List α},(xs.map key).Nodup→∀{t:α},t∈xs→xs.find? (fun t'=>key t'=key t)=some t
 |[],_,_,h=>by cases h
 |a::r,hn,t,h=>by
    rw[List.map_cons,List.nodup_cons]at hn
    rcases List.mem_cons.1 h with rfl|h
    ·rw[List.find?_cons_of_pos (by simp)]
    ·have hne:key a≠key t:=fun e=>hn.1 (e▸List.mem_map_of_mem h)
     rw[List.find?_cons_of_neg (by simpa using hne)]
     exact find_key key hn.2 h
theorem asc_nodup {ks:List ByteArray} (h:ks.Pairwise fun x y=>ltB x y=true):ks.Nodup:=h.imp fun {a b} h e=>by subst e;rw[ltB_irrefl]at h;cases h
theorem asc_eq {ks rs:List ByteArray} (h1:ks.Pairwise fun x y=>ltB x y=true) (h2:rs.Pairwise fun x y=>ltB x y=true) (hm:∀k,k∈ks↔k∈rs):ks=rs:=by
 refine List.Perm.eq_of_pairwise (le:=fun a b=>ltB a b=true) (fun a b _ _ h1 h2=>?_) h1 h2 ((List.perm_ext_iff_of_nodup (asc_nodup h1) (asc_nodup h2)).2 hm)
 rw[ltB_eq]at h1 h2
 simp only[decide_eq_true_eq]at h1 h2
 exact absurd (List.lt_trans h1 h2) (List.lt_irrefl _)
theorem fT_mem (h:LabP s) {t:PTexts} (ht:t∈s.texts):fT s t.key=t.list:=by
 unfold fT
 rw[find_key (fun t:PTexts=>t.key) (asc_nodup h.tpw) ht];rfl
theorem fN_mem (h:LabP s) {t:PNums} (ht:t∈s.nums):fN s t.key=t.list:=by
 unfold fN
 rw[find_key (fun t:PNums=>t.key) (asc_nodup h.npw) ht];rfl
theorem fT_key {k:ByteArray} (h:fT s k≠[]):∃t∈s.texts,t.key=k:=by
 unfold fT at h
 cases hf:s.texts.find? fun t=>t.key=k with
 |none=>rw[hf]at h;exact absurd rfl h
 |some t=>exact ⟨t,List.mem_of_find?_eq_some hf,by simpa using List.find?_some hf⟩
theorem fN_key {k:ByteArray} (h:fN s k≠[]):∃t∈s.nums,t.key=k:=by
 unfold fN at h
 cases hf:s.nums.find? fun t=>t.key=k with
 |none=>rw[hf]at h;exact absurd rfl h
 |some t=>exact ⟨t,List.mem_of_find?_eq_some hf,by simpa using List.find?_some hf⟩
structure LabY {α:Type} (T:Nat) (enc:α→Value) (w:World) (f:ByteArray→List α) (mo:Option Nat) (es:List MapEntry) (ck:Nat) (ms:List (ByteArray×Value)):Prop where
 at_:MapAt w mo es ck
 menc:MEnc Value.string ms es ck
 yes:∀k u,mget ms k=some u→f k≠[]∧OS T 1 w u ((f k).map enc)
 no:∀k,mget ms k=none→f k=[]
theorem LabF.y {α:Type} {enc:α→Value} {f:ByteArray→List α} (h:LabF T enc w v f):∃mo es ck ms,v=.map mo∧LabY T enc w f mo es ck ms:=by
 rcases h with ⟨rfl,h⟩|⟨b,ms,es,ck,rfl,h2,h3,h4,h5⟩
 ·exact ⟨none,[],0,[],rfl,.inl ⟨rfl,rfl,rfl⟩,MEnc.nil',fun k u h=>by simp[mget_nil]at h,fun k _=>h k⟩
 ·exact ⟨some b,es,ck,ms,rfl,.inr ⟨b,rfl,h2⟩,h3,h4,h5⟩
theorem LabY.keys {α:Type} {enc:α→Value} {f:ByteArray→List α} {mo:Option Nat} {ms:List (ByteArray×Value)} (h:LabY T enc w f mo es ck ms) (k:ByteArray):k∈ms.map (·.1)↔f k≠[]:=by
 constructor
 ·intro hm
  cases hg:mget ms k with
  |none=>exact absurd hm (mget_none.1 hg)
  |some u=>exact (h.yes k u hg).1
 ·intro hf
  cases hg:mget ms k with
  |none=>exact absurd (h.no k hg) hf
  |some u=>
   by_cases hm:k∈ms.map (·.1)
   ·exact hm
   ·rw[mget_none.2 hm]at hg;cases hg
theorem LabY.entry {α:Type} {enc:α→Value} {f:ByteArray→List α} {mo:Option Nat} {ms:List (ByteArray×Value)} (h:LabY T enc w f mo es ck ms) {x:MapEntry} (hx:x∈es):∃k p c,x.key=.string k∧f k≠[]∧x.val=.slice p (f k).length c∧OS T 1 w (.slice p (f k).length c) ((f k).map enc):=by
 obtain ⟨q,hq,h1,h2⟩:=menc_entry h.menc hx
 obtain ⟨h3,h4⟩:=h.yes q.1 q.2 (mget_mem' h.menc.keys hq)
 obtain ⟨p,l,c,e,hl, -⟩:=h4.open
 obtain rfl:(f q.1).length=l:=by simpa using hl
 exact ⟨q.1,p,c,h1,h3,by rw[h2,e],e▸h4⟩
theorem LabY.len {α β:Type} {enc:α→Value} {f:ByteArray→List α} {mo:Option Nat} {ms:List (ByteArray×Value)} (h:LabY T enc w f mo es ck ms) {xs:List β} {key:β→ByteArray} (hk:∀k,f k≠[]→∃t∈xs,key t=k):es.length≤xs.length:=by
 have h1:=h.menc.length
 have h2:(ms.map (·.1)).length≤(xs.map key).length:=h.menc.keys.length_le_of_subset fun k hm=>by
  obtain ⟨t,ht,e⟩:=hk k ((h.keys k).1 hm)
  exact e▸List.mem_map_of_mem ht
 simp only[List.length_map]at h2
 omega
def Clo {α:Type} (T:Nat) (enc:α→Value) (f:ByteArray→List α) (qs:List LbE) (R:Heap):Prop:=∀q∈qs,∃z∈R,q.2.2.1=(f q.1).length∧Own T 1 z q.2.1 q.2.2.1 q.2.2.2 ((f q.1).map enc)
theorem Clo.nil {α:Type} {enc:α→Value} {f:ByteArray→List α} {R:Heap}:Clo T enc f [] R:=fun q h=>by cases h
theorem Clo.push {α:Type} {enc:α→Value} {f:ByteArray→List α} {qs:List LbE} {R R':Heap} (h:Clo T enc f qs R) (hs:∀z∈R,z∈R') {k:ByteArray} {z:Ent} (hz:z∈R') (hO:Own T 1 z p (f k).length c ((f k).map enc)):Clo T enc f (qs++[(k,p,(f k).length,c)]) R':=fun q hq=>by
 rcases List.mem_append.1 hq with hq|hq
 ·obtain ⟨z,h1,h2⟩:=h q hq
  exact ⟨z,hs z h1,h2⟩
 ·simp at hq;subst hq
  exact ⟨z,hz,rfl,hO⟩
theorem Hp.rot3 {a b c:Ent} {R:Heap} (h:Hp f w (a::b::c::R)):Hp f w (b::c::a::R):=by
 have h1:=h.swap
 obtain ⟨h2,h3,h4,h5⟩:=h1
 exact ⟨h2,h3,fun he z hz hze=>h4 he z (by simp at hz⊢;rcases hz with h|h|h<;>simp[h]) hze,Hp.swap h5⟩
theorem Hp.rot4 {a b c d:Ent} {R:Heap} (h:Hp f w (a::b::c::d::R)):Hp f w (b::c::d::a::R):=by
 have h1:=Hp.rot3 h
 obtain ⟨h2,h3,h4,h5,h6,h7,h8⟩:=h1
 exact ⟨h2,h3,fun he z hz hze=>h4 he z (by simp at hz⊢;rcases hz with h|h|h|h<;>simp[h]) hze,h5,h6,fun he z hz hze=>h7 he z (by simp at hz⊢;rcases hz with h|h|h<;>simp[h]) hze,Hp.swap h8⟩
section
variable {P:Program} {Q:Exit→Act→World→Prop} {n:Nat} {f:Fm} {e:Env} {H:Heap} {ops:Array Oper} {rest:List Oper} {d ty:Nat} {pos:String} {af:Array Edge}
theorem j_appS {sT by_ m c2:Nat} {s x:Operand} {y:Ent} {p2:Option Addr} {xs zs:List Value} (i:Nat) (hy:H[i]? =some y) (hO:Own T 1 y p l c xs)
  (hu:∀w,(underlying sT).run P w=.ok (.slice T) w) (hT:ElT P T 1 by_) (hby:Nat.ble by_ 1000=true)
  (hs:ev e s=some (.slice p l c)) (hxv:ev e x=some (.slice p2 m c2)) (hx:OS T 1 f.ws (.slice p2 m c2) zs) (hW:f.W.all (fun t=> !Nat.beq t T)=true) (hsc:∀z∈zs,scal z=true) (hbig:l+m≤100000000000) (hd:Nat.blt d n=true)
  (k:∀y' p' c',Own T 1 y' p' (l+m) c' (xs++zs)→J P ops Q n f ((d,.slice p' (l+m) c')::e) (putH H i y') rest):
  J P ops Q n f e H (⟨some d,.call ⟨.builtin .append, #[s,x], #[sT,sT]⟩,ty,pos,af,none⟩::rest):=by
 obtain ⟨y2,p',l',c',e1,h2,h3⟩:=hx
 cases e1
 have hl:zs.length=m:=by have:=h2.sl.1;simpa using this
 refine j_append i hy hO.hT hO.ho hO.hw hu hu (.inl ⟨_,rfl⟩) hT hby hs hxv hO.sl (lenOf_slice _ _ _) (fun w w1 hH hf k=>?_) (by simp[hl]) (by simpa[List.all_eq_true]using hsc) hbig hd fun y' p' c' h1 h2 h3 h4=>k y' p' c' ⟨h1,h2,h3,h4⟩
 obtain ⟨-, -,h4⟩:=h2.sl
 rcases h4 with ⟨h5,h6,⟨ex,h7⟩, -⟩|⟨h5,h6,h7⟩
 ·subst h6
  have hb:Blk w1 y2.b T y2.cs:=k _ _ (ok_blk hf (h3 h5) hW)
  exact fc_blk hb (by rw[List.drop_zero,h7,Nat.mul_one, ← hl,List.take_append_of_le_length (Nat.le_refl _),List.take_length]) (by simp[hl])
 ·subst h6
  have:m=0:=by have:=h2.sl.2.1;omega
  subst this
  rw[List.eq_nil_of_length_eq_zero hl]
  rfl
end
section
variable {Q:Exit→Act→World→Prop} {n:Nat} {f:Fm} {e:Env} {H:Heap} {ops:Array Oper} {rest:List Oper} {d ty:Nat} {pos:String} {af:Array Edge}
theorem j_sorted {F:Nat} {fv:Value} {y:Ent} {xs:List LbE} {args:Array Operand} {tys:Array TypeId} (i:Nat) (hi:H[i]? =some y) (hO:Own T 2 y p l c (xs.flatMap encL))
  (hg:∀(az:Array Value) (w:World),(callFunc F az).run Tryz.prog w=.ok (.enter F az) w)
  (hc:∀w,(y.on=true→Blk w y.b T y.cs)→Calls Tryz.prog F #[.slice p l c,fv] w (Ret fun _ w'=>∃ys:List LbE,ys.Perm xs∧(ys.map (·.1)).Pairwise (fun a b=>ltB a b=true)∧((w'=w∧Own T 2 y p l c (ys.flatMap encL))∨y.on=true∧∃cs',Own T 2 { y with cs:=cs' } p l c (ys.flatMap encL)∧Blk w' y.b T cs'∧KeepX [y.b] w w')))
  (hargs:evL e args.toList=some [.slice p l c,fv]) (hd:Nat.blt d n=true)
  (k:∀v y' (ys:List LbE),ys.Perm xs→(ys.map (·.1)).Pairwise (fun a b=>ltB a b=true)→Own T 2 y' p l c (ys.flatMap encL)→J Tryz.prog ops Q n f ((d,v)::e) (putH H i y') rest):
  J Tryz.prog ops Q n f e H (⟨some d,.call ⟨.value (.func F),args,tys⟩,ty,pos,af,none⟩::rest):=
 j_callE (R:=fun w _ w'=>∃ys:List LbE,ys.Perm xs∧(ys.map (·.1)).Pairwise (fun a b=>ltB a b=true)∧((w'=w∧Own T 2 y p l c (ys.flatMap encL))∨y.on=true∧∃cs',Own T 2 { y with cs:=cs' } p l c (ys.flatMap encL)∧Blk w' y.b T cs'∧KeepX [y.b] w w')) hg hargs hd (fun w hH _=>hc w fun ho=>by have:=hH.get hi ho;rwa [hO.hT]at this) fun w v w' hH hf hR=>by
  obtain ⟨ys,hp,hpw,hR⟩:=hR
  rcases hR with ⟨rfl,h1⟩|⟨hon,cs',h1,h2,h3⟩
  ·exact k v y ys hp hpw h1 w' (by rw[putH_self hi];exact hH) hf
  ·have hm:=hH.may (List.mem_of_getElem? hi) hon hO.hw
   have hex:y.ex=true:=by simp[Ent.ex,hon]
   rw[hO.hT]at hm
   refine k v _ ys hp hpw h1 w' (hH.putX hi hex rfl (fun _ _=>by rw[h1.tag];exact hm) h3 ⟨fun _=>by simp only[hO.hT];exact h2,fun o ho=>by simp only[hO.ho]at ho;cases ho⟩) (okK hf h3 hm fun o ho=>?_)
   have h4:=hH.get hi hon
   rw[hO.hT]at h4
   have h5:w.heap[y.b]? =some (.cells y.cs.toArray T (0,0)):=h4
   rw[ho]at h5;cases h5;rfl
end
theorem keys_of {qs:List LbE} {xs:List MapEntry} {ks:List ByteArray} (h:xs.map (·.key)=qs.map fun q=>Value.string q.1) (hk:xs.map (·.key)=ks.map .string):qs.map (·.1)=ks:=by
 rw[h]at hk
 have h2:(qs.map (·.1)).map Value.string=ks.map .string:=by rw[← hk];simp
 exact map_inj_string h2
theorem sm_parts {locs:List Nat} {b:Nat} (h:SamQ w locs b s):∃ls vs m1 m2 iv xv es1 ck1 ms1 es2 ck2 ms2,Blk w b tSam [ls,vs,.map m1,.map m2,.map none,iv,xv]∧LabY tStr .string w (fT s) m1 es1 ck1 ms1∧LabY tI64 (.int .i64) w (fN s) m2 es2 ck2 ms2:=by
 obtain ⟨ls,vs,lm,nm,iv,xv,h1, -, -,h4,h5, -⟩:=h
 obtain ⟨m1,es1,ck1,ms1,rfl,h6⟩:=h4.y
 obtain ⟨m2,es2,ck2,ms2,rfl,h7⟩:=h5.y
 exact ⟨ls,vs,m1,m2,iv,xv,es1,ck1,ms1,es2,ck2,ms2,h1,h6,h7⟩
theorem lay_texts {ys:List LbE} (hLab:LabP s) (hO:OS tTx 2 w v (ys.flatMap encL)) (hpw:(ys.map (·.1)).Pairwise fun a b=>ltB a b=true) (hk:∀k,k∈ys.map (·.1)↔fT s k≠[]) (hC:∀q∈ys,q.2.2.1=(fT s q.1).length∧OS tStr 1 w (.slice q.2.1 q.2.2.1 q.2.2.2) ((fT s q.1).map .string)):Lay RTexts 2 w v s.texts:=by
 have e1:ys.map (·.1)=s.texts.map (·.key):=asc_eq hpw hLab.tpw fun k=>by
  rw[hk]
  constructor
  ·intro h
   obtain ⟨t,ht,e⟩:=fT_key h
   exact e▸List.mem_map_of_mem ht
  ·intro h
   obtain ⟨t,ht,rfl⟩:=List.mem_map.1 h
   rw[fT_mem hLab ht];exact (hLab.tl t ht).1
 have e2:(ys.map fun q=>(⟨q.1,fT s q.1⟩:PTexts))=s.texts:=by
  have h:=congrArg (List.map fun k=>(⟨k,fT s k⟩:PTexts)) e1
  simp only[List.map_map]at h
  refine h.trans ((List.map_congr_left fun t ht=>?_).trans (List.map_id _))
  show (⟨t.key,fT s t.key⟩:PTexts)=t
  rw[fT_mem hLab ht]
 refine lay_of_os (f:=fun q=>(⟨q.1,fT s q.1⟩:PTexts)) hO e2 (fun _=>rfl) (by omega) (fun q hq=>⟨_,rfl,?_⟩) (by have:=hLab.tlen;omega)
 have hm:(⟨q.1,fT s q.1⟩:PTexts)∈s.texts:=by rw[← e2];exact List.mem_map_of_mem (f:=fun q:LbE=>(⟨q.1,fT s q.1⟩:PTexts)) hq
 have h60:=(hLab.tl _ hm).2.1
 simp only at h60
 exact lay_of_os1 (hC q hq).2 (fun _ _=>rfl) (show (fT s q.1).length≤1000000000 by omega)
theorem lay_nums {ys:List LbE} (hLab:LabP s) (hr:∀t∈s.nums,∀n∈t.list,IntKind.i64.wrap n=n) (hO:OS tNu 2 w v (ys.flatMap encL)) (hpw:(ys.map (·.1)).Pairwise fun a b=>ltB a b=true) (hk:∀k,k∈ys.map (·.1)↔fN s k≠[]) (hC:∀q∈ys,q.2.2.1=(fN s q.1).length∧OS tI64 1 w (.slice q.2.1 q.2.2.1 q.2.2.2) ((fN s q.1).map (.int .i64))):Lay RNums 2 w v s.nums:=by
 have e1:ys.map (·.1)=s.nums.map (·.key):=asc_eq hpw hLab.npw fun k=>by
  rw[hk]
  constructor
  ·intro h
   obtain ⟨t,ht,e⟩:=fN_key h
   exact e▸List.mem_map_of_mem ht
  ·intro h
   obtain ⟨t,ht,rfl⟩:=List.mem_map.1 h
   rw[fN_mem hLab ht];exact (hLab.nl t ht).1
 have e2:(ys.map fun q=>(⟨q.1,fN s q.1⟩:PNums))=s.nums:=by
  have h:=congrArg (List.map fun k=>(⟨k,fN s k⟩:PNums)) e1
  simp only[List.map_map]at h
  refine h.trans ((List.map_congr_left fun t ht=>?_).trans (List.map_id _))
  show (⟨t.key,fN s t.key⟩:PNums)=t
  rw[fN_mem hLab ht]
 refine lay_of_os (f:=fun q=>(⟨q.1,fN s q.1⟩:PNums)) hO e2 (fun _=>rfl) (by omega) (fun q hq=>⟨_,rfl,?_⟩) (by have:=hLab.nlen;omega)
 have hm:(⟨q.1,fN s q.1⟩:PNums)∈s.nums:=by rw[← e2];exact List.mem_map_of_mem (f:=fun q:LbE=>(⟨q.1,fN s q.1⟩:PNums)) hq
 have h60:=(hLab.nl _ hm).2
 simp only at h60
 exact lay_of_os1 (hC q hq).2 (fun n hn=>⟨rfl,hr _ hm n hn⟩) (show (fN s q.1).length≤1000000000 by omega)
theorem clo_fin {α:Type} {enc:α→Value} {fn:ByteArray→List α} {qs ys:List LbE} {R H:Heap} (h:Clo T enc fn qs R) (hs:∀z∈R,z∈H) (hH:Hp f w H) (hp:ys.Perm qs):∀q∈ys,q.2.2.1=(fn q.1).length∧OS T 1 w (.slice q.2.1 q.2.2.1 q.2.2.2) ((fn q.1).map enc):=fun q hq=>by
 obtain ⟨z,hz,h1,h2⟩:=h q (hp.mem_iff.1 hq)
 exact ⟨h1,z,_,_,_,rfl,h2,fun ho=>by have:=hH.blk (hs z hz) ho;rw[h2.hT]at this;exact this⟩
def TxV (w:World) (v:Value) (s:PSample):Prop:=∃ys:List LbE,OS tTx 2 w v (ys.flatMap encL)∧(ys.map (·.1)).Pairwise (fun a b=>ltB a b=true)∧(∀k,k∈ys.map (·.1)↔fT s k≠[])∧∀q∈ys,q.2.2.1=(fT s q.1).length∧OS tStr 1 w (.slice q.2.1 q.2.2.1 q.2.2.2) ((fT s q.1).map .string)
def NuV (w:World) (v:Value) (s:PSample):Prop:=∃ys:List LbE,OS tNu 2 w v (ys.flatMap encL)∧(ys.map (·.1)).Pairwise (fun a b=>ltB a b=true)∧(∀k,k∈ys.map (·.1)↔fN s k≠[])∧∀q∈ys,q.2.2.1=(fN s q.1).length∧OS tI64 1 w (.slice q.2.1 q.2.2.1 q.2.2.2) ((fN s q.1).map (.int .i64))
theorem TxV.mono (h:TxV w v s) (k1:∀b cs,Blk w b tTx cs→Blk w' b tTx cs) (k2:∀b cs,Blk w b tStr cs→Blk w' b tStr cs):TxV w' v s:=by
 obtain ⟨ys,h1,h2,h3,h4⟩:=h
 exact ⟨ys,h1.mono k1,h2,h3,fun q hq=>⟨(h4 q hq).1,(h4 q hq).2.mono k2⟩⟩
theorem NuV.mono (h:NuV w v s) (k1:∀b cs,Blk w b tNu cs→Blk w' b tNu cs) (k2:∀b cs,Blk w b tI64 cs→Blk w' b tI64 cs):NuV w' v s:=by
 obtain ⟨ys,h1,h2,h3,h4⟩:=h
 exact ⟨ys,h1.mono k1,h2,h3,fun q hq=>⟨(h4 q hq).1,(h4 q hq).2.mono k2⟩⟩
set_option maxHeartbeats 1000000 in
theorem labels_c (w:World) (locs:List Nat) (b:Nat) (s:PSample) (h:SamQ w locs b s) (hLab:LabP s):
  Calls Tryz.prog 69 #[ptr b] w (Ret fun v w'=>(∃vt vn,v=.tuple #[vt,vn]∧TxV w' vt s∧NuV w' vn s)∧Fr 0 [] w w'):=by
 obtain ⟨ls,vs,m1,m2,iv,xv,es1,ck1,ms1,es2,ck2,ms2,hb,hT,hN⟩:=sm_parts h
 have hl1:es1.length≤60:=Nat.le_trans (hT.len fun k=>fT_key) hLab.tlen
 have hl2:es2.length≤60:=Nat.le_trans (hN.len fun k=>fN_key) hLab.nlen
 have hbt:∀k,fT s k≠[]→(fT s k).length≤60:=fun k hk=>by
  obtain ⟨t,ht,rfl⟩:=fT_key hk
  rw[fT_mem hLab ht];exact (hLab.tl t ht).2.1
 have hbn:∀k,fN s k≠[]→(fN s k).length≤60:=fun k hk=>by
  obtain ⟨t,ht,rfl⟩:=fN_key hk
  rw[fN_mem hLab ht];exact (hLab.nl t ht).2
 have hM1:∀w',Fm.ok ⟨w,0,[]⟩ w'→MapAt w' m1 es1 ck1:=fun w' hf=>hT.at_.keep fun b es ck h=>fr_map hf rfl _ _ h
 have hM2:∀w',Fm.ok ⟨w,0,[]⟩ w'→MapAt w' m2 es2 ck2:=fun w' hf=>hN.at_.keep fun b es ck h=>fr_map hf rfl _ _ h
 have hc0:=mc (f:=⟨w,0,[]⟩) hb rfl
 refine startJ (args:=[_]) [(0,_)] 0 [] [] func69 rfl ntmps69 rfl rfl .nil ?_
 refine cj_seqF fun K1 hK1=>cj_reg (jA (k:=jA (k:=j_nil (ej_then (hK1 _ _ _ ?_)))))
 refine cj_seqF fun K2 hK2=>cj_reg (jA (k:=j_nil (ej_then (hK2 _ _ _ (sQ fun K3=>cj_reg (jA (k:=K3 (sQ fun K4=>sQ fun K5=>cj_reg (jM (k:=jN (k:=?_)))))))))))
 refine jF 2 ru147 so143 (k:=jL ag143 hc0 2 (k:=?_))
 refine j_rangeM ru143 (fun w' hH hf=>hM1 w' hf) rfl rfl fun it1=>?_
 refine K5 (cj_block ?_)
 refine cj_loop (σ:=List Nat×List MapEntry×List LbE×Ent×Option Addr×Nat×Heap) (fun s=>[(0,ptr b),(4,.slice s.2.2.2.2.1 s.2.2.1.length s.2.2.2.2.2.1),(5,.slice none 0 0),(14,ptr it1)])
  (fun s=>s.2.2.2.1::itM it1 m1 ck1 s.1 ck1::s.2.2.2.2.2.2) (fun s' _=>Vis es1 s'.2.1 s'.1∧s'.2.1.map (·.key)=(s'.2.2.1.map fun q=>Value.string q.1)∧Own tTx 2 s'.2.2.2.1 s'.2.2.2.2.1 s'.2.2.1.length s'.2.2.2.2.2.1 (s'.2.2.1.flatMap encL)∧Clo tStr .string (fT s) s'.2.2.1 s'.2.2.2.2.2.2) (fun s=>es1.length - s.1.length)
  ([],[],[],nilE tTx,none,0,[]) sR (fun w' hH hf=>⟨hH.off,Vis.nil,rfl,Own.nil,Clo.nil⟩) ?_
 rintro ⟨seen,xs,qs,y,p,c,R⟩ wA ⟨hV,hK,hO,hC⟩ hfA hHA KLA hKLA
 try dsimp only at hV hK hO hC
 have hql:qs.length=seen.length:=by
  have h1:=congrArg List.length hV.sn
  have h2:=congrArg List.length hK
  simp at h1 h2;omega
 have hsl:=hV.len hT.menc.born
 refine C.begin _ _ hfA hHA ?_
 try dsimp only
 refine sQ fun K6=>cj_reg ?_
 refine j_nextM 1 rfl (fun w' hH hf=>hM1 w' hf) hT.menc.lt (Nat.le_refl _) rfl rfl (fun hall=>?_) (fun xe hxe hns=>?_)
 ·refine jX (k:=K6 (sQ fun K7=>?_))
  refine cj_if_f rfl (cj_exit (K4 (sQ fun K8=>sQ fun K9=>cj_reg (jM (k:=jN (k:=jF 3 ru147 so144 (k:=jL ag144 hc0 3 (k:=?_))))))))
  have hV1:=hV
  have hK1:=hK
  have hO1:=hO
  have hC1:=hC
  have hall1:=hall
  obtain ⟨ks1,hks1,hkn1,hkm1⟩:=hV.keys hT.menc hall
  have hqk1:=keys_of hK hks1
  refine j_rangeM ru144 (fun w' hH hf=>hM2 w' hf) rfl rfl fun it2=>?_
  refine K9 (cj_block ?_)
  refine cj_loop (σ:=List Nat×List MapEntry×List LbE×Ent×Option Addr×Nat×Heap) (fun s=>[(4,.slice p qs.length c),(5,.slice s.2.2.2.2.1 s.2.2.1.length s.2.2.2.2.2.1),(32,ptr it2)])
   (fun s=>s.2.2.2.1::itM it2 m2 ck2 s.1 ck2::y::s.2.2.2.2.2.2) (fun s' _=>Vis es2 s'.2.1 s'.1∧s'.2.1.map (·.key)=(s'.2.2.1.map fun q=>Value.string q.1)∧Own tNu 2 s'.2.2.2.1 s'.2.2.2.2.1 s'.2.2.1.length s'.2.2.2.2.2.1 (s'.2.2.1.flatMap encL)∧Clo tI64 (.int .i64) (fN s) s'.2.2.1 s'.2.2.2.2.2.2∧∀z∈R,z∈s'.2.2.2.2.2.2) (fun s=>es2.length - s.1.length)
   ([],[],[],nilE tNu,none,0,itM it1 m1 ck1 seen ck1::R) sR (fun w' hH hf=>⟨hH.off,Vis.nil,rfl,Own.nil,Clo.nil,fun z hz=>List.mem_cons_of_mem _ hz⟩) ?_
  rintro ⟨seen2,xs2,qs2,y2,p2,c2,R2⟩ wB ⟨hV2,hK2,hO2,hC2,hR2⟩ hfB hHB KLB hKLB
  try dsimp only at hV2 hK2 hO2 hC2 hR2
  have hql2:qs2.length=seen2.length:=by
   have h1:=congrArg List.length hV2.sn
   have h2:=congrArg List.length hK2
   simp at h1 h2;omega
  have hsl2:=hV2.len hN.menc.born
  refine C.begin _ _ hfB hHB ?_
  try dsimp only
  refine sQ fun K10=>cj_reg ?_
  refine j_nextM 1 rfl (fun w' hH hf=>hM2 w' hf) hN.menc.lt (Nat.le_refl _) rfl rfl (fun hall=>?_) (fun xe hxe hns=>?_)
  ·refine jX (k:=K10 (sQ fun K11=>?_))
   refine cj_if_f rfl (cj_exit (K8 (sQ fun K12=>cj_reg (jM (k:=?_)))))
   obtain ⟨ks2,hks2,hkn2,hkm2⟩:=hV2.keys hN.menc hall
   have hqk2:=keys_of hK2 hks2
   refine j_sorted (F:=98) 2 rfl hO1 call98 (fun w hb=>sortL_c Tryz.sortTx ag109 so109 call99 (fun x y W=>clo1_c x.1 y.1 _ _ _ _ _ _ W) w y p qs.length c qs hO1 hb (by rw[hqk1];exact hkn1) (by omega)) rfl rfl fun v1 y1 ys1 hp1 hpw1 hOs1=>?_
   refine K12 (sQ fun K13=>cj_reg (jM (k:=?_)))
   refine j_sorted (F:=101) 0 rfl hO2 call101 (fun w hb=>sortL_c Tryz.sortNu ag112 so112 call102 (fun x y W=>clo2_c x.1 y.1 _ _ _ _ _ _ W) w y2 p2 qs2.length c2 qs2 hO2 hb (by rw[hqk2];exact hkn2) (by omega)) rfl rfl fun v2 y3 ys2 hp2 hpw2 hOs2=>?_
   refine K13 (sQ fun K14=>cj_reg (jM (k:=jM (k:=jA (k:=jA (k:=K14 (CJ.t [(2,_),(3,_)] (k:=cj_ret ?_))))))))
   exact ej_ret2 results69 rfl rfl fun w' hH hf=>⟨⟨_,_,rfl,⟨ys1,hOs1.os hH (i:=2) rfl,hpw1,fun k=>by rw[(hp1.map _).mem_iff,hqk1,hkm1,hT.keys],clo_fin hC1 (fun z hz=>by simp[putH];exact .inr (.inr (.inr (hR2 z hz)))) hH hp1⟩,⟨ys2,hOs2.os hH (i:=0) rfl,hpw2,fun k=>by rw[(hp2.map _).mem_iff,hqk2,hkm2,hN.keys],clo_fin hC2 (fun z hz=>by simp[putH];exact .inr (.inr (.inr hz))) hH hp2⟩⟩,hf⟩
  ·refine jX (k:=K10 (sQ fun K15=>?_))
   refine cj_if_t rfl (cj_skip (K15 (cj_block (sQ fun K16=>cj_reg (j_valw rfl (fun a w ha hH hf=>r_entryM 1 rfl (fun w' hH hf=>hM2 w' hf) rfl hxe hN.menc.born ha hH hf) (jX (k:=?_)))))))
   obtain ⟨k,pv,cv,hxk,hfk,hxv,hov⟩:=hN.entry hxe
   refine j_eqv hxk ?_
   refine jX (k:=?_)
   refine j_eqv hxv ?_
   refine jA (k:=jA (k:=K16 (cj_reg (jM (k:=jM (k:=?_))))))
   refine j_bslice0 ru53 so2 rfl fun b40=>jM (k:=?_)
   refine j_appS 0 rfl Own.empty ru53 el2 rfl rfl rfl hov rfl (fun z hz=>by obtain ⟨u, -,rfl⟩:=List.mem_map.1 hz;rfl) (by have:=hbn k hfk;omega) rfl fun y42 p42 c42 hO42=>?_
   refine j_val rfl (fun _ _ h=>r_build (cs:=[_,_]) bt112 rfl rfl h) (j_bslice1 ru55 so112 zv112 rfl rfl rfl rfl rfl fun b44=>?_)
   refine j_appO 1 rfl hO2 ru55 el112 rfl rfl rfl rfl rfl (by omega) rfl fun y45 p45 c45 hO45=>?_
   refine jA (k:=j_nil (ej_blk (ej_then ?_)))
   have hlt:seen2.length<es2.length:=by
    have:=(hV2.push hxe hns).len hN.menc.born
    simp at this;omega
   exact fun w' hH hf=>hKLB (seen2++[xe.born],xs2++[xe],qs2++[(k,p42,0+(fN s k).length,c42)],y45,p45,c45,y42::R2) _ w' ⟨hV2.push hxe hns,by simp[hK2,hxk],by simpa[encL,Value.cells]using hO45,by rw[Nat.zero_add]at hO42⊢;exact hC2.push (fun z hz=>List.mem_cons_of_mem _ hz) (List.Mem.head _) (by simpa using hO42),fun z hz=>List.mem_cons_of_mem _ (hR2 z hz)⟩ hf (Hp.rot4 hH) (by simp only[List.length_append,List.length_singleton];omega) ⟨rfl,by simp only[List.length_append,List.length_singleton];rfl,rfl,trivial⟩
 ·refine jX (k:=K6 (CJ.t [(0,_),(4,_),(5,_),(14,_),(16,_)] (k:=sQ fun K17=>?_)))
  refine cj_if_t rfl (cj_skip (K17 (cj_block (sQ fun K18=>cj_reg (j_valw rfl (fun a w ha hH hf=>r_entryM 1 rfl (fun w' hH hf=>hM1 w' hf) rfl hxe hT.menc.born ha hH hf) (jX (k:=?_)))))))
  obtain ⟨k,pv,cv,hxk,hfk,hxv,hov⟩:=hT.entry hxe
  refine j_eqv hxk ?_
  refine jX (k:=?_)
  refine j_eqv hxv ?_
  refine jA (k:=jA (k:=K18 (cj_reg (jM (k:=jM (k:=?_))))))
  refine j_bslice0 ru27 so9 rfl fun b22=>jM (k:=?_)
  refine j_appS 0 rfl Own.empty ru27 el9 rfl rfl rfl hov rfl (fun z hz=>by obtain ⟨u, -,rfl⟩:=List.mem_map.1 hz;rfl) (by have:=hbt k hfk;omega) rfl fun y24 p24 c24 hO24=>?_
  refine j_val rfl (fun _ _ h=>r_build (cs:=[_,_]) bt109 rfl rfl h) (j_bslice1 ru54 so109 zv109 rfl rfl rfl rfl rfl fun b26=>?_)
  refine j_appO 1 rfl hO ru54 el109 rfl rfl rfl rfl rfl (by omega) rfl fun y27 p27 c27 hO27=>?_
  refine jA (k:=j_nil (ej_blk (ej_then ?_)))
  have hlt:seen.length<es1.length:=by
   have:=(hV.push hxe hns).len hT.menc.born
   simp at this;omega
  exact fun w' hH hf=>hKLA (seen++[xe.born],xs++[xe],qs++[(k,p24,0+(fT s k).length,c24)],y27,p27,c27,y24::R) _ w' ⟨hV.push hxe hns,by simp[hK,hxk],by simpa[encL,Value.cells]using hO27,by rw[Nat.zero_add]at hO24⊢;exact hC.push (fun z hz=>List.mem_cons_of_mem _ hz) (List.Mem.head _) (by simpa using hO24)⟩ hf (Hp.rot3 hH) (by simp only[List.length_append,List.length_singleton];omega) ⟨rfl,by simp only[List.length_append,List.length_singleton];rfl,rfl,rfl,trivial⟩
end Go.Proofs.YtifdadlhmlhfiaaGreatDoor
namespace Go.Fw
open Go
section
variable {P:Program} {n:Nat} {e:Env} {d ty:Nat} {pos:String} {af:Array Edge}
theorem run_eqIn_np (dd t:Nat) (q:Addr) {te:TypeId} (hu:P.underlying t=some (.pointer te)) (w:World):(Op.equalIn (dd+1) t (.pointer none) (.pointer (some q))).run P w=.ok false w:=by
 simp[Op.equalIn,run_underlying hu]
theorem r_peqN {t t':Nat} {x y:Operand} {q:Addr} {te:TypeId} (hu:P.underlying t=some (.pointer te)) (hx:ev e x=some (.pointer none)) (hy:ev e y=some (.pointer (some q))) {a:Act} {w:World} (ha:Sat n e a):
  (execOp a.eval ⟨some d,.binOp .eql t x y t',ty,pos,af,none⟩).run P w=.ok (.value (.bool false)) w:=by
 have h:(binOp .eql t (.pointer none) (.pointer (some q))).run P w=.ok (.bool false) w:=by
  simp only[binOp]
  simp[Op.equal,Op.maxDepth,run_eqIn_np 9999 t q hu]
 simp only[execOp,ha.ev hx,ha.ev hy]
 simp[eqGuard,h]
end
end Go.Fw
namespace Go.Proofs.YtifdadlhmlhfiaaGreatDoor
open Go Go.Fw Go.Proofs Go.Proofs.Tryz
section
variable {P:Program} {n:Nat} {e:Env} {d ty:Nat} {pos:String} {af:Array Edge}
theorem r_peqAt {t t' T i b:Nat} {x y:Operand} {te:TypeId} {j:TypeInfo} {bs:List Nat} {z:Int} (hu:P.underlying t=some (.pointer te)) (hj:P.info? te=some j) (hs:j.size≠0) (hx:ev e x=some (ptrAt bs z)) (hy:ev e y=some (ptr b)) (hb:bs[i]? =some b) (hn:bs.Nodup) (hz:z<bs.length) {a:Act} {w:World} (hB:∀c∈bs,∃cs,Blk w c T cs) (ha:Sat n e a):
  (execOp a.eval ⟨some d,.binOp .eql t x y t',ty,pos,af,none⟩).run P w=.ok (.value (.bool (decide (z=i)))) w:=by
 have hi:=(List.getElem?_eq_some_iff.1 hb).1
 by_cases h:0≤z
 ·have hzl:z.toNat<bs.length:=by omega
  have e1:ptrAt bs z=ptr bs[z.toNat]:=by unfold ptrAt;rw[if_pos h,List.getElem?_eq_getElem hzl];rfl
  rw[e1]at hx
  obtain ⟨cs1,h1⟩:=hB _ (List.getElem_mem hzl)
  obtain ⟨cs2,h2⟩:=hB _ (List.mem_of_getElem? hb)
  rw[r_peql hu hj hs hx hy h1 h2 ha]
  have e2:b=bs[i]:=(List.getElem?_eq_some_iff.1 hb).2.symm
  congr 3
  rw[Bool.eq_iff_iff,decide_eq_true_eq,decide_eq_true_eq,e2]
  constructor
  ·intro e3;have:=nodup_ix hn hzl hi e3;omega
  ·intro e3;subst e3;congr 1
 ·have e1:ptrAt bs z=.pointer none:=by unfold ptrAt;rw[if_neg h]
  rw[e1]at hx
  rw[r_peqN hu hx hy ha]
  congr 3
  rw[eq_comm,decide_eq_false_iff_not]
  omega
end
set_option maxHeartbeats 1000000 in
theorem idxM_c (w:World) (bs:List Nat) (tv:Value) (z:Int) (hO:OS pMap 1 w tv (bs.map ptr)) (hB:∀b∈bs,∃cs,Blk w b tMap cs) (hn:bs.Nodup) (h1: -1≤z) (h2:z<bs.length) (hl:bs.length≤1000000):
  Calls Tryz.prog 66 #[tv,ptrAt bs z] w (Ret fun v w'=>v=.int .i64 z∧Fr 0 [] w w'):=by
 obtain ⟨p,l,c,rfl,hll, -,hx⟩:=hO.openF
 obtain rfl:l=bs.length:=by simpa using hll.symm
 refine startJ (args:=[_,_]) [(0,_),(1,_)] 0 [] [] Tryz.func66 rfl Tryz.ntmps66 rfl rfl .nil ?_
 refine sQ fun K1=>cj_reg (jA (k:=K1 (sQ fun K2=>sQ fun K3=>cj_reg (jM (k:=jE ru120 (k:=jM (k:=K3 (cj_block ?_))))))))
 refine cj_loop (σ:=Nat) (fun s=>[(0,.slice p bs.length c),(1,ptrAt bs z),(7,.int .i64 (bs.length:Nat)),(8,.int .i64 (s:Nat))]) (fun _=>[]) (fun s _=>s≤bs.length∧(z<0∨(s:Int)≤z)) (fun s=>bs.length - s) 0 sR (fun w' hH hf=>⟨hH,Nat.zero_le _,by omega⟩) ?_
 rintro k wk ⟨hk,hkz⟩ hfk hHk KL hKL
 try dsimp only at hk hkz
 refine C.begin _ _ hfk hHk ?_
 try dsimp only
 refine sQ fun K4=>cj_reg (jS (k:=K4 (sQ fun K5=>?_)))
 refine cj_dec rfl (fun h9=>?_) (fun h9=>?_)
 ·have hk':k<bs.length:=by omega
  obtain ⟨bq,rfl,hsq⟩:=hx (by omega)
  have hcell:∀w',Fm.ok ⟨w,0,[]⟩ w'→w'.cell? ⟨bq,0+k*1,none⟩=some (ptr bs[k]):=fun w' hf=>by
   have h:=hsq ⟨w,0,[]⟩ rfl rfl w' hf k (ptr bs[k]) (by rw[List.getElem?_map,List.getElem?_eq_getElem hk'];rfl)
   simpa using h
  refine cj_skip (K5 (sQ fun K6=>cj_block (sQ fun K7=>cj_reg (jM (k:=jA (k:=K7 (sQ fun K8=>cj_reg (jM (k:=jM (k:=jM (k:=jJ ru120 so128 (k:=?_))))))))))))
  refine j_valw rfl (fun a w ha hH hf=>r_load ag128 rfl (hcell w hf) ha) ?_
  refine j_valw rfl (fun a w ha hH hf=>r_peqAt (i:=k) (T:=tMap) ud128 nf130 ns130 rfl rfl (List.getElem?_eq_getElem hk') hn h2 (fun c hc=>by obtain ⟨cs,h⟩:=hB c hc;exact ⟨cs,fr_row hf rfl _ _ h⟩) ha) ?_
  refine K8 ?_
  refine cj_dec rfl (fun hq=>?_) (fun hq=>?_)
  ·refine sQ fun K9=>cj_reg (jM (k:=jA (k:=K9 (CJ.t [(4,_)] (k:=cj_ret ?_)))))
   first
    |exact ej_ret1 Tryz.results66 rfl fun w' hH hf=>⟨by rw[hq],hf⟩
    |exact ej_ret1 Tryz.results66 rfl fun w' hH hf=>⟨by rw[hz],hf⟩
  ·refine cj_skip (K6 (cj_reg (jI (k:=jM (k:=j_nil (ej_then ?_))))))
   exact fun w' hH hf=>hKL (k+1) _ w' ⟨hk',by omega⟩ hf hH (by first|omega|(simp only;omega)) ⟨rfl,rfl,rfl,rfl,trivial⟩
 ·have hz:z= -1:=by omega
  refine cj_exit (K2 (sQ fun K10=>cj_reg (jA (k:=K10 (cj_ret ?_)))))
  first
   |exact ej_ret1 Tryz.results66 rfl fun w' hH hf=>⟨by rw[hq],hf⟩
   |exact ej_ret1 Tryz.results66 rfl fun w' hH hf=>⟨by rw[hz],hf⟩
set_option maxHeartbeats 1000000 in
theorem idxF_c (w:World) (bs:List Nat) (tv:Value) (z:Int) (hO:OS pFun 1 w tv (bs.map ptr)) (hB:∀b∈bs,∃cs,Blk w b tFun cs) (hn:bs.Nodup) (h1: -1≤z) (h2:z<bs.length) (hl:bs.length≤1000000):
  Calls Tryz.prog 67 #[tv,ptrAt bs z] w (Ret fun v w'=>v=.int .i64 z∧Fr 0 [] w w'):=by
 obtain ⟨p,l,c,rfl,hll, -,hx⟩:=hO.openF
 obtain rfl:l=bs.length:=by simpa using hll.symm
 refine startJ (args:=[_,_]) [(0,_),(1,_)] 0 [] [] Tryz.func67 rfl Tryz.ntmps67 rfl rfl .nil ?_
 refine sQ fun K1=>cj_reg (jA (k:=K1 (sQ fun K2=>sQ fun K3=>cj_reg (jM (k:=jE ru122 (k:=jM (k:=K3 (cj_block ?_))))))))
 refine cj_loop (σ:=Nat) (fun s=>[(0,.slice p bs.length c),(1,ptrAt bs z),(7,.int .i64 (bs.length:Nat)),(8,.int .i64 (s:Nat))]) (fun _=>[]) (fun s _=>s≤bs.length∧(z<0∨(s:Int)≤z)) (fun s=>bs.length - s) 0 sR (fun w' hH hf=>⟨hH,Nat.zero_le _,by omega⟩) ?_
 rintro k wk ⟨hk,hkz⟩ hfk hHk KL hKL
 try dsimp only at hk hkz
 refine C.begin _ _ hfk hHk ?_
 try dsimp only
 refine sQ fun K4=>cj_reg (jS (k:=K4 (sQ fun K5=>?_)))
 refine cj_dec rfl (fun h9=>?_) (fun h9=>?_)
 ·have hk':k<bs.length:=by omega
  obtain ⟨bq,rfl,hsq⟩:=hx (by omega)
  have hcell:∀w',Fm.ok ⟨w,0,[]⟩ w'→w'.cell? ⟨bq,0+k*1,none⟩=some (ptr bs[k]):=fun w' hf=>by
   have h:=hsq ⟨w,0,[]⟩ rfl rfl w' hf k (ptr bs[k]) (by rw[List.getElem?_map,List.getElem?_eq_getElem hk'];rfl)
   simpa using h
  refine cj_skip (K5 (sQ fun K6=>cj_block (sQ fun K7=>cj_reg (jM (k:=jA (k:=K7 (sQ fun K8=>cj_reg (jM (k:=jM (k:=jM (k:=jJ ru122 so131 (k:=?_))))))))))))
  refine j_valw rfl (fun a w ha hH hf=>r_load ag131 rfl (hcell w hf) ha) ?_
  refine j_valw rfl (fun a w ha hH hf=>r_peqAt (i:=k) (T:=tFun) ud131 nf133 ns133 rfl rfl (List.getElem?_eq_getElem hk') hn h2 (fun c hc=>by obtain ⟨cs,h⟩:=hB c hc;exact ⟨cs,fr_row hf rfl _ _ h⟩) ha) ?_
  refine K8 ?_
  refine cj_dec rfl (fun hq=>?_) (fun hq=>?_)
  ·refine sQ fun K9=>cj_reg (jM (k:=jA (k:=K9 (CJ.t [(4,_)] (k:=cj_ret ?_)))))
   first
    |exact ej_ret1 Tryz.results67 rfl fun w' hH hf=>⟨by rw[hq],hf⟩
    |exact ej_ret1 Tryz.results67 rfl fun w' hH hf=>⟨by rw[hz],hf⟩
  ·refine cj_skip (K6 (cj_reg (jI (k:=jM (k:=j_nil (ej_then ?_))))))
   exact fun w' hH hf=>hKL (k+1) _ w' ⟨hk',by omega⟩ hf hH (by first|omega|(simp only;omega)) ⟨rfl,rfl,rfl,rfl,trivial⟩
 ·have hz:z= -1:=by omega
  refine cj_exit (K2 (sQ fun K10=>cj_reg (jA (k:=K10 (cj_ret ?_)))))
  first
   |exact ej_ret1 Tryz.results67 rfl fun w' hH hf=>⟨by rw[hq],hf⟩
   |exact ej_ret1 Tryz.results67 rfl fun w' hH hf=>⟨by rw[hz],hf⟩
set_option maxHeartbeats 1000000 in
theorem idxL_c (w:World) (bs:List Nat) (tv:Value) (z:Int) (hO:OS pLoc 1 w tv (bs.map ptr)) (hB:∀b∈bs,∃cs,Blk w b tLoc cs) (hn:bs.Nodup) (h1: -1≤z) (h2:z<bs.length) (hl:bs.length≤1000000):
  Calls Tryz.prog 68 #[tv,ptrAt bs z] w (Ret fun v w'=>v=.int .i64 z∧Fr 0 [] w w'):=by
 obtain ⟨p,l,c,rfl,hll, -,hx⟩:=hO.openF
 obtain rfl:l=bs.length:=by simpa using hll.symm
 refine startJ (args:=[_,_]) [(0,_),(1,_)] 0 [] [] Tryz.func68 rfl Tryz.ntmps68 rfl rfl .nil ?_
 refine sQ fun K1=>cj_reg (jA (k:=K1 (sQ fun K2=>sQ fun K3=>cj_reg (jM (k:=jE ru121 (k:=jM (k:=K3 (cj_block ?_))))))))
 refine cj_loop (σ:=Nat) (fun s=>[(0,.slice p bs.length c),(1,ptrAt bs z),(7,.int .i64 (bs.length:Nat)),(8,.int .i64 (s:Nat))]) (fun _=>[]) (fun s _=>s≤bs.length∧(z<0∨(s:Int)≤z)) (fun s=>bs.length - s) 0 sR (fun w' hH hf=>⟨hH,Nat.zero_le _,by omega⟩) ?_
 rintro k wk ⟨hk,hkz⟩ hfk hHk KL hKL
 try dsimp only at hk hkz
 refine C.begin _ _ hfk hHk ?_
 try dsimp only
 refine sQ fun K4=>cj_reg (jS (k:=K4 (sQ fun K5=>?_)))
 refine cj_dec rfl (fun h9=>?_) (fun h9=>?_)
 ·have hk':k<bs.length:=by omega
  obtain ⟨bq,rfl,hsq⟩:=hx (by omega)
  have hcell:∀w',Fm.ok ⟨w,0,[]⟩ w'→w'.cell? ⟨bq,0+k*1,none⟩=some (ptr bs[k]):=fun w' hf=>by
   have h:=hsq ⟨w,0,[]⟩ rfl rfl w' hf k (ptr bs[k]) (by rw[List.getElem?_map,List.getElem?_eq_getElem hk'];rfl)
   simpa using h
  refine cj_skip (K5 (sQ fun K6=>cj_block (sQ fun K7=>cj_reg (jM (k:=jA (k:=K7 (sQ fun K8=>cj_reg (jM (k:=jM (k:=jM (k:=jJ ru121 so134 (k:=?_))))))))))))
  refine j_valw rfl (fun a w ha hH hf=>r_load ag134 rfl (hcell w hf) ha) ?_
  refine j_valw rfl (fun a w ha hH hf=>r_peqAt (i:=k) (T:=tLoc) ud134 nf137 ns137 rfl rfl (List.getElem?_eq_getElem hk') hn h2 (fun c hc=>by obtain ⟨cs,h⟩:=hB c hc;exact ⟨cs,fr_row hf rfl _ _ h⟩) ha) ?_
  refine K8 ?_
  refine cj_dec rfl (fun hq=>?_) (fun hq=>?_)
  ·refine sQ fun K9=>cj_reg (jM (k:=jA (k:=K9 (CJ.t [(4,_)] (k:=cj_ret ?_)))))
   first
    |exact ej_ret1 Tryz.results68 rfl fun w' hH hf=>⟨by rw[hq],hf⟩
    |exact ej_ret1 Tryz.results68 rfl fun w' hH hf=>⟨by rw[hz],hf⟩
  ·refine cj_skip (K6 (cj_reg (jI (k:=jM (k:=j_nil (ej_then ?_))))))
   exact fun w' hH hf=>hKL (k+1) _ w' ⟨hk',by omega⟩ hf hH (by first|omega|(simp only;omega)) ⟨rfl,rfl,rfl,rfl,trivial⟩
 ·have hz:z= -1:=by omega
  refine cj_exit (K2 (sQ fun K10=>cj_reg (jA (k:=K10 (cj_ret ?_)))))
  first
   |exact ej_ret1 Tryz.results68 rfl fun w' hH hf=>⟨by rw[hq],hf⟩
   |exact ej_ret1 Tryz.results68 rfl fun w' hH hf=>⟨by rw[hz],hf⟩
end Go.Proofs.YtifdadlhmlhfiaaGreatDoor
