/-
  Part 1 of the proof. Conditions: as each lemma states them.
-/
import Derived.Tactics
import Derived.Orders
import Derived.Laws.Strings
import Derived.OrdersHeld
import Derived.StillTail
import Derived.WalkSpells
import Derived.LaidEqlPtr
import Derived.Laws.BytesString
import Derived.Shelf.Sort.Plain
import Derived.Shelf.Slices.In.SortNone2
import Derived.Test.YtifdadlhmlhfiaaGreatDoorProg
import Derived.KernelRfl

namespace Go.Fw
open Go
theorem ox {p:Prop} (h:p:=by omega):p:=h
theorem dq {p:Prop} (h:p:=by decide):p:=h
theorem zp {p:Prop} (h:p:=by simp):p:=h
theorem gE {α:Type} {l:List α} {i:Nat} (h:i<l.length):l[i]?=some l[i]:=List.getElem?_eq_getElem h
theorem tL {α:Type} {l:List α} {i:Nat} (h:l.length≤i):l.take i=l:=List.take_of_length_le h
theorem lA {α:Type} {a b:List α}:(a++b).length=a.length+b.length:=List.length_append
theorem mG {α:Type} {l:List α} {i:Nat} {a:α} (h:l[i]?=some a):a∈l:=List.mem_of_getElem? h
theorem mA {α:Type} {a:α} {l m:List α} (h:a∈l++m):a∈l∨a∈m:=List.mem_append.1 h
theorem mC {α:Type} {a b:α} {l:List α} (h:a∈b::l):a=b∨a∈l:=List.mem_cons.1 h
theorem tG {α:Type} {l:List α} {i:Nat} (h:i<l.length):l.take i++[l[i]]=l.take (i+1):=List.take_append_getElem h
theorem aq {α:Type} {a b:List α} {i:Nat} (h:i<a.length):(a++b)[i]?=a[i]?:=List.getElem?_append_left h
theorem mq {α β:Type} {f:α→β} {l:List α} {a:α} (h:a∈l):f a∈l.map f:=List.mem_map_of_mem h
variable {a:Act} {q z:Int} {kd:IntKind} {es:List MapEntry} {W bs:List Nat} {cs ds vs xs:List Value} {B T b by_ c ck elem i j l m n o sT sz t':Nat} {φ:Nat→Prop} {x:Operand} {p:Option Addr} {P:Program} {v:Value} {w w' w0 w1:World}
abbrev Env:=List (Nat×Value)
def look:Env→Nat→Option Value
 |[],_=>none
 |(t,v)::e,s=>bif Nat.beq t s then some v else look e s
def ev (e:Env):Operand→Option Value
 | .tmp t=>look e t
 | .const v=>some v
 | .func f=>some (.func (.func f) #[] #[])
 | .global g=>some (.pointer (some ⟨g,0,none⟩))
structure Sat (n:Nat) (e:Env) (a:Act):Prop where
 size:a.tmps.size=n
 defs:a.defers=[]
 has:∀t v,look e t=some v→a.tmps[t]? =some v
theorem Sat.ev {e:Env} (h:Sat n e a) (hx:ev e x=some v):a.eval x=v:=by
 cases x with
 |tmp t=>
  have:=h.has t v hx
  simp[Act.eval,Array.getD_eq_getD_getElem?,this]
 |const c=>simpa[Fw.ev,Act.eval]using hx
 |func f=>simpa[Fw.ev,Act.eval]using hx
 |global g=>simpa[Fw.ev,Act.eval]using hx
theorem Sat.put {e:Env} {d:Nat} (h:Sat n e a) (hd:Nat.blt d n=true):Sat n ((d,v)::e) (a.put (some d) v):=by
 have hd':d<n:=by simpa using hd
 refine ⟨by simp[Act.put,h.size],by simp[Act.put,h.defs],?_⟩
 intro t u ht
 simp only[look]at ht
 by_cases hdt:d=t
 ·subst hdt
  simp at ht
  subst ht
  simp[Act.put,h.size,hd']
 ·have hb:Nat.beq d t=false:=by
   cases hb:Nat.beq d t with
   |false=>rfl
   |true=>exact absurd (Nat.eq_of_beq_eq_true hb) hdt
  rw[hb]at ht
  have:=h.has t u ht
  simp[Act.put,Array.getElem?_setIfInBounds_ne hdt,this]
theorem Sat.mono {e e':Env} (h:Sat n e a) (hs:∀t v,look e' t=some v→look e t=some v):Sat n e' a:=
 ⟨h.size,h.defs,fun t v ht=>h.has t v (hs t v ht)⟩
def prune (e:Env):List Nat→Env
 |[]=>[]
 |k::ks=>match look e k with
  |some v=>(k,v)::prune e ks
  |none=>prune e ks
theorem VV (e:Env):∀(ks:List Nat) (t:Nat) (v:Value),look (prune e ks) t=some v→look e t=some v
 |[],t,v,h=>by simp[prune,look]at h
 |k::ks,t,v,h=>by
    unfold prune at h
    cases hk:look e k with
    |none=>rw[hk]at h;exact VV e ks t v h
    |some u=>
     rw[hk]at h
     simp only[look]at h
     cases hb:Nat.beq k t with
     |true=>
      rw[hb]at h
      have:=Nat.eq_of_beq_eq_true hb
      subst this
      simpa[hk]using h
     |false=>rw[hb]at h;exact VV e ks t v h
theorem Sat.prune {e:Env} (h:Sat n e a) (ks:List Nat):Sat n (Fw.prune e ks) a:=h.mono (VV e ks)
def Sub (e:Env):Env→Prop
 |[]=>True
 |(t,v)::r=>look e t=some v∧Sub e r
theorem Sat.sub {e e':Env} (h:Sat n e a) (hs:Sub e e'):Sat n e' a:=by
 refine h.mono ?_
 induction e' with
 |nil=>intro t v ht;simp[look]at ht
 |cons p r ih=>
  obtain ⟨s,u⟩:=p
  intro t v ht
  simp only[look]at ht
  cases hb:Nat.beq s t with
  |true=>
   rw[hb]at ht
   have:=Nat.eq_of_beq_eq_true hb
   subst this
   simp at ht
   subst ht
   exact hs.1
  |false=>rw[hb]at ht;exact ih hs.2 t v ht
def Ret (R:Value→World→Prop):Ending→World→Prop
 | .returned v,w=>R v w
 |_,_=>False
theorem Ret.mono {R R':Value→World→Prop} (h:∀v w,R v w→R' v w):∀e w,Ret R e w→Ret R' e w
 | .returned _,_,hr=>h _ _ hr
 | .panicked _,_,hr=>hr
 | .outgrown,_,hr=>hr
theorem start {f:FuncId} {fn:Func} {c:Code} {args:List Value} {R:Ending→World→Prop} (e:Env)
  (hf:P.funcs[f]? =some fn) (hb:fn.body=some c) (hn:fn.ntmps=n) (hargs:Nat.ble args.length n=true)
  (he:(args.zipIdx.map fun p=>(p.2,p.1))=e)
  (h:∀a,Sat n e a→c.wp P (bodyPost P fn R) a w):Calls P f args.toArray w R:=by
 refine calls_of_wp hf hb (h _ ?_)
 have hle:args.length≤n:=by simpa using hargs
 refine ⟨by simp[hn];omega,rfl,?_⟩
 subst he
 intro t v ht
 have key:∀(l:List Value) (k:Nat),look (l.zipIdx k|>.map fun p=>(p.2,p.1)) t=some v→k≤t∧l[t - k]? =some v:=by
  intro l
  induction l with
  |nil=>intro k h;simp[look]at h
  |cons x l ih=>
   intro k h
   simp only[List.zipIdx_cons,List.map_cons,look]at h
   cases hb:Nat.beq k t with
   |true=>
    rw[hb]at h
    have:=Nat.eq_of_beq_eq_true hb
    subst this
    simp at h
    subst h
    simp
   |false=>
    rw[hb]at h
    have h2:=ih (k+1) h
    have hlt:k<t:=by omega
    refine ⟨by omega,?_⟩
    rw[show t - k=(t - (k+1))+1 by omega]
    simpa using h2.2
 have h2:=key args 0 ht
 simp at h2
 have hlt:t<args.length:=(List.getElem?_eq_some_iff.1 h2).1
 obtain ⟨_,hv⟩:=List.getElem?_eq_some_iff.1 h2
 simp[Array.getElem?_append,hlt,hv]
def C (P:Program) (c:Code) (Q:Exit→Act→World→Prop) (n:Nat) (e:Env) (w:World):Prop:=∀a,Sat n e a→c.wp P Q a w
def L (P:Program) (ops:Array Oper) (Q:Exit→Act→World→Prop) (n:Nat) (e:Env) (l:List Oper) (w:World):Prop:=∀a,Sat n e a→wpList P ops Q l a w
def E (Q:Exit→Act→World→Prop) (x:Exit) (n:Nat) (e:Env) (w:World):Prop:=∀a,Sat n e a→Q x a w
def N (K:Act→World→Prop) (n:Nat) (e:Env) (w:World):Prop:=∀a,Sat n e a→K a w
theorem qkN {f:FuncId} {fn:Func} {c:Code} {args:List Value} {R:Ending→World→Prop} (e:Env)
  (hf:P.funcs[f]? =some fn) (hb:fn.body=some c) (hn:fn.ntmps=n) (hargs:Nat.ble args.length n=true)
  (he:(args.zipIdx.map fun p=>(p.2,p.1))=e) (h:C P c (bodyPost P fn R) n e w):Calls P f args.toArray w R:=start e hf hb hn hargs he h
section
variable {P:Program} {Q:Exit→Act→World→Prop} {w:World} {n:Nat} {e:Env}
theorem qlT {id:Nat} {l:List Oper} (h:L P l.toArray Q n e l w):C P (.region id l.toArray false) Q n e w:=fun a ha=>wp_region_lit (h a ha)
theorem qlU {c:Operand} {x y:Code} (hc:ev e c=some (.bool true)) (h:C P x Q n e w):C P (.cond c x y) Q n e w:=fun a ha=>wp_cond_true (ha.ev hc) (h a ha)
theorem qlV {c:Operand} {x y:Code} (hc:ev e c=some (.bool false)) (h:C P y Q n e w):C P (.cond c x y) Q n e w:=fun a ha=>wp_cond_false (ha.ev hc) (h a ha)
theorem c_if {c:Operand} {x y:Code} {t:Bool} (hc:ev e c=some (.bool t)) (h1:t=true→C P x Q n e w) (h2:t=false→C P y Q n e w):C P (.cond c x y) Q n e w:=fun a ha=>
 wp_cond_split (ha.ev hc) (fun h=>h1 h a ha) (fun h=>h2 h a ha)
theorem qjR {c:Code} (h:C P c (Exit.inBlock i Q) n e w):C P (.block i c) Q n e w:=fun a ha=>wp_block (h a ha)
theorem qlS (h:E Q .normal n e w):C P .skip Q n e w:=fun a ha=>wp_skip (h a ha)
theorem qlW (h:E Q (.exit i) n e w):C P (.exit i) Q n e w:=fun a ha=>wp_exit (h a ha)
theorem c_ret (h:E Q .ret n e w):C P .ret Q n e w:=fun a ha=>wp_ret (h a ha)
theorem C.sub {c:Code} {e':Env} (hs:Sub e e') (h:C P c Q n e' w):C P c Q n e w:=fun a ha=>h a (ha.sub hs)
theorem C.prune {c:Code} (ks:List Nat) (h:C P c Q n (Fw.prune e ks) w):C P c Q n e w:=fun a ha=>h a (ha.prune ks)
theorem N.prune {K:Act→World→Prop} (ks:List Nat) (h:N K n (Fw.prune e ks) w):N K n e w:=fun a ha=>h a (ha.prune ks)
theorem E.prune {x:Exit} (ks:List Nat) (h:E Q x n (Fw.prune e ks) w):E Q x n e w:=fun a ha=>h a (ha.prune ks)
theorem qfG (h:E Q .normal n e w):E (Exit.inBlock i Q) (.exit i) n e w:=fun a ha=>by simpa[Exit.inBlock]using h a ha
theorem qlN {fn:Func} {R:Value→World→Prop} {t:Nat} (hres:fn.results= #[.tmp t]) (ht:look e t=some v) (h:R v w):E (bodyPost P fn (Ret R)) .ret n e w:=fun a ha=>by
 refine ⟨ha.defs,v,?_,h⟩
 have:=ha.has t v ht
 rw[results_tmp hres]
 simp[Array.getD_eq_getD_getElem?,this]
theorem qlM {fn:Func} {R:Value→World→Prop} {t s:Nat} {u:Value} (hres:fn.results= #[.tmp t,.tmp s]) (ht:look e t=some v) (hs:look e s=some u) (h:R (.tuple #[v,u]) w):
  E (bodyPost P fn (Ret R)) .ret n e w:=fun a ha=>by
 refine ⟨ha.defs,_,?_,h⟩
 have h1:=ha.has t v ht
 have h2:=ha.has s u hs
 rw[results_tmp2 hres]
 simp[Array.getD_eq_getD_getElem?,h1,h2]
theorem qlO {fn:Func} {R:Value→World→Prop} (hres:fn.results= #[]) (h:R (.tuple #[]) w):E (bodyPost P fn (Ret R)) .ret n e w:=fun _ ha=>⟨ha.defs,_,results_none hres _ _ _,h⟩
theorem qlP {fn:Func} {R:Value→World→Prop} (hres:fn.results= #[]) (h:R (.tuple #[]) w):E (bodyPost P fn (Ret R)) .normal n e w:=fun _ ha=>⟨ha.defs,_,results_none hres _ _ _,h⟩
theorem qbt (p:Nat→Prop) (h:∃k,p k):∃k,p k∧∀j,p j→k≤j:=by
 obtain ⟨k,hk⟩:=h
 induction k using Nat.strongRecOn with
 |_ k ih=>
  by_cases hs:∃j,p j∧j<k
  ·obtain ⟨j,hj,hlt⟩:=hs
   exact ih j hlt hj
  ·exact ⟨k,hk,fun j hj=>by
     rcases Nat.lt_or_ge j k with h|h
     ·exact absurd ⟨j,hj,h⟩ hs
     ·exact h⟩
theorem vk {σ:Type} {c:Code} (en:σ→Env) (I:σ→World→Prop) (m:σ→Nat) (s0:σ) (h0:Sub e (en s0)) (hI0:I s0 w)
  (round:∀s w,I s w→∀K:Act→World→Prop,(∀s' e' w',I s' w'→m s'<m s→Sub e' (en s')→N K n e' w')→C P c (Exit.then K Q) n (en s) w):C P (.loop c) Q n e w:=by
 classical
 intro a ha
 let p:Act→World→Nat→Prop:=fun a w k=>∃s,(Sat n (en s) a∧I s w)∧m s=k
 have least:∀a w,(∃s,Sat n (en s) a∧I s w)→∃k,p a w k∧∀j,p a w j→k≤j:=fun a w h=>qbt _ (by
  obtain ⟨s,hs⟩:=h
  exact ⟨m s,s,hs,rfl⟩)
 let μ:Act→World→Nat:=fun a w=>if h:∃s,Sat n (en s) a∧I s w then Classical.choose (least a w h) else 0
 refine wp_loop (fun a w=>∃s,Sat n (en s) a∧I s w) μ ⟨s0,ha.sub h0,hI0⟩ ?_
 intro a w hI
 have hμ:μ a w=Classical.choose (least a w hI):=dif_pos hI
 obtain ⟨⟨s,hs,hms⟩,_⟩:=Classical.choose_spec (least a w hI)
 refine round s w hs.2 _ ?_ a hs.1
 intro s' e' w' hI' hlt hsub a' ha'
 have hex:∃s,Sat n (en s) a'∧I s w':=⟨s',ha'.sub hsub,hI'⟩
 refine ⟨hex,?_⟩
 have hμ':μ a' w'=Classical.choose (least a' w' hex):=dif_pos hex
 have h2:=(Classical.choose_spec (least a' w' hex)).2 (m s') ⟨s',⟨ha'.sub hsub,hI'⟩,rfl⟩
 rw[hμ,hμ']
 omega
end
def KE:Obj→Nat
 | .cells _ T _=>T
 | .map _ _=>1000000
 |_=>1000001
def Blk (w:World) (b:Nat) (T:Nat) (cs:List Value):Prop:=w.heap[b]? =some (.cells cs.toArray T (0,0))
structure Fr (B:Nat) (W:List Nat) (w w':World):Prop where
 os:w'.os=w.os
 tape:w'.tape=w.tape
 output:w'.output=w.output
 size:w.heap.size≤w'.heap.size
 keep:∀(b:Nat) (o:Obj),w.heap[b]? =some o→(b<B∨KE o∉W)→w'.heap[b]? =some o
theorem Fr.refl (B:Nat) (W:List Nat) (w:World):Fr B W w w:=⟨rfl,rfl,rfl,Nat.le_refl _,fun _ _ h _=>h⟩
theorem Blk.lt (h:Blk w b T cs):b<w.heap.size:=(Array.getElem?_eq_some_iff.1 h).1
theorem Fr.blk (h:Fr B W w w') (hb:Blk w b T cs) (hk:b<B∨T∉W):Blk w' b T cs:=h.keep b _ hb hk
theorem Fr.trans {B':Nat} {W':List Nat} {w2:World} (h:Fr B W w w1) (k:Fr B' W' w1 w2) (hc:w.heap.size≤B'∨(B≤B'∧∀x∈W',x∈W)):Fr B W w w2:=by
 refine ⟨k.os.trans h.os,k.tape.trans h.tape,k.output.trans h.output,Nat.le_trans h.size k.size,?_⟩
 intro b o hb hk
 refine k.keep b o (h.keep b o hb hk) ?_
 rcases hc with hc|⟨hB,hW⟩
 ·left
  have:=(Array.getElem?_eq_some_iff.1 hb).1
  omega
 ·rcases hk with hk|hk
  ·left;omega
  ·right;exact fun hm=>hk (hW _ hm)
theorem Fr.mono {B':Nat} {W':List Nat} (h:Fr B W w w') (hc:w.heap.size≤B∨(B'≤B∧∀x∈W,x∈W')):Fr B' W' w w':=by
 refine ⟨h.os,h.tape,h.output,h.size,?_⟩
 intro b o hb hk
 refine h.keep b o hb ?_
 rcases hc with hc|⟨hB,hW⟩
 ·left
  have:=(Array.getElem?_eq_some_iff.1 hb).1
  omega
 ·rcases hk with hk|hk
  ·left;omega
  ·right;exact fun hm=>hk (hW _ hm)
theorem Fr.quiet (h:Fr B [] w w') (B':Nat) (W':List Nat):Fr B' W' w w':=⟨h.os,h.tape,h.output,h.size,fun b o hb _=>h.keep b o hb (.inr zp)⟩
structure New (w w':World) (b:Nat) (o:Obj):Prop where
 os:w'.os=w.os
 tape:w'.tape=w.tape
 output:w'.output=w.output
 num:b=w.heap.size
 heap:w'.heap=w.heap.push o
theorem New.fr {o:Obj} (h:New w w' b o) (B:Nat) (W:List Nat):Fr B W w w':=by
 refine ⟨h.os,h.tape,h.output,by simp[h.heap],?_⟩
 intro c o' hc _
 have:=(Array.getElem?_eq_some_iff.1 hc).1
 rw[h.heap,Array.getElem?_push,if_neg ox]
 exact hc
theorem New.at {o:Obj} (h:New w w' b o):w'.heap[b]? =some o:=by rw[h.heap,h.num];simp
theorem New.blk {cs:Array Value} (h:New w w' b (.cells cs T (0,0))):Blk w' b T cs.toList:=by simpa[Blk]using h.at
theorem New.size {o:Obj} (h:New w w' b o):w'.heap.size=w.heap.size+1:=by simp[h.heap]
structure Upd (w w':World) (b:Nat) (o':Obj):Prop where
 os:w'.os=w.os
 tape:w'.tape=w.tape
 output:w'.output=w.output
 size:w'.heap.size=w.heap.size
 at_:w'.heap[b]? =some o'
 rest:∀c,c≠b→w'.heap[c]? =w.heap[c]?
theorem Upd.fr {o o':Obj} (h:Upd w w' b o') (ho:w.heap[b]? =some o) (hc:B≤b∧KE o∈W):Fr B W w w':=by
 refine ⟨h.os,h.tape,h.output,by rw[h.size];exact Nat.le_refl _,?_⟩
 intro c o1 h1 hk
 by_cases hcb:c=b
 ·subst hcb
  rw[ho]at h1
  cases h1
  rcases hk with hk|hk
  ·omega
  ·exact absurd hc.2 hk
 ·rw[h.rest c hcb];exact h1
theorem Fr.upd {o o':Obj} (hf:Fr B W w0 w) (h:Upd w w' b o') (ho:w.heap[b]? =some o) (hc:w0.heap.size≤b∨(B≤b∧KE o∈W)):Fr B W w0 w':=by
 rcases hc with hc|hc
 ·refine ⟨h.os.trans hf.os,h.tape.trans hf.tape,h.output.trans hf.output,by rw[h.size];exact hf.size,?_⟩
  intro c o1 h1 hk
  have hlt:=(Array.getElem?_eq_some_iff.1 h1).1
  rw[h.rest c ox]
  exact hf.keep c o1 h1 hk
 ·exact hf.trans (h.fr ho hc) (.inr ⟨Nat.le_refl _,fun _ hx=>hx⟩)
theorem Fr.new {o:Obj} (hf:Fr B W w0 w) (h:New w w' b o):Fr B W w0 w':=
 hf.trans (h.fr B W) (.inr ⟨Nat.le_refl _,fun _ hx=>hx⟩)
theorem Upd.other {o':Obj} (h:Upd w w' b o') (hc:Blk w c T cs) (hne:c≠b):Blk w' c T cs:=by
 unfold Blk;rw[h.rest c hne];exact hc
theorem Blk.ne {U:Nat} (h:Blk w b T cs) (k:Blk w c U ds) (hT:T≠U):b≠c:=by
 rintro rfl
 unfold Blk at h k
 rw[h]at k
 cases k
 exact hT rfl
theorem Blk.cell (h:Blk w b T cs) (o:Nat):w.cell? ⟨b,o,none⟩=cs[o]? :=by
 simp[World.cell?,show w.heap[b]? =some (.cells cs.toArray T (0,0)) from h]
theorem Blk.cell' (h:Blk w b T cs) (hv:cs[o]? =some v):w.cell? ⟨b,o,none⟩=some v:=(h.cell o).trans hv
theorem Blk.frozen (h:Blk w b T cs) (o:Nat):w.frozen? ⟨b,o,none⟩=false:=by
 simp[World.frozen?,show w.heap[b]? =some (.cells cs.toArray T (0,0)) from h]
def scal:Value→Bool
 | .agg _=>false
 | .tuple _=>false
 |_=>true
theorem JX (h:scal v=true):v.cells= #[v]:=by cases v<;>simp_all [scal,Value.cells]
section
variable {P:Program} {ops:Array Oper} {Q:Exit→Act→World→Prop} {rest:List Oper} {n:Nat} {e:Env} {w:World} {d ty:Nat} {pos:String} {af:Array Edge}
theorem L.val {op:Op} (hd:Nat.blt d n=true) (hr:∀a,Sat n e a→(execOp a.eval ⟨some d,op,ty,pos,af,none⟩).run P w=.ok (.value v) w)
  (k:L P ops Q n ((d,v)::e) rest w):L P ops Q n e (⟨some d,op,ty,pos,af,none⟩::rest) w:=fun a ha=>by
 unfold wpList
 rw[if_pos (by simp[Region.wanted])]
 refine .inl ?_
 unfold Oper.wp
 rw[hr a ha]
 exact k _ (ha.put hd)
theorem L.valw {op:Op} (hd:Nat.blt d n=true) (hr:∀a,Sat n e a→(execOp a.eval ⟨some d,op,ty,pos,af,none⟩).run P w=.ok (.value v) w')
  (k:L P ops Q n ((d,v)::e) rest w'):L P ops Q n e (⟨some d,op,ty,pos,af,none⟩::rest) w:=fun a ha=>by
 unfold wpList
 rw[if_pos (by simp[Region.wanted])]
 refine .inl ?_
 unfold Oper.wp
 rw[hr a ha]
 exact k _ (ha.put hd)
theorem L.skip {op:Op} (hr:∀a,Sat n e a→(execOp a.eval ⟨none,op,ty,pos,af,none⟩).run P w=.ok .skip w')
  (k:L P ops Q n e rest w'):L P ops Q n e (⟨none,op,ty,pos,af,none⟩::rest) w:=fun a ha=>by
 unfold wpList
 rw[if_pos (by simp[Region.wanted])]
 refine .inl ?_
 unfold Oper.wp
 rw[hr a ha]
 exact k _ ha
theorem vm (hx:ev e x=some v) (ha:Sat n e a):
  (execOp a.eval ⟨some d,.move x,ty,pos,af,none⟩).run P w=.ok (.value (v)) w:=by simp only[execOp,ha.ev hx];rfl
theorem QT (hx:ev e x=some v) (ha:Sat n e a):
  (execOp a.eval ⟨some d,.assign x,ty,pos,af,none⟩).run P w=.ok (.value (v)) w:=by simp only[execOp,ha.ev hx];rfl
theorem yG {p:Addr} (hx:ev e x=some (.pointer (some p))) (ha:Sat n e a):
  (execOp a.eval ⟨some d,.nilCheck x,ty,pos,af,none⟩).run P w=.ok (.value (.pointer (some p))) w:=by simp only[execOp,ha.ev hx];rfl
theorem r_fld {s f:Nat} {fs:Array Field} {fd:Field} (hu:∀w,(underlying s).run P w=.ok (.struct fs) w) (hf:fs[f]? =some fd)
  (hsz:∀w,(sizeOf fd.type).run P w=.ok (sz+1) w) (hx:ev e x=some (.pointer (some ⟨b,o,none⟩))) (ha:Sat n e a):
  (execOp a.eval ⟨some d,.fieldAddr s x f,ty,pos,af,none⟩).run P w=.ok (.value (.pointer (some ⟨b,o+fd.offset,none⟩))) w:=by
  have hadd:Addr.add ⟨b,o,none⟩ fd.offset=⟨b,o+fd.offset,none⟩:=by
   unfold Addr.add
   split
   ·rename_i h;rw[h];rfl
   ·rfl
  (simp only[execOp,ha.ev hx];simp[Instr.fieldAt,hu,hf,Instr.sureAddr,fieldPlace,hsz,hadd])
theorem kP {t:Nat} (hag:∀w,(isAgg t).run P w=.ok false w) (hx:ev e x=some (.pointer (some ⟨b,o,none⟩))) (hv:w.cell? ⟨b,o,none⟩=some v) (ha:Sat n e a):
  (execOp a.eval ⟨some d,.load t x,ty,pos,af,none⟩).run P w=.ok (.value (v)) w:=by (simp only[execOp,ha.ev hx];simp[Instr.loadAt,Instr.sureAddr,loadVar,hag,hv])
theorem Km (w:World):∀(vs:List Value) (o i:Nat) (acc:Array Value),(∀j v,vs[j]? =some v→w.cell? ⟨b,o+(i+j),none⟩=some v)→
  (loadCellsFrom ⟨b,o,none⟩ i vs.length acc).run P w=.ok (acc++vs.toArray) w
 |[],o,i,acc,_=>by simp[loadCellsFrom]
 |v::vs,o,i,acc,h=>by
    have h0:w.cell? (Addr.add ⟨b,o,none⟩ i)=some v:=by
     have:=h 0 v rfl
     unfold Addr.add
     split
     ·rename_i hi;subst hi;simpa using this
     ·simpa using this
    simp only[List.length_cons,loadCellsFrom,Sem.run_bind,run_load,h0,Result.andThen_ok]
    rw[Km w vs o (i+1) (acc.push v) (fun j u hj=>by
     have:=h (j+1) u (by simpa using hj)
     rw[show o+(i+1+j)=o+(i+(j+1)) by omega];exact this)]
    simp
theorem vX (w:World) (vs:List Value) (o:Nat) (h:∀j v,vs[j]? =some v→w.cell? ⟨b,o+j,none⟩=some v):
  (loadCells ⟨b,o,none⟩ vs.length).run P w=.ok vs.toArray w:=by
 unfold loadCells
 rw[Km w vs o 0 #[] (fun j v hj=>by simpa using h j v hj)]
 simp
theorem kD {t:Nat} (hag:∀w,(isAgg t).run P w=.ok true w) (hsz:∀w,(sizeOf t).run P w=.ok m w) (hx:ev e x=some (.pointer (some ⟨b,o,none⟩)))
  (hm:Nat.beq vs.length m=true) (hv:∀j v,vs[j]? =some v→w.cell? ⟨b,o+j,none⟩=some v) (ha:Sat n e a):
  (execOp a.eval ⟨some d,.load t x,ty,pos,af,none⟩).run P w=.ok (.value (.agg vs.toArray)) w:=by
  have hm':=Nat.eq_of_beq_eq_true hm
  subst hm'
  (simp only[execOp,ha.ev hx];simp[Instr.loadAt,Instr.sureAddr,loadVar,hag,hsz,vX w vs o hv])
theorem Blk.cells (h:Blk w b T cs):∀j v,cs[j]? =some v→w.cell? ⟨b,0+j,none⟩=some v:=fun j v hj=>by rw[Nat.zero_add,h.cell];exact hj
theorem Blk.mid (h:Blk w b T cs) (o m:Nat):∀j v,((cs.drop o).take m)[j]? =some v→w.cell? ⟨b,o+j,none⟩=some v:=fun j v hj=>by
 rw[h.cell]
 rw[List.getElem?_take]at hj
 split at hj
 ·rw[List.getElem?_drop]at hj;exact hj
 ·exact absurd hj zp
theorem YW (t:Nat) (v:Value) (w:World):(newVar t v).run P w=.ok ⟨w.heap.size,0,none⟩ { w with heap:=w.heap.push (.cells v.cells t) }:=by
 simp[newVar,newRow,newObj,Sem.run]
theorem o_box {t:Nat} (hx:ev e x=some v) (hd:Nat.blt d n=true)
  (k:∀w' b,New w w' b (.cells v.cells t (0,0))→L P ops Q n ((d,.pointer (some ⟨b,0,none⟩))::e) rest w'):L P ops Q n e (⟨some d,.box t x,ty,pos,af,none⟩::rest) w:=
 L.valw hd (fun a ha=>by simp only[execOp,ha.ev hx,Instr.box];simp[YW]) (k { w with heap:=w.heap.push (.cells v.cells t) } w.heap.size ⟨rfl,rfl,rfl,rfl,rfl⟩)
theorem qiT {t:Nat} {z:Value} (hz:∀w,(zeroValue t).run P w=.ok z w) (hd:Nat.blt d n=true)
  (k:∀w' b,New w w' b (.cells z.cells t (0,0))→L P ops Q n ((d,.pointer (some ⟨b,0,none⟩))::e) rest w'):L P ops Q n e (⟨some d,.alloc t,ty,pos,af,none⟩::rest) w:=
 L.valw hd (fun a ha=>by simp only[execOp,Instr.alloc];simp[hz,YW]) (k { w with heap:=w.heap.push (.cells z.cells t) } w.heap.size ⟨rfl,rfl,rfl,rfl,rfl⟩)
def kH (cs:List Value) (o:Nat):List Value→List Value
 |[]=>cs
 |v::vs=>kH (cs.set o v) (o+1) vs
theorem yi:∀(vs cs:List Value) (o:Nat),(kH cs o vs).length=cs.length
 |[],_,_=>rfl
 |v::vs,cs,o=>by rw[kH,yi vs];simp
theorem zG:∀(vs:List Value) (w:World) (cs:List Value) (o i:Nat),Blk w b T cs→o+(i+vs.length)≤cs.length→vs.all scal=true→
  ∃w',(storeCells ⟨b,o,none⟩ vs i).run P w=.ok () w'∧Upd w w' b (.cells (kH cs (o+i) vs).toArray T (0,0))
 |[],w,cs,o,i,hb,_,_=>⟨w,by simp[storeCells],⟨rfl,rfl,rfl,rfl,hb,fun _ _=>rfl⟩⟩
 |v::vs,w,cs,o,i,hb,hl,hs=>by
    simp only[List.length_cons]at hl
    simp only[List.all_cons,Bool.and_eq_true]at hs
    have hadd:Addr.add ⟨b,o,none⟩ i=⟨b,o+i,none⟩:=by
     unfold Addr.add
     split
     ·rename_i hi;subst hi;rfl
     ·rfl
    have hcell:w.cell? ⟨b,o+i,none⟩=some cs[o+i]:=by rw[hb.cell];simp[show o+i<cs.length by omega]
    have hfr:=hb.frozen (o+i)
    let w1:=w.setCell ⟨b,o+i,none⟩ v
    have h1:Upd w w1 b (.cells (cs.set (o+i) v).toArray T (0,0)):=by
     refine ⟨rfl,rfl,rfl,by simp[w1,World.setCell],?_,?_⟩
     ·simp only[w1,World.setCell,Array.getElem?_modify,if_true]
      rw[show w.heap[b]? =some (.cells cs.toArray T (0,0)) from hb]
      simp
     ·intro c hc
      simp only[w1,World.setCell,Array.getElem?_modify]
      rw[if_neg ox]
    obtain ⟨w2,hr,h2⟩:=zG vs w1 (cs.set (o+i) v) o (i+1) h1.at_ (by simp;omega) hs.2
    refine ⟨w2,?_,?_⟩
    ·have hst:∀k:Sem Unit,(Sem.store .plain ⟨b,o+i,none⟩ v k).run P w=k.run P w1:=fun k=>by
      cases v<;>simp_all [Sem.run,scal,w1]
     simp only[storeCells,store,hadd,Sem.run_bind,hst,Sem.run_pure',Result.andThen_ok]
     exact hr
    ·refine ⟨h2.os.trans h1.os,h2.tape.trans h1.tape,h2.output.trans h1.output,h2.size.trans h1.size,?_,fun c hc=>(h2.rest c hc).trans (h1.rest c hc)⟩
     rw[h2.at_]
     rfl
theorem qiS {t:Nat} {y:Operand} (hsz:∀w,(sizeOf t).run P w=.ok m w) (hx:ev e x=some (.pointer (some ⟨b,o,none⟩))) (hy:ev e y=some v)
  (hb:Blk w b T cs) (hm:Nat.beq v.cells.size m=true) (hs:v.cells.toList.all scal=true) (hl:Nat.ble (o+v.cells.size) cs.length=true)
  (k:∀w',Upd w w' b (.cells (kH cs o v.cells.toList).toArray T (0,0))→L P ops Q n e rest w'):L P ops Q n e (⟨none,.store t x y,ty,pos,af,none⟩::rest) w:=by
 have hl':o+v.cells.size≤cs.length:=by simpa using hl
 have hm':=Nat.eq_of_beq_eq_true hm
 obtain ⟨w',hr,hu⟩:=zG (P:=P) v.cells.toList w cs o 0 hb (by simpa using hl') hs
 refine L.skip (w':=w') (fun a ha=>?_) (k w' (by simpa using hu))
 (simp only[execOp,ha.ev hx,ha.ev hy];simp[Instr.storeAt,Instr.sureAddr,storeVar,hsz,hm',hr])
theorem Yj {t:Nat} {y:Operand} {p:Int} (hx:ev e x=some (.int kd p)) (hy:ev e y=some (.int kd q)) (ha:Sat n e a):
  (execOp a.eval ⟨some d,.binOp .add t x y t',ty,pos,af,none⟩).run P w=.ok (.value (.int kd (kd.wrap (p+q)))) w:=by (simp only[execOp,ha.ev hx,ha.ev hy];simp[eqGuard,binOp,Op.intArith])
theorem QQ {t:Nat} {y:Operand} {p:Int} (hx:ev e x=some (.int kd p)) (hy:ev e y=some (.int kd q)) (ha:Sat n e a):
  (execOp a.eval ⟨some d,.binOp .sub t x y t',ty,pos,af,none⟩).run P w=.ok (.value (.int kd (kd.wrap (p - q)))) w:=by (simp only[execOp,ha.ev hx,ha.ev hy];simp[eqGuard,binOp,Op.intArith])
theorem r_lss {t:Nat} {y:Operand} {p:Int} (hx:ev e x=some (.int kd p)) (hy:ev e y=some (.int kd q)) (ha:Sat n e a):
  (execOp a.eval ⟨some d,.binOp .lss t x y t',ty,pos,af,none⟩).run P w=.ok (.value (.bool (decide (p<q)))) w:=by (simp only[execOp,ha.ev hx,ha.ev hy];simp[eqGuard,binOp,Op.intCmp])
theorem Xh {t:Nat} {y:Operand} {p:Int} (hx:ev e x=some (.int kd p)) (hy:ev e y=some (.int kd q)) (ha:Sat n e a):
  (execOp a.eval ⟨some d,.binOp .leq t x y t',ty,pos,af,none⟩).run P w=.ok (.value (.bool (decide (p≤q)))) w:=by (simp only[execOp,ha.ev hx,ha.ev hy];simp[eqGuard,binOp,Op.intCmp])
theorem Yi {t:Nat} {y:Operand} {p:Int} (hx:ev e x=some (.int kd p)) (hy:ev e y=some (.int kd q)) (ha:Sat n e a):
  (execOp a.eval ⟨some d,.binOp .gtr t x y t',ty,pos,af,none⟩).run P w=.ok (.value (.bool (decide (q<p)))) w:=by (simp only[execOp,ha.ev hx,ha.ev hy];simp[eqGuard,binOp,Op.intCmp])
theorem Jl {t:Nat} {y:Operand} {p:Int} (hx:ev e x=some (.int kd p)) (hy:ev e y=some (.int kd q)) (ha:Sat n e a):
  (execOp a.eval ⟨some d,.binOp .geq t x y t',ty,pos,af,none⟩).run P w=.ok (.value (.bool (decide (q≤p)))) w:=by (simp only[execOp,ha.ev hx,ha.ev hy];simp[eqGuard,binOp,Op.intCmp])
theorem qcg {t:Nat} {y:Operand} {p:Int} (hx:ev e x=some (.int kd p)) (hy:ev e y=some (.int kd q)) (ha:Sat n e a):
  (execOp a.eval ⟨some d,.binOp .eql t x y t',ty,pos,af,none⟩).run P w=.ok (.value (.bool (decide (p=q)))) w:=by
  have:(p==q)=decide (p=q):=by rw[Bool.eq_iff_iff];simp
  (simp only[execOp,ha.ev hx,ha.ev hy];simp[eqGuard,binOp,Op.intCmp,this])
theorem yQ {t:Nat} {y:Operand} {p:Int} (hx:ev e x=some (.int kd p)) (hy:ev e y=some (.int kd q)) (ha:Sat n e a):
  (execOp a.eval ⟨some d,.binOp .neq t x y t',ty,pos,af,none⟩).run P w=.ok (.value (.bool (decide (p≠q)))) w:=by
  have:(p !=q)=decide (p≠q):=by rw[Bool.eq_iff_iff];simp
  (simp only[execOp,ha.ev hx,ha.ev hy];simp[eqGuard,binOp,Op.intCmp,this])
theorem qeH (x y:ByteArray):(x.toList==y.toList)=decide (x=y):=by
 rw[ByteArray.toList_eq,ByteArray.toList_eq,Bool.eq_iff_iff]
 simp only[beq_iff_eq,decide_eq_true_eq]
 constructor
 ·intro h
  cases x;cases y
  simpa using h
 ·rintro rfl;rfl
theorem Qg {t:Nat} {y:Operand} {p q:ByteArray} (hx:ev e x=some (.string p)) (hy:ev e y=some (.string q)) (ha:Sat n e a):
  (execOp a.eval ⟨some d,.binOp .eql t x y t',ty,pos,af,none⟩).run P w=.ok (.value (.bool (decide (p=q)))) w:=by (simp only[execOp,ha.ev hx,ha.ev hy];simp[eqGuard,binOp,Op.stringOp,qeH])
theorem qgJ {t:Nat} {y:Operand} {p q:ByteArray} (hx:ev e x=some (.string p)) (hy:ev e y=some (.string q)) (ha:Sat n e a):
  (execOp a.eval ⟨some d,.binOp .neq t x y t',ty,pos,af,none⟩).run P w=.ok (.value (.bool (decide (p≠q)))) w:=by (simp only[execOp,ha.ev hx,ha.ev hy];simp[eqGuard,binOp,Op.stringOp,qeH])
theorem qaj {t:Nat} {b:Bool} (hx:ev e x=some (.bool b)) (ha:Sat n e a):
  (execOp a.eval ⟨some d,.unOp .not t x,ty,pos,af,none⟩).run P w=.ok (.value (.bool (!b))) w:=by (simp only[execOp,ha.ev hx];simp[Op.unary])
theorem qt (hx:ev e x=some (.tuple vs.toArray)) (hv:vs[i]? =some v) (ha:Sat n e a):
  (execOp a.eval ⟨some d,.extract x i,ty,pos,af,none⟩).run P w=.ok (.value (v)) w:=by (simp only[execOp,ha.ev hx];simp[Instr.extract,hv])
theorem JY {t:Nat} (hu:∀w,(underlying t).run P w=.ok (.slice elem) w) (hx:ev e x=some (.slice p l c)) (ha:Sat n e a):
  (execOp a.eval ⟨some d,.call ⟨.builtin .len, #[x], #[t]⟩,ty,pos,af,none⟩).run P w=.ok (.value (.int .i64 l)) w:=by (simp only[execOp];simp[resolve,invoke,builtin,Builtin.len_,hu,goInt,ha.ev hx])
theorem zI {t:Nat} {s:ByteArray} (hu:∀w,(underlying t).run P w=.ok .string w) (hx:ev e x=some (.string s)) (ha:Sat n e a):
  (execOp a.eval ⟨some d,.call ⟨.builtin .len, #[x], #[t]⟩,ty,pos,af,none⟩).run P w=.ok (.value (.int .i64 s.size)) w:=by (simp only[execOp];simp[resolve,invoke,builtin,Builtin.len_,hu,goInt,ha.ev hx])
theorem vH {t:Nat} {y:Operand} (hu:∀w,(underlying t).run P w=.ok (.slice elem) w) (hsz:∀w,(sizeOf elem).run P w=.ok sz w)
  (hx:ev e x=some (.slice (some ⟨b,o,none⟩) l c)) (hy:ev e y=some (.int kd i)) (hi:i<l) (ha:Sat n e a):
  (execOp a.eval ⟨some d,.indexAddr t x y,ty,pos,af,none⟩).run P w=.ok (.value (.pointer (some ⟨b,o+i*sz,none⟩))) w:=by
  have hadd:Addr.add ⟨b,o,none⟩ (i*sz)=⟨b,o+i*sz,none⟩:=by
   unfold Addr.add
   split
   ·rename_i h;rw[h];rfl
   ·rfl
  (simp only[execOp,ha.ev hx,ha.ev hy];simp[Instr.indexAt,asIntOf,hu,hsz,hi,hadd])
theorem qO {s t:Nat} {kd':IntKind} {p:Int} {ds:TypeDesc} (hs:∀w,(underlying s).run P w=.ok ds w) (ht:∀w,(underlying t).run P w=.ok (.int kd') w)
  (hx:ev e x=some (.int kd p)) (ha:Sat n e a):
  (execOp a.eval ⟨some d,.convert s t x,ty,pos,af,none⟩).run P w=.ok (.value (.int kd' (kd'.wrap p))) w:=by (simp only[execOp,ha.ev hx];simp[convert,hs,ht,Conv.intToInt])
theorem qlk {f:FuncId} {args:Array Operand} {tys:Array TypeId} {R:Value→World→Prop} (hf:∀(az:Array Value) (w:World),(callFunc f az).run P w=.ok (.enter f az) w)
  (hargs:args.toList.map (ev e)=vs.map some) (hc:Calls P f vs.toArray w (Ret R)) (hd:Nat.blt d n=true)
  (k:∀v w',R v w'→L P ops Q n ((d,v)::e) rest w'):L P ops Q n e (⟨some d,.call ⟨.value (.func f),args,tys⟩,ty,pos,af,none⟩::rest) w:=fun a ha=>by
 have hmap:args.map a.eval=vs.toArray:=by
  apply Array.toList_inj.1
  rw[Array.toList_map]
  have:∀(xs:List Operand) (vs:List Value),xs.map (ev e)=vs.map some→xs.map a.eval=vs:=by
   intro xs
   induction xs with
   |nil=>intro vs h;cases vs<;>simp_all
   |cons x xs ih=>
    intro vs h
    cases vs with
    |nil=>simp at h
    |cons v vs=>
     simp only[List.map_cons,List.cons.injEq]at h
     simp[ha.ev h.1,ih vs h.2]
  simpa using this _ _ hargs
 unfold wpList
 rw[if_pos (by simp[Region.wanted])]
 refine .inl ?_
 have hrun:(execOp a.eval ⟨some d,.call ⟨.value (.func f),args,tys⟩,ty,pos,af,none⟩).run P w=.ok (.enter f vs.toArray) w:=by
  simp only[execOp,resolve,hmap,Act.eval,Deferred.ofValue]
  simp[invoke,hf]
 unfold Oper.wp
 rw[hrun]
 refine Calls.mono hc fun e w' he=>?_
 cases e with
 |returned v=>exact k v w' he _ (ha.put hd)
 |panicked c=>exact he.elim
 |outgrown=>exact he.elim
end
section
variable {P:Program} {ops:Array Oper} {Q:Exit→Act→World→Prop} {S:World→Prop} {nt:Nat}
def wpG (P:Program) (ops:Array Oper) (Q:Exit→Act→World→Prop) (S:World→Prop) (nt:Nat):Nat→Array Bool→Act→World→Prop
 |0,listed,a,w=>Region.ready .any ops listed=[]∧Q .normal a w
 |fuel+1,listed,a,w=>
  (Region.ready .any ops listed=[]→Q .normal a w)∧
  ∀i∈Region.ready .any ops listed,wpOp P ops Q i (fun a' w'=>(i<nt→S w')∧wpG P ops Q S nt fuel (listed.setIfInBounds i true) a' w') a w
theorem qaL:∀(fuel:Nat) (listed:Array Bool) (a:Act) (w:World),wpG P ops Q S nt fuel listed a w→wpAny P .any ops Q fuel listed a w
 |0,_,_,_,h=>h
 |fuel+1,_,_,_,h=>⟨h.1,fun i hi=>wpOp_mono (fun a' w' h'=>qaL fuel _ a' w' h'.2) (h.2 i hi)⟩
structure Clo (ops:Array Oper) (listed:Array Bool):Prop where
 size:listed.size=ops.size
 closed:∀j oj,ops[j]? =some oj→listed.getD j false=true→∀e∈oj.after,Region.binds .any e=true→listed.getD e.on false=true
theorem Clo.set {listed:Array Bool} (inv:Clo ops listed) (hi:i∈Region.ready .any ops listed):Clo ops (listed.setIfInBounds i true):=by
 obtain ⟨_,oi,hoi,hall⟩:=mem_ready.1 hi
 refine ⟨by simp[inv.size],fun j oj hj hl e he hb=>?_⟩
 by_cases hij:i=j
 ·subst hij
  have:oj=oi:=Option.some.inj (hj.symm.trans hoi)
  subst this
  exact getD_set_true (hall e he hb)
 ·rw[getD_set_ne false hij]at hl
  exact getD_set_true (inv.closed j oj hj hl e he hb)
def YQ (ops:Array Oper) (nt:Nat):Bool:=Nat.ble ops.size nt||(Region.sinkB .any ops nt&&Region.chainB .any ops nt&&Nat.blt nt ops.size)
theorem qdt {listed:Array Bool} (ht:YQ ops nt=true) (inv:Clo ops listed) (htail:∀t,nt≤t→t<ops.size→listed.getD t true=false) (hi:i<nt) (hir:i∈Region.ready .any ops listed)
  (hj:j∈Region.ready .any ops listed):j<nt:=by
 have hjs:j<ops.size:=by
  obtain ⟨_,o,ho,_⟩:=mem_ready.1 hj
  exact (Array.getElem?_eq_some_iff.1 ho).1
 simp only[YQ,Bool.or_eq_true,Bool.and_eq_true,Nat.ble_eq,Nat.blt_eq]at ht
 rcases ht with ht|⟨⟨h1,h2⟩,h3⟩
 ·omega
 ·rcases Nat.lt_or_ge j nt with h|h
  ·exact h
  ·exact absurd hj (tail_waits h1 h2 h3 ⟨inv.size,inv.closed,htail⟩ _ i rfl hi (mem_ready.1 hir).1 j h)
theorem ZZ {oi:Oper} (hi:ops[i]? =some oi) (hsel:∀(j:Nat) (o:Oper) cs b,ops[j]? =some o→o.op≠ .select cs b)
  (hQ:∀c a w,Q (.panic c) (a.put oi.dst v) w→Q (.panic c) a w) (ht:YQ ops nt=true) (hin:i<nt):
  ∀(fuel:Nat) (listed:Array Bool) (a:Act) (w:World),Clo ops listed→(∀t,nt≤t→t<ops.size→listed.getD t true=false)→
   (∀j oj,ops[j]? =some oj→j≠i→listed.getD j true=false→(∀e∈oj.after,Region.binds .any e=true→e.on≠i)→oi.apart ops oj=true)→
   i∈Region.ready .any ops listed→YieldsIf P ops S oi v a→S w→
   wpG P ops Q S nt fuel (listed.setIfInBounds i true) (a.put oi.dst v) w→wpG P ops Q S nt (fuel+1) listed a w:=by
 intro fuel
 induction fuel with
 |zero=>
  intro listed a w _ _ _ hr hy hS H
  refine ⟨fun h=>(by rw[h]at hr;cases hr),fun j hj=>?_⟩
  by_cases hji:j=i
  ·subst hji;exact hy.wpOp hi hS ⟨fun _=>hS,H⟩
  ·have:=ready_mono hj hji
   rw[H.1]at this
   cases this
 |succ fuel ih=>
  intro listed a w inv htl hfree hr hy hS H
  refine ⟨fun h=>(by rw[h]at hr;cases hr),fun j hj=>?_⟩
  by_cases hji:j=i
  ·subst hji;exact hy.wpOp hi hS ⟨fun _=>hS,H⟩
  ·have hjn:j<nt:=qdt ht inv htl hin hr hj
   have h1:=H.2 j (ready_mono hj hji)
   obtain ⟨hjun,oj,hoj,hall⟩:=mem_ready.1 hj
   have hnot:∀e∈oj.after,Region.binds .any e=true→e.on≠i:=fun e he hb heq=>by
     have h1:=hall e he hb
     have h0:=(mem_ready.1 hr).1
     rw[heq]at h1
     rcases Nat.lt_or_ge i listed.size with h'|h'
     ·simp[h']at h0 h1;rw[h0]at h1;cases h1
     ·simp[Array.getElem?_eq_none h']at h1
   have h2:=wpOp_putIf hoj (hfree j oj hoj hji hjun hnot) (fun cs b=>hsel i oi cs b hi) (fun cs b=>hsel j oj cs b hoj) hQ hy h1
   have hfree':∀k ok,ops[k]? =some ok→k≠i→(listed.setIfInBounds j true).getD k true=false→
     (∀e∈ok.after,Region.binds .any e=true→e.on≠i)→oi.apart ops ok=true:=fun k ok hk hki hun hno=>by
     refine hfree k ok hk hki ?_ hno
     by_cases hjk:j=k
     ·subst hjk;exact hjun
     ·rw[getD_set_ne true hjk]at hun;exact hun
   have htl':∀t,nt≤t→t<ops.size→(listed.setIfInBounds j true).getD t true=false:=fun t h1 h2=>by
     rw[getD_set_ne true ox];exact htl t h1 h2
   refine wpOp_mono (fun a' w' h3=>⟨h3.2.1,ih (listed.setIfInBounds j true) a' w' (inv.set hj) htl' hfree' (ready_mono hr (Ne.symm hji)) h3.1 (h3.2.1 hjn) ?_⟩) h2
   rw[Array.setIfInBounds_comm _ _ hji]
   exact h3.2.2
abbrev xr:=List (Nat×Bool)
def goB (ops:Array Oper) (nt:Nat):Array Bool→xr→Bool
 |listed,[]=>(Region.ready .any ops listed).isEmpty
 |listed,(i,true)::r=>Nat.blt i nt&&(Region.ready .any ops listed).contains i&&Region.free .any ops listed i
  &&(List.range ops.size).all (fun t=>Nat.blt t nt|| !listed.getD t true)&&goB ops nt (listed.setIfInBounds i true) r
 |listed,(i,false)::r=>(match Region.ready .any ops listed with|[j]=>Nat.beq j i|_=>false)&&goB ops nt (listed.setIfInBounds i true) r
def YU (ops:Array Oper) (nt:Nat) (s:xr):Bool:=YQ ops nt&&Region.noSelect ops&&Nat.beq s.length ops.size&&goB ops nt (Array.replicate ops.size false) s
def wpS (P:Program) (ops:Array Oper) (Q:Exit→Act→World→Prop) (S:World→Prop) (nt:Nat):xr→Act→World→Prop
 |[],a,w=>Q .normal a w
 |(i,true)::r,a,w=>∃o v,ops[i]? =some o∧YieldsIf P ops S o v a∧S w∧wpS P ops Q S nt r (a.put o.dst v) w
 |(i,false)::r,a,w=>wpOp P ops Q i (fun a' w'=>(i<nt→S w')∧wpS P ops Q S nt r a' w') a w
theorem YN (ht:YQ ops nt=true) (hsel:Region.noSelect ops=true) (hQ:∀c a a' w,Q (.panic c) a w→Q (.panic c) a' w):
  ∀(s:xr) (listed:Array Bool) (a:Act) (w:World),Clo ops listed→goB ops nt listed s=true→wpS P ops Q S nt s a w→wpG P ops Q S nt s.length listed a w:=by
 intro s
 induction s with
 |nil=>
  intro listed a w _ hg h
  exact ⟨by simpa[goB]using hg,h⟩
 |cons p r ih=>
  obtain ⟨i,t⟩:=p
  intro listed a w inv hg h
  cases t with
  |true=>
   simp only[goB,Bool.and_eq_true,Nat.blt_eq]at hg
   obtain ⟨⟨⟨⟨h1,h2⟩,h3⟩,h4⟩,h5⟩:=hg
   obtain ⟨o,v,ho,hy,hS,hrest⟩:=h
   have hmem:i∈Region.ready .any ops listed:=by simpa using h2
   refine ZZ ho (Region.noSelect_spec hsel) (fun c a w hq=>hQ c _ _ w hq) ht h1 r.length listed a w inv ?_ (Region.free_spec ho h3) hmem hy hS ?_
   ·intro t h6 h7
    have:=List.all_eq_true.1 h4 t (List.mem_range.2 h7)
    simp only[Bool.or_eq_true,Nat.blt_eq,Bool.not_eq_true']at this
    rcases this with h8|h8
    ·omega
    ·exact h8
   ·exact ih _ _ _ (inv.set hmem) h5 hrest
  |false=>
   simp only[goB,Bool.and_eq_true]at hg
   obtain ⟨h1,h2⟩:=hg
   have hrd:Region.ready .any ops listed=[i]:=by
      split at h1
      ·rename_i j hj
       rw[hj,Nat.eq_of_beq_eq_true h1]
      ·exact absurd h1 zp
   refine ⟨fun h0=>(by rw[hrd]at h0;cases h0),fun j hj=>?_⟩
   rw[hrd]at hj
   simp at hj
   subst hj
   exact wpOp_mono (fun a' w' h3=>⟨h3.1,ih _ _ _ (inv.set (by rw[hrd];simp)) h2 h3.2⟩) h
structure Dr (w w1:World):Prop where
 os:w1.os=w.os
 tape:w1.tape=w.tape
 output:w1.output=w.output
 heap:w1.heap=w.heap
theorem Dr.fr (h:Dr w w1) (B:Nat) (W:List Nat):Fr B W w w1:=⟨h.os,h.tape,h.output,by rw[h.heap];exact Nat.le_refl _,fun b o hb _=>by rw[h.heap];exact hb⟩
theorem Dr.blk (h:Dr w w1) (hb:Blk w b T cs):Blk w1 b T cs:=by unfold Blk;rw[h.heap];exact hb
theorem Fr.dr (hf:Fr B W w0 w) (h:Dr w w1):Fr B W w0 w1:=hf.trans (h.fr B W) (.inr ⟨Nat.le_refl _,fun _ hx=>hx⟩)
def DS (P:Program) (ops:Array Oper) (Q:Exit→Act→World→Prop) (S:World→Prop) (nt:Nat) (n:Nat) (e:Env) (s:xr) (w:World):Prop:=∀a,Sat n e a→wpS P ops Q S nt s a w
def NoP (Q:Exit→Act→World→Prop):Exit→Act→World→Prop
 | .panic _,_,_=>False
 |x,a,w=>Q x a w
variable {n:Nat} {e:Env} {w:World}
theorem qif {id:Nat} {l:List Oper} (nt:Nat) (s:xr) (hm:P.follows .mixedOrders=true) (hs:YU l.toArray nt s=true)
  (h:∀w1,Dr w w1→∃S:World→Prop,DS P l.toArray (NoP Q) S nt n e s w1):C P (.region id l.toArray true) Q n e w:=fun a ha=>by
 simp only[YU,Bool.and_eq_true]at hs
 obtain ⟨⟨⟨h1,h2⟩,h3⟩,h4⟩:=hs
 obtain ⟨S,hS⟩:=h { w with drawn:=w.drawn+1 } ⟨rfl,rfl,rfl,rfl⟩
 have h5:(Code.region id l.toArray true).wp P (NoP Q) a w:=by
  have h6:=YN (P:=P) (Q:=NoP Q) h1 h2 (fun _ _ _ _ hq=>hq) s _ a _ ⟨by simp,by
   intro j oj _ hl
   rw[getD_replicate_false]at hl
   cases hl⟩ h4 (hS a ha)
  rw[Nat.eq_of_beq_eq_true h3]at h6
  exact wp_region_any hm (qaL _ _ _ _ h6)
 exact Code.wp_mono (fun x a w hq=>by cases x<;>first|exact hq|exact hq.elim) h5
theorem YJ {d ty:Nat} {op:Op} {pos:String} {af:Array Edge} {r:xr} (hi:ops[i]? =some ⟨some d,op,ty,pos,af,none⟩) (hd:Nat.blt d n=true)
  (hr:∀a w,Sat n e a→S w→(execOp a.eval ⟨some d,op,ty,pos,af,none⟩).run P w=.ok (.value v) w) (hS:S w) (k:DS P ops Q S nt n ((d,v)::e) r w):DS P ops Q S nt n e ((i,true)::r) w:=fun a ha=>
 ⟨_,v,hi,.inl ⟨by simp[Region.wanted],fun w hw=>hr a w ha hw⟩,hS,k _ (ha.put hd)⟩
theorem qkw {o:Oper} {r:xr} (hi:ops[i]? =some o)
  (h:∀K:Act→World→Prop,(∀e w,(i<nt→S w)→DS P ops Q S nt n e r w→N K n e w)→L P ops (Exit.then K Q) n e [o] w):DS P ops Q S nt n e ((i,false)::r) w:=fun a ha=>by
 have h1:=h (fun a w=>(i<nt→S w)∧wpS P ops Q S nt r a w) (fun e w h2 h3 a ha=>⟨h2,h3 a ha⟩) a ha
 unfold wpS wpOp
 simp only[hi]
 simp only[wpList]at h1
 split
 ·rename_i hw
  rw[if_pos hw]at h1
  rcases h1 with h1|⟨h1,h2⟩
  ·left
   unfold Oper.wp at h1⊢
   generalize (execOp a.eval o).run P w=x at h1⊢
   cases x with
   |ok nx w'=>
    cases nx<;>simp only[Oper.upon]at h1⊢ <;>first
      |exact h1
      |exact Calls.mono h1 (fun x w'' hx=>by cases x<;>first|exact hx|(obtain ⟨a,w,hq⟩:=hx;exact ⟨a,w,hq⟩))
      |exact Rows.mono h1 (fun _ _ hx=>hx)
   |halt y w'=>cases y<;>simp only[Oper.upon]at h1⊢ <;>exact h1
  ·right
   obtain ⟨a',w',hq⟩:=h2
   exact ⟨h1,a',w',hq⟩
 ·rename_i hw
  rw[if_neg hw]at h1
  exact h1
end
structure Ent where
 b:Nat
 T:Nat
 cs:List Value
 wr:Bool
 on:Bool:=true
 ob:Option Obj:=none
abbrev ko:=List Ent
structure Fm where
 ws:World
 B:Nat
 W:List Nat
def Fm.ok (f:Fm) (w:World):Prop:=Fr f.B f.W f.ws w
def Fm.may (f:Fm) (b T:Nat):Prop:=f.ws.heap.size≤b∨(f.B≤b∧T∈f.W)
def Obj.isRow:Obj→Bool
 | .cells _ _ _=>true
 |_=>false
def Ent.ex (x:Ent):Bool:=x.on||x.ob.isSome
def Ent.tag (x:Ent):Nat:=match x.ob with|some o=>KE o|none=>x.T
structure Ent.has (x:Ent) (w:World):Prop where
 row:x.on=true→Blk w x.b x.T x.cs
 obj:∀o,x.ob=some o→w.heap[x.b]? =some o
theorem Ent.has.lt {x:Ent} (h:x.has w) (he:x.ex=true):x.b<w.heap.size:=by
 simp only[Ent.ex,Bool.or_eq_true]at he
 rcases he with he|he
 ·exact (h.row he).lt
 ·obtain ⟨o,ho⟩:=Option.isSome_iff_exists.1 he
  exact (Array.getElem?_eq_some_iff.1 (h.obj o ho)).1
def Hp (f:Fm) (w:World):ko→Prop
 |[]=>True
 |x::r=>x.has w∧(x.ex=true→x.wr=true→f.may x.b x.tag)∧(x.ex=true→∀y∈r,y.ex=true→y.b≠x.b)∧Hp f w r
theorem Hp.has {f:Fm}:∀{H:ko},Hp f w H→∀{x:Ent},x∈H→x.has w
 |y::r,h,x,hx=>by
    rcases mC hx with rfl|hx
    ·exact h.1
    ·exact Hp.has h.2.2.2 hx
theorem Hp.blk {f:Fm} {H:ko} (h:Hp f w H) {x:Ent} (hx:x∈H) (ho:x.on=true):Blk w x.b x.T x.cs:=(h.has hx).row ho
theorem Hp.mayx {f:Fm}:∀{H:ko},Hp f w H→∀{x:Ent},x∈H→x.ex=true→x.wr=true→f.may x.b x.tag
 |y::r,h,x,hx=>by
    rcases mC hx with rfl|hx
    ·exact h.2.1
    ·exact Hp.mayx h.2.2.2 hx
theorem Hp.may {f:Fm} {H:ko} (h:Hp f w H) {x:Ent} (hx:x∈H) (ho:x.on=true) (hw:x.wr=true):f.may x.b x.T:=by
 have h1:=h.mayx hx (by simp[Ent.ex,ho]) hw
 have h2:x.tag=x.T:=by
  unfold Ent.tag
  split
  ·rename_i o hob
   have h3:=(h.has hx).obj o hob
   have h4:w.heap[x.b]? =some (.cells x.cs.toArray x.T (0,0)):=h.blk hx ho
   rw[h4]at h3
   injection h3 with h3
   rw[← h3];rfl
  ·rfl
 rw[h2]at h1
 exact h1
theorem Hp.get {f:Fm} {H:ko} (h:Hp f w H) {x:Ent} (hx:H[i]? =some x) (ho:x.on=true):Blk w x.b x.T x.cs:=h.blk (mG hx) ho
theorem Hp.obj {f:Fm} {H:ko} (h:Hp f w H) {x:Ent} {o:Obj} (hx:H[i]? =some x) (ho:x.ob=some o):w.heap[x.b]? =some o:=(h.has (mG hx)).obj o ho
theorem Hp.mono {f:Fm}:∀{H:ko},Hp f w H→(∀x∈H,x.ex=true→∀o:Obj,w.heap[x.b]? =some o→w'.heap[x.b]? =some o)→Hp f w' H
 |[],_,_=>trivial
 |x::r,h,hk=>⟨⟨fun ho=>hk x zp (by simp[Ent.ex,ho]) _ (h.1.row ho),fun o ho=>hk x zp (by simp[Ent.ex,ho]) _ (h.1.obj o ho)⟩,h.2.1,h.2.2.1,Hp.mono h.2.2.2 fun y hy=>hk y (by simp[hy])⟩
theorem New.keepO {o:Obj} (h:New w w' b o) {o1:Obj} (hc:w.heap[c]? =some o1):w'.heap[c]? =some o1:=(h.fr 0 []).keep c o1 hc (.inr zp)
theorem New.keepB {o:Obj} (h:New w w' b o) (hc:Blk w c T cs):Blk w' c T cs:=(h.fr 0 []).blk hc (.inr zp)
theorem Hp.new {f:Fm} {H:ko} {cs:Array Value} (h:Hp f w H) (hf:f.ok w) (hn:New w w' b (.cells cs T (0,0))):Hp f w' (⟨b,T,cs.toList,true,true,none⟩::H):=by
 refine ⟨⟨fun _=>hn.blk,fun o ho=>by simp at ho⟩,fun _ _=>.inl ?_,?_,h.mono fun x _ _ o hx=>hn.keepO hx⟩
 ·have:=hf.size
  rw[hn.num];exact this
 ·intro _ y hy ho
  have:=(h.has hy).lt ho
  have:=hn.num
  simp only
  omega
theorem Hp.newO {f:Fm} {H:ko} {o:Obj} (h:Hp f w H) (hf:f.ok w) (hn:New w w' b o):Hp f w' (⟨b,0,[],true,false,some o⟩::H):=by
 refine ⟨⟨fun ho=>by simp at ho,fun o' ho=>by simp at ho;subst ho;exact hn.at⟩,fun _ _=>.inl ?_,?_,h.mono fun x _ _ o hx=>hn.keepO hx⟩
 ·have:=hf.size
  rw[hn.num];exact this
 ·intro _ y hy ho
  have:=(h.has hy).lt ho
  have:=hn.num
  simp only
  omega
theorem Fm.ok.new {f:Fm} {o:Obj} (hf:f.ok w) (hn:New w w' b o):f.ok w':=Fr.new hf hn
def qbQ:ko→Nat→List Value→ko
 |[],_,_=>[]
 |x::r,0,cs=>⟨x.b,x.T,cs,x.wr,x.on,x.ob⟩::r
 |x::r,i+1,cs=>x::qbQ r i cs
def yn:ko→Nat→Ent→ko
 |[],_,_=>[]
 |_::r,0,y=>y::r
 |x::r,i+1,y=>x::yn r i y
theorem Zf {H:ko} {y z:Ent} (h:z∈yn H i y):z=y∨z∈H:=by
 induction H generalizing i with
 |nil=>simp[yn]at h
 |cons x r ih=>
  cases i with
  |zero=>
   rcases mC h with h|h
   ·exact .inl h
   ·exact .inr (by simp[h])
  |succ i=>
   rcases mC h with h|h
   ·exact .inr (by simp[h])
   ·rcases ih h with h|h
    ·exact .inl h
    ·exact .inr (by simp[h])
theorem JR:∀{H:ko} {i:Nat} {y:Ent},H[i]? =some y→yn H i y=H
 |x::r,0,y,h=>by simp at h;subst h;rfl
 |x::r,i+1,y,h=>by simp at h;simp[yn,JR h]
theorem QL:∀{H:ko} {i:Nat} {y:Ent} {cs:List Value},H[i]? =some y→qbQ H i cs=yn H i ⟨y.b,y.T,cs,y.wr,y.on,y.ob⟩
 |x::r,0,y,cs,h=>by simp at h;subst h;rfl
 |x::r,i+1,y,cs,h=>by simp at h;simp[yn,qbQ,QL h]
theorem Hp.put {f:Fm} {o':Obj} {H:ko} {y y':Ent} (h:Hp f w H) (hx:H[i]? =some y) (ho:y.ex=true) (hb:y'.b=y.b) (hm:y'.ex=true→y'.wr=true→f.may y'.b y'.tag) (hu:Upd w w' y.b o')
  (hh:y'.has w'):Hp f w' (yn H i y'):=by
 induction H generalizing i with
 |nil=>simp at hx
 |cons x r ih=>
  cases i with
  |zero=>
   simp only[List.getElem?_cons_zero,Option.some.injEq]at hx
   subst hx
   exact ⟨hh,hm,fun _=>by rw[hb];exact h.2.2.1 ho,h.2.2.2.mono fun z hz hzx o hzo=>by rw[hu.rest _ (h.2.2.1 ho z hz hzx)];exact hzo⟩
  |succ i=>
   simp only[List.getElem?_cons_succ]at hx
   have hmem:y∈r:=mG hx
   refine ⟨⟨fun hxo=>?_,fun o hxo=>?_⟩,h.2.1,?_,ih h.2.2.2 hx⟩
   ·have hne:=h.2.2.1 (by simp[Ent.ex,hxo]) y hmem ho
    exact hu.other (h.1.row hxo) hne.symm
   ·have hne:=h.2.2.1 (by simp[Ent.ex,hxo]) y hmem ho
    rw[hu.rest _ hne.symm];exact h.1.obj o hxo
   ·intro hxx z hz hzx
    rcases Zf hz with rfl|hz
    ·rw[hb];exact h.2.2.1 hxx y hmem ho
    ·exact h.2.2.1 hxx z hz hzx
theorem Hp.upd {f:Fm} {H:ko} {x:Ent} (h:Hp f w H) (hx:H[i]? =some x) (ho:x.on=true) (hu:Upd w w' x.b (.cells cs.toArray x.T (0,0))) (hob:x.ob=none):Hp f w' (qbQ H i cs):=by
 rw[QL hx]
 refine h.put hx (by simp[Ent.ex,ho]) rfl ?_ hu ⟨fun _=>hu.at_,fun o hoo=>by rw[hob]at hoo;cases hoo⟩
 intro h1 h2
 exact h.mayx (x:=x) (mG hx) h1 h2
theorem Fm.ok.updO {f:Fm} {o o':Obj} (hf:f.ok w) (hb:w.heap[b]? =some o) (hm:f.may b (KE o)) (hu:Upd w w' b o'):f.ok w':=
 Fr.upd hf hu hb hm
theorem Fm.ok.upd {f:Fm} {o':Obj} (hf:f.ok w) (hb:Blk w b T cs) (hm:f.may b T) (hu:Upd w w' b o'):f.ok w':=
 Fr.upd hf hu hb hm
theorem Hp.drop {f:Fm}:∀{H:ko} (i:Nat),Hp f w H→Hp f w (H.eraseIdx i)
 |[],i,_=>by cases i<;>exact trivial
 |x::r,0,h=>h.2.2.2
 |x::r,i+1,h=>⟨h.1,h.2.1,fun ho y hy=>h.2.2.1 ho y (List.mem_of_mem_eraseIdx hy),Hp.drop i h.2.2.2⟩
theorem Hp.swap {f:Fm} {x y:Ent} {r:ko} (h:Hp f w (x::y::r)):Hp f w (y::x::r):=by
 obtain ⟨h1,h2,h3,h4,h5,h6,h7⟩:=h
 refine ⟨h4,h5,?_,h1,h2,fun ho z hz=>h3 ho z (by simp[hz]),h7⟩
 intro hy z hz hzo
 rcases mC hz with rfl|hz
 ·exact fun he=>h3 hzo y zp hy he.symm
 ·exact h6 hy z hz hzo
theorem Hp.nil {f:Fm}:Hp f w []:=trivial
theorem Hp.add {f:Fm} {H:ko} {wr:Bool} (h:Hp f w H) (hb:Blk w b T cs) (hw:wr=true→f.may b T) (hne:∀y∈H,y.ex=true→y.b≠b):Hp f w (⟨b,T,cs,wr,true,none⟩::H):=⟨⟨fun _=>hb,fun _ ho=>by simp at ho⟩,fun _=>hw,fun _=>hne,h⟩
def CJ (P:Program) (c:Code) (Q:Exit→Act→World→Prop) (n:Nat) (f:Fm) (e:Env) (H:ko):Prop:=∀w,Hp f w H→f.ok w→C P c Q n e w
def J (P:Program) (ops:Array Oper) (Q:Exit→Act→World→Prop) (n:Nat) (f:Fm) (e:Env) (H:ko) (l:List Oper):Prop:=∀w,Hp f w H→f.ok w→L P ops Q n e l w
def EJ (Q:Exit→Act→World→Prop) (x:Exit) (n:Nat) (f:Fm) (e:Env) (H:ko):Prop:=∀w,Hp f w H→f.ok w→E Q x n e w
def NJ (K:Act→World→Prop) (n:Nat) (f:Fm) (e:Env) (H:ko):Prop:=∀w,Hp f w H→f.ok w→N K n e w
theorem jr {g:FuncId} {fn:Func} {c:Code} {args:List Value} {R:Ending→World→Prop} (e:Env) (B:Nat) (W:List Nat) (H:ko)
  (hf:P.funcs[g]? =some fn) (hb:fn.body=some c) (hn:fn.ntmps=n) (hargs:Nat.ble args.length n=true)
  (he:(args.zipIdx.map fun p=>(p.2,p.1))=e) (hH:Hp ⟨w,B,W⟩ w H) (h:CJ P c (bodyPost P fn R) n ⟨w,B,W⟩ e H):Calls P g args.toArray w R:=
 qkN e hf hb hn hargs he (h w hH (Fr.refl _ _ _))
section
variable {P:Program} {Q:Exit→Act→World→Prop} {n:Nat} {f:Fm} {e:Env} {H:ko}
theorem jb {id:Nat} {l:List Oper} (h:J P l.toArray Q n f e H l):CJ P (.region id l.toArray false) Q n f e H:=fun w hH hf=>qlT (h w hH hf)
theorem jw {ops:Array Oper} (h:EJ Q .normal n f e H):J P ops Q n f e H []:=h
theorem ql {c:Operand} {x y:Code} (hc:ev e c=some (.bool true)) (h:CJ P x Q n f e H):CJ P (.cond c x y) Q n f e H:=fun w hH hf=>qlU hc (h w hH hf)
theorem jO {c:Operand} {x y:Code} (hc:ev e c=some (.bool false)) (h:CJ P y Q n f e H):CJ P (.cond c x y) Q n f e H:=fun w hH hf=>qlV hc (h w hH hf)
theorem qZ {c:Operand} {x y:Code} {t:Bool} (hc:ev e c=some (.bool t)) (h1:t=true→CJ P x Q n f e H) (h2:t=false→CJ P y Q n f e H):CJ P (.cond c x y) Q n f e H:=fun w hH hf=>
 c_if hc (fun h=>h1 h w hH hf) (fun h=>h2 h w hH hf)
theorem jq {c:Operand} {x y:Code} {p:Prop} [Decidable p] (hc:ev e c=some (.bool (decide p))) (h1:p→CJ P x Q n f e H) (h2:¬p→CJ P y Q n f e H):CJ P (.cond c x y) Q n f e H:=
 qZ hc (fun h=>h1 (by simpa using h)) (fun h=>h2 (by simpa using h))
theorem jh {c:Code} (h:CJ P c (Exit.inBlock i Q) n f e H):CJ P (.block i c) Q n f e H:=fun w hH hf=>qjR (h w hH hf)
theorem jg (h:EJ Q .normal n f e H):CJ P .skip Q n f e H:=fun w hH hf=>qlS (h w hH hf)
theorem jt (h:EJ Q (.exit i) n f e H):CJ P (.exit i) Q n f e H:=fun w hH hf=>qlW (h w hH hf)
theorem jj (h:EJ Q .ret n f e H):CJ P .ret Q n f e H:=fun w hH hf=>c_ret (h w hH hf)
theorem CJ.sub {c:Code} {e':Env} (hs:Sub e e') (h:CJ P c Q n f e' H):CJ P c Q n f e H:=fun w hH hf=>C.sub hs (h w hH hf)
theorem CJ.prune {c:Code} (ks:List Nat) (h:CJ P c Q n f (Fw.prune e ks) H):CJ P c Q n f e H:=fun w hH hf=>C.prune ks (h w hH hf)
theorem NJ.prune {K:Act→World→Prop} (ks:List Nat) (h:NJ K n f (Fw.prune e ks) H):NJ K n f e H:=fun w hH hf=>N.prune ks (h w hH hf)
theorem CJ.heap {c:Code} (H':ko) (hs:∀w,Hp f w H→f.ok w→Hp f w H') (h:CJ P c Q n f e H'):CJ P c Q n f e H:=fun w hH hf=>h w (hs w hH hf) hf
theorem NJ.heap {K:Act→World→Prop} (H':ko) (hs:∀w,Hp f w H→f.ok w→Hp f w H') (h:NJ K n f e H'):NJ K n f e H:=fun w hH hf=>h w (hs w hH hf) hf
theorem J.heap {ops:Array Oper} {l:List Oper} (H':ko) (hs:∀w,Hp f w H→f.ok w→Hp f w H') (h:J P ops Q n f e H' l):J P ops Q n f e H l:=fun w hH hf=>h w (hs w hH hf) hf
theorem ji {K:Act→World→Prop} (h:NJ K n f e H):EJ (Exit.then K Q) .normal n f e H:=h
theorem qg {K:Act→World→Prop} (h:EJ Q (.exit i) n f e H):EJ (Exit.then K Q) (.exit i) n f e H:=h
theorem Qq (h:EJ Q .normal n f e H):EJ (Exit.inBlock i Q) .normal n f e H:=h
theorem xy (h:EJ Q .normal n f e H):EJ (Exit.inBlock i Q) (.exit i) n f e H:=fun w hH hf=>qfG (h w hH hf)
theorem je {fn:Func} {R:Value→World→Prop} {t:Nat} (hres:fn.results= #[.tmp t]) (ht:look e t=some v) (h:∀w,Hp f w H→f.ok w→R v w):EJ (bodyPost P fn (Ret R)) .ret n f e H:=
 fun w hH hf=>qlN hres ht (h w hH hf)
theorem Vr {fn:Func} {R:Value→World→Prop} {t s:Nat} {u:Value} (hres:fn.results= #[.tmp t,.tmp s]) (ht:look e t=some v) (hs:look e s=some u) (h:∀w,Hp f w H→f.ok w→R (.tuple #[v,u]) w):
  EJ (bodyPost P fn (Ret R)) .ret n f e H:=fun w hH hf=>qlM hres ht hs (h w hH hf)
theorem YI {fn:Func} {R:Value→World→Prop} (hres:fn.results= #[]) (h:∀w,Hp f w H→f.ok w→R (.tuple #[]) w):EJ (bodyPost P fn (Ret R)) .ret n f e H:=fun w hH hf=>qlO hres (h w hH hf)
theorem vK {fn:Func} {R:Value→World→Prop} (hres:fn.results= #[]) (h:∀w,Hp f w H→f.ok w→R (.tuple #[]) w):EJ (bodyPost P fn (Ret R)) .normal n f e H:=fun w hH hf=>qlP hres (h w hH hf)
theorem jZ {σ:Type} {c:Code} (en:σ→Env) (hp:σ→ko) (I:σ→World→Prop) (m:σ→Nat) (s0:σ) (h0:Sub e (en s0)) (hI0:∀w,Hp f w H→f.ok w→Hp f w (hp s0)∧I s0 w)
  (round:∀s w,I s w→f.ok w→Hp f w (hp s)→∀K:Act→World→Prop,(∀s' e' w',I s' w'→f.ok w'→Hp f w' (hp s')→m s'<m s→Sub e' (en s')→N K n e' w')→C P c (Exit.then K Q) n (en s) w):CJ P (.loop c) Q n f e H:=
 fun w hH hf=>vk en (fun s w=>f.ok w∧Hp f w (hp s)∧I s w) m s0 h0 ⟨hf,hI0 w hH hf⟩
  (fun s w hI K hK=>round s w hI.2.2 hI.1 hI.2.1 K fun s' e' w' h1 h2 h3 h4 h5=>hK s' e' w' ⟨h2,h3,h1⟩ h4 h5)
theorem C.begin {c:Code} (f:Fm) (H:ko) (hf:f.ok w) (hH:Hp f w H) (h:CJ P c Q n f e H):C P c Q n e w:=h w hH hf
variable {ops:Array Oper} {rest:List Oper} {d ty:Nat} {pos:String} {af:Array Edge}
theorem jn {op:Op} (hd:Nat.blt d n=true) (hr:∀a w,Sat n e a→(execOp a.eval ⟨some d,op,ty,pos,af,none⟩).run P w=.ok (.value v) w)
  (k:J P ops Q n f ((d,v)::e) H rest):J P ops Q n f e H (⟨some d,op,ty,pos,af,none⟩::rest):=fun w hH hf=>L.val hd (fun a ha=>hr a w ha) (k w hH hf)
theorem jp {op:Op} (hd:Nat.blt d n=true) (hr:∀a w,Sat n e a→Hp f w H→f.ok w→(execOp a.eval ⟨some d,op,ty,pos,af,none⟩).run P w=.ok (.value v) w)
  (k:J P ops Q n f ((d,v)::e) H rest):J P ops Q n f e H (⟨some d,op,ty,pos,af,none⟩::rest):=fun w hH hf=>L.val hd (fun a ha=>hr a w ha hH hf) (k w hH hf)
theorem xR {s g q ft:Nat} {fs:Array Field} (hu:∀w,(underlying s).run P w=.ok (.struct fs) w) (hf:(fs[g]?).map (fun x=>(x.offset,x.type))=some (q,ft))
  (hsz:∀w,(sizeOf ft).run P w=.ok (sz+1) w) (hx:ev e x=some (.pointer (some ⟨b,o,none⟩))) (ha:Sat n e a):
  (execOp a.eval ⟨some d,.fieldAddr s x g,ty,pos,af,none⟩).run P w=.ok (.value (.pointer (some ⟨b,o+q,none⟩))) w:=by
 cases hg:fs[g]? with
 |none=>simp[hg]at hf
 |some fd=>
  simp only[hg,Option.map_some,Option.some.injEq,Prod.mk.injEq]at hf
  obtain ⟨rfl,rfl⟩:=hf
  exact r_fld hu hg hsz hx ha
theorem Jk {t:Nat} {y:Ent} (i:Nat) (hy:H[i]? =some y) (ho:y.on=true) (hag:∀w,(isAgg t).run P w=.ok false w) (hx:ev e x=some (.pointer (some ⟨y.b,o,none⟩))) (hv:y.cs[o]? =some v)
 (ha:Sat n e a) (hH:Hp f w H):(execOp a.eval ⟨some d,.load t x,ty,pos,af,none⟩).run P w=.ok (.value v) w:=kP hag hx ((hH.get hy ho).cell' hv) ha
theorem vo {t:Nat} {y:Ent} (i:Nat) (hy:H[i]? =some y) (ho:y.on=true) (hag:∀w,(isAgg t).run P w=.ok true w) (hsz:∀w,(sizeOf t).run P w=.ok m w)
  (hx:ev e x=some (.pointer (some ⟨y.b,o,none⟩))) (hv:(y.cs.drop o).take m=vs) (hm:Nat.beq vs.length m=true)
 (ha:Sat n e a) (hH:Hp f w H):(execOp a.eval ⟨some d,.load t x,ty,pos,af,none⟩).run P w=.ok (.value (.agg vs.toArray)) w:=by
 subst hv
 exact kD hag hsz hx hm ((hH.get hy ho).mid o m) ha
theorem qkq {t:Nat} (hx:ev e x=some v) (hd:Nat.blt d n=true)
  (k:∀b,J P ops Q n f ((d,.pointer (some ⟨b,0,none⟩))::e) (⟨b,t,v.cells.toList,true,true,none⟩::H) rest):J P ops Q n f e H (⟨some d,.box t x,ty,pos,af,none⟩::rest):=
 fun w hH hf=>o_box hx hd fun w' b hn=>k b w' (hH.new hf hn) (hf.new hn)
theorem qex {t:Nat} {z:Value} (hz:∀w,(zeroValue t).run P w=.ok z w) (hd:Nat.blt d n=true)
  (k:∀b,J P ops Q n f ((d,.pointer (some ⟨b,0,none⟩))::e) (⟨b,t,z.cells.toList,true,true,none⟩::H) rest):J P ops Q n f e H (⟨some d,.alloc t,ty,pos,af,none⟩::rest):=
 fun w hH hf=>qiT hz hd fun w' b hn=>k b w' (hH.new hf hn) (hf.new hn)
theorem vj {t:Nat} {z:Operand} {y:Ent} (i:Nat) (hy:H[i]? =some y) (ho:y.on=true) (hob:y.ob=none) (hwr:y.wr=true) (hsz:∀w,(sizeOf t).run P w=.ok m w) (hx:ev e x=some (.pointer (some ⟨y.b,o,none⟩))) (hz:ev e z=some v)
  (hm:Nat.beq v.cells.size m=true) (hs:v.cells.toList.all scal=true) (hl:Nat.ble (o+v.cells.size) y.cs.length=true)
  (k:J P ops Q n f e (qbQ H i (kH y.cs o v.cells.toList)) rest):J P ops Q n f e H (⟨none,.store t x z,ty,pos,af,none⟩::rest):=
 fun w hH hf=>qiS hsz hx hz (hH.get hy ho) hm hs hl fun w' hu=>k w' (hH.upd hy ho hu hob) (hf.upd (hH.get hy ho) (hH.may (mG hy) ho hwr) hu)
theorem qlE {g:FuncId} {args:Array Operand} {tys:Array TypeId} {R:World→Value→World→Prop} (hg:∀(az:Array Value) (w:World),(callFunc g az).run P w=.ok (.enter g az) w)
  (hargs:args.toList.map (ev e)=vs.map some) (hd:Nat.blt d n=true) (hc:∀w,Hp f w H→f.ok w→Calls P g vs.toArray w (Ret (R w)))
  (k:∀w v w',Hp f w H→f.ok w→R w v w'→L P ops Q n ((d,v)::e) rest w'):J P ops Q n f e H (⟨some d,.call ⟨.value (.func g),args,tys⟩,ty,pos,af,none⟩::rest):=
 fun w hH hf=>qlk hg hargs (hc w hH hf) hd fun v w' hR=>k w v w' hH hf hR
theorem J.begin {l:List Oper} (f:Fm) (H:ko) (hf:f.ok w) (hH:Hp f w H) (h:J P ops Q n f e H l):L P ops Q n e l w:=h w hH hf
def Sx (f:Fm) (HS:ko) (w:World):Prop:=(∀x∈HS,x.on=true→Blk w x.b x.T x.cs)∧f.ok w
variable {nt:Nat} {HS:ko} {r:xr}
def DJ (P:Program) (ops:Array Oper) (Q:Exit→Act→World→Prop) (f:Fm) (HS:ko) (nt n:Nat) (e:Env) (H:ko) (s:xr):Prop:=
 ∀w,Hp f w H→f.ok w→DS P ops Q (Sx f HS) nt n e s w
theorem qjP {id:Nat} {l:List Oper} (nt:Nat) (s:xr) (HS:ko) (hm:P.follows .mixedOrders=true) (hs:YU l.toArray nt s=true)
  (h:DJ P l.toArray (NoP Q) f HS nt n e H s):CJ P (.region id l.toArray true) Q n f e H:=fun w hH hf=>
 qif nt s hm hs fun w1 hD=>⟨_,h w1 (hH.mono fun _ _ _ o hb=>by rw[hD.heap];exact hb) (Fr.dr hf hD)⟩
theorem qlQ (h:EJ Q .normal n f e H):DJ P ops Q f HS nt n e H []:=h
theorem jo {op:Op} (hi:ops[i]? =some ⟨some d,op,ty,pos,af,none⟩) (hd:Nat.blt d n=true) (hS:∀x∈HS,x∈H)
  (hr:∀a w,Sat n e a→(execOp a.eval ⟨some d,op,ty,pos,af,none⟩).run P w=.ok (.value v) w) (k:DJ P ops Q f HS nt n ((d,v)::e) H r):DJ P ops Q f HS nt n e H ((i,true)::r):=fun w hH hf=>
 YJ hi hd (fun a w ha _=>hr a w ha) ⟨fun x hx ho=>hH.blk (hS x hx) ho,hf⟩ (k w hH hf)
theorem vV {op:Op} (hi:ops[i]? =some ⟨some d,op,ty,pos,af,none⟩) (hd:Nat.blt d n=true) (hS:∀x∈HS,x∈H)
  (hr:∀a w,Sat n e a→Sx f HS w→(execOp a.eval ⟨some d,op,ty,pos,af,none⟩).run P w=.ok (.value v) w) (k:DJ P ops Q f HS nt n ((d,v)::e) H r):DJ P ops Q f HS nt n e H ((i,true)::r):=fun w hH hf=>
 YJ hi hd (fun a w ha hS=>hr a w ha hS) ⟨fun x hx ho=>hH.blk (hS x hx) ho,hf⟩ (k w hH hf)
theorem qlR {o:Oper} (hi:ops[i]? =some o)
  (h:∀K:Act→World→Prop,(∀e H,(Nat.blt i nt=false∨∀x∈HS,x∈H)→DJ P ops Q f HS nt n e H r→NJ K n f e H)→J P ops (Exit.then K Q) n f e H [o]):DJ P ops Q f HS nt n e H ((i,false)::r):=fun w hH hf=>
 qkw hi fun K hK=>h K (fun e H hs hd w hH hf=>hK e w (fun hlt=>⟨fun x hx ho=>hH.blk (x:=x) (by
  rcases hs with hs|hs
  ·have h3:Nat.blt i nt=true:=by simpa using hlt
   rw[hs]at h3;exact absurd h3 zp
  ·exact hs x hx) ho,hf⟩) (hd w hH hf)) w hH hf
theorem zx {t:Nat} {y:Ent} (i:Nat) (hy:HS[i]? =some y) (ho:y.on=true) (hag:∀w,(isAgg t).run P w=.ok false w) (hx:ev e x=some (.pointer (some ⟨y.b,o,none⟩))) (hv:y.cs[o]? =some v)
 (ha:Sat n e a) (hS:Sx f HS w):(execOp a.eval ⟨some d,.load t x,ty,pos,af,none⟩).run P w=.ok (.value v) w:=kP hag hx ((hS.1 y (mG hy) ho).cell' hv) ha
theorem Ju {t:Nat} {y:Ent} (i:Nat) (hy:HS[i]? =some y) (ho:y.on=true) (hag:∀w,(isAgg t).run P w=.ok true w) (hsz:∀w,(sizeOf t).run P w=.ok m w)
  (hx:ev e x=some (.pointer (some ⟨y.b,o,none⟩))) (hv:(y.cs.drop o).take m=vs) (hm:Nat.beq vs.length m=true)
 (ha:Sat n e a) (hS:Sx f HS w):(execOp a.eval ⟨some d,.load t x,ty,pos,af,none⟩).run P w=.ok (.value (.agg vs.toArray)) w:=by
 subst hv
 exact kD hag hsz hx hm ((hS.1 y (mG hy) ho).mid o m) ha
end
def evP (e:Env):List (Nat×Operand)→Option (List (Nat×Value))
 |[]=>some []
 |(i,x)::r=>match ev e x,evP e r with
  |some v,some l=>some ((i,v)::l)
  |_,_=>none
def evL (e:Env):List Operand→Option (List Value)
 |[]=>some []
 |x::r=>match ev e x,evL e r with
  |some v,some l=>some (v::l)
  |_,_=>none
theorem qbu {e:Env} (ha:Sat n e a):∀{ps:List (Nat×Operand)} {vs:List (Nat×Value)},evP e ps=some vs→(ps.map fun (i,x)=>(i,a.eval x))=vs
 |[],vs,h=>by simp[evP]at h;simp[h]
 |(i,x)::r,vs,h=>by
     simp only[evP]at h
     split at h
     ·rename_i v l hx hr
      simp at h
      subst h
      simp[ha.ev hx,qbu ha hr]
     ·simp at h
theorem qbv {e:Env} (ha:Sat n e a):∀{ps:List Operand} {vs:List Value},evL e ps=some vs→ps.map a.eval=vs
 |[],vs,h=>by simp[evL]at h;simp[h]
 |x::r,vs,h=>by
    simp only[evL]at h
    split at h
    ·rename_i v l hx hr
     simp at h
     subst h
     simp[ha.ev hx,qbv ha hr]
    ·simp at h
theorem qeB {e:Env}:∀{ps:List Operand} {vs:List Value},evL e ps=some vs→ps.map (ev e)=vs.map some
 |[],vs,h=>by simp[evL]at h;simp[h]
 |x::r,vs,h=>by
    simp only[evL]at h
    split at h
    ·rename_i v l hx hr
     simp at h
     subst h
     simp[hx,qeB hr]
    ·simp at h
def Kp (H:ko):List Nat→Option ko
 |[]=>some []
 |i::r=>match H[i]?,Kp H r with
  |some x,some l=>some (x::l)
  |_,_=>none
theorem jd {H HS:ko}:∀(idx:List Nat),Kp H idx=some HS→∀x∈HS,x∈H:=by
 intro idx
 induction idx generalizing HS with
 |nil=>intro h;simp[Kp]at h;subst h;simp
 |cons i r ih=>
  intro h
  simp only[Kp]at h
  split at h
  ·rename_i x l hx hl
   simp at h
   subst h
   intro y hy
   rcases mC hy with rfl|hy
   ·exact mG hx
   ·exact ih hl y hy
  ·simp at h
def Qs (P:Program) (t:Nat) (pl:List (Nat×Nat)) (zs:List Value):Prop:=∃fs:Array Field,
 (∀w,(underlying t).run P w=.ok (.struct fs) w)∧(∀w,(zeroValue t).run P w=.ok (.agg zs.toArray) w)∧
 (∀w,(fs.mapM fun (g:Field)=>(Prod.mk g.offset<$>sizeOf g.type:Sem (Nat×Nat))).run P w=.ok pl.toArray w)
def qcI (pl:List (Nat×Nat)) (cells:List Value):List (Nat×Value)→Option (List Value)
 |[]=>some cells
 |(i,v)::rest=>match pl[i]? with
  |none=>none
  |some (off,size)=>bif Nat.beq v.cells.size size&&Nat.ble (off+v.cells.size) cells.length then qcI pl (kH cells off v.cells.toList) rest else none
theorem VZ:∀(vs:List Value) (cs:List Value) (off j:Nat),((vs.zipIdx j).foldl (fun (cs:Array Value) (x:Value×Nat)=>cs.setIfInBounds (off+x.2) x.1) cs.toArray)=(kH cs (off+j) vs).toArray
 |[],cs,off,j=>by simp[kH]
 |v::vs,cs,off,j=>by
    simp only[List.zipIdx_cons,List.foldl_cons,kH]
    rw[show cs.toArray.setIfInBounds (off+j) v=(cs.set (off+j) v).toArray by simp]
    rw[VZ vs (cs.set (off+j) v) off (j+1)]
    rfl
theorem qcH {pl:List (Nat×Nat)}:∀{ps:List (Nat×Value)} {cells cs:List Value},qcI pl cells ps=some cs→Instr.fill (fun x=>pl[x]?) cells.toArray ps=some cs.toArray
 |[],cells,cs,h=>by simp[qcI]at h;simp[Instr.fill,h]
 |(i,v)::rest,cells,cs,h=>by
     simp only[qcI]at h
     simp only[Instr.fill]
     cases hp:pl[i]? with
     |none=>simp[hp]at h
     |some q=>
      obtain ⟨off,size⟩:=q
      simp only[hp]at h
      simp only
      cases hb:(Nat.beq v.cells.size size&&Nat.ble (off+v.cells.size) cells.length) with
      |false=>rw[hb]at h;simp at h
      |true=>
       rw[hb]at h
       simp only[Bool.and_eq_true,Nat.beq_eq,Nat.ble_eq]at hb
       have hc:¬(v.cells.size≠size||off+v.cells.size>cells.toArray.size)=true:=by
          simp[hb.1]
          omega
       rw[if_neg hc]
       have h2:=VZ v.cells.toList cells off 0
       have h3:(v.cells.zipIdx.foldl (fun cs (x:Value×Nat)=>cs.setIfInBounds (off+x.2) x.1) cells.toArray)=(kH cells off v.cells.toList).toArray:=by
          rw[← Array.foldl_toList,Array.toList_zipIdx]
          simpa using h2
       rw[h3]
       exact qcH h
theorem Hp.fresh {H:ko} (h:Hp ⟨w0,B,[]⟩ w H) {x:Ent} (hx:H[i]? =some x) (ho:x.on=true) (hw:x.wr=true):w0.heap.size≤x.b:=by
 rcases h.may (mG hx) ho hw with h|h
 ·exact h
 ·exact absurd h.2 zp
theorem Hp.fr {f:Fm} {H:ko} (h:Hp f w H) (k:Fr B [] w w'):Hp f w' H:=h.mono fun _ _ _ o hx=>k.keep _ o hx (.inr zp)
theorem Fm.ok.fr {f:Fm} (h:f.ok w) (k:Fr B [] w w'):f.ok w':=Fr.trans h (k.quiet f.B f.W) (.inr ⟨Nat.le_refl _,fun _ hx=>hx⟩)
section
variable {P:Program} {Q:Exit→Act→World→Prop} {n:Nat} {f:Fm} {e:Env} {H:ko} {ops:Array Oper} {rest:List Oper} {d ty:Nat} {pos:String} {af:Array Edge}
theorem vb {t:Nat} {pl:List (Nat×Nat)} {zs:List Value} {ps:Array (Nat×Operand)} {vs:List (Nat×Value)} (hb:Qs P t pl zs) (hp:evP e ps.toList=some vs) (hc:qcI pl zs vs=some cs)
 (ha:Sat n e a):(execOp a.eval ⟨some d,.build t ps,ty,pos,af,none⟩).run P w=.ok (.value (.agg cs.toArray)) w:=by
 obtain ⟨fs,hu,hz,hp0⟩:=hb
 have h1:(ps.map fun (i,x)=>(i,a.eval x)).toList=vs:=by rw[Array.toList_map];exact qbu ha hp
 have h2:=qcH hc
 have h3:(ps.map fun (x:Nat×Operand)=>(x.1,a.eval x.2)).toList=vs:=h1
 simp at h3
 have hp':=hp0 w
 simp only[execOp,Instr.build]
 simp[hz,hu,Value.cells]
 rw[hp']
 simp[h3,h2]
theorem qA {t:Nat} (hx:ev e x=some (.agg vs.toArray)) (hd:Nat.blt d n=true)
  (k:∀b,J P ops Q n f ((d,.pointer (some ⟨b,0,none⟩))::e) (⟨b,t,vs,true,true,none⟩::H) rest):J P ops Q n f e H (⟨some d,.box t x,ty,pos,af,none⟩::rest):=qkq hx hd k
theorem jW {t:Nat} {zs:List Value} (hz:∀w,(zeroValue t).run P w=.ok (.agg zs.toArray) w) (hd:Nat.blt d n=true)
  (k:∀b,J P ops Q n f ((d,.pointer (some ⟨b,0,none⟩))::e) (⟨b,t,zs,true,true,none⟩::H) rest):J P ops Q n f e H (⟨some d,.alloc t,ty,pos,af,none⟩::rest):=qex hz hd k
theorem Xr {t:Nat} (hz:∀w,(zeroValue t).run P w=.ok v w) (hs:scal v=true) (hd:Nat.blt d n=true)
  (k:∀b,J P ops Q n f ((d,.pointer (some ⟨b,0,none⟩))::e) (⟨b,t,[v],true,true,none⟩::H) rest):J P ops Q n f e H (⟨some d,.alloc t,ty,pos,af,none⟩::rest):=
 qex hz hd (by rw[JX hs];exact k)
theorem qhA {t:Nat} {z:Operand} {y:Ent} {cs':List Value} {H':ko} (i:Nat) (hy:H[i]? =some y) (ho:y.on=true) (hob:y.ob=none) (hwr:y.wr=true) (hsz:∀w,(sizeOf t).run P w=.ok m w) (hx:ev e x=some (.pointer (some ⟨y.b,o,none⟩))) (hz:ev e z=some v)
  (hm:Nat.beq v.cells.size m=true) (hs:v.cells.toList.all scal=true) (hl:Nat.ble (o+v.cells.size) y.cs.length=true) (hcs:kH y.cs o v.cells.toList=cs') (hH:qbQ H i cs'=H')
  (k:J P ops Q n f e H' rest):J P ops Q n f e H (⟨none,.store t x z,ty,pos,af,none⟩::rest):=by
 subst hcs;subst hH
 exact vj i hy ho hob hwr hsz hx hz hm hs hl k
theorem kQ {g:FuncId} {args:Array Operand} {tys:Array TypeId} {R:World→Value→World→Prop} (hg:∀(az:Array Value) (w:World),(callFunc g az).run P w=.ok (.enter g az) w)
  (hargs:evL e args.toList=some vs) (hd:Nat.blt d n=true) (hc:∀w,Hp f w H→f.ok w→Calls P g vs.toArray w (Ret (R w)))
  (k:∀w v w',Hp f w H→f.ok w→R w v w'→L P ops Q n ((d,v)::e) rest w'):J P ops Q n f e H (⟨some d,.call ⟨.value (.func g),args,tys⟩,ty,pos,af,none⟩::rest):=
 qlE hg (qeB hargs) hd hc k
theorem kg {g:FuncId} {args:Array Operand} {tys:Array TypeId} {φ:Value→Prop} (hg:∀(az:Array Value) (w:World),(callFunc g az).run P w=.ok (.enter g az) w)
  (hargs:evL e args.toList=some vs) (hd:Nat.blt d n=true) (hc:∀w,Hp f w H→f.ok w→Calls P g vs.toArray w (Ret fun v w'=>φ v∧Fr 0 [] w w'))
  (k:∀v,φ v→J P ops Q n f ((d,v)::e) H rest):J P ops Q n f e H (⟨some d,.call ⟨.value (.func g),args,tys⟩,ty,pos,af,none⟩::rest):=
 kQ hg hargs hd hc fun w v w' hH hf hR=>k v hR.1 w' (hH.fr hR.2) (hf.fr hR.2)
theorem jV {l:List Oper} {u:Value} (hp:v=u) (k:J P ops Q n f ((d,u)::e) H l):J P ops Q n f ((d,v)::e) H l:=by rw[hp];exact k
theorem J.sub {l:List Oper} {e':Env} (hs:Sub e e') (h:J P ops Q n f e' H l):J P ops Q n f e H l:=fun w hH hf a ha=>h w hH hf a (ha.sub hs)
theorem Qc (ha:Sat n e a) {t:Nat} {b:Bool} (hj:(ops[j]?).bind (·.dst)=some t) (ht:look e t=some (.bool b)):yielded ops a.tmps j=some b:=by
 unfold yielded
 rw[hj]
 simp[ha.has t _ ht]
theorem jy {o:Option Tmp} {op:Op} {t:Nat} {b:Bool} (hj:(ops[j]?).bind (·.dst)=some t) (ht:look e t=some (.bool b)) (k:J P ops Q n f e H (⟨o,op,ty,pos,af,none⟩::rest)):
  J P ops Q n f e H (⟨o,op,ty,pos,af,some (j,b)⟩::rest):=fun w hH hf a ha=>by
 have h:=k w hH hf a ha
 have hy:=Qc ha hj ht
 unfold wpList at h⊢
 rw[if_pos (by simp[Region.wanted])]at h
 rw[if_pos (by simp[Region.wanted,hy])]
 exact h
theorem kN {op:Op} {t:Nat} {b c:Bool} (hj:(ops[j]?).bind (·.dst)=some t) (ht:look e t=some (.bool c)) (hbc:(c !=b)=true) (hd:Nat.blt d n=true) (k:J P ops Q n f ((d,undef)::e) H rest):
  J P ops Q n f e H (⟨some d,op,ty,pos,af,some (j,b)⟩::rest):=fun w hH hf a ha=>by
 have hy:=Qc ha hj ht
 unfold wpList
 rw[if_neg (by simp[Region.wanted,hy];simpa using hbc)]
 exact k w hH hf _ (ha.put hd)
theorem yU (a:Act) (v:Value):a.eval (.const v)=v:=rfl
theorem Yg (dd t:Nat) (p:Option Addr) {te:TypeId} (hu:P.underlying t=some (.pointer te)) (w:World):(Op.equalIn (dd+1) t (.pointer p) (.pointer none)).run P w=.ok p.isNone w:=by
 cases p<;>simp[Op.equalIn,run_underlying hu]
theorem YC {t:Nat} {te:TypeId} (hu:P.underlying t=some (.pointer te)) (hx:ev e x=some (.pointer p)) (ha:Sat n e a):
  (execOp a.eval ⟨some d,.binOp .eql t x (.const (.pointer none)) t',ty,pos,af,none⟩).run P w=.ok (.value (.bool p.isNone)) w:=by
 have h:(binOp .eql t (.pointer p) (.pointer none)).run P w=.ok (.bool p.isNone) w:=by
  simp only[binOp]
  simp[Op.equal,Op.maxDepth,Yg 9999 t p hu]
 simp only[execOp,ha.ev hx,yU]
 simp[eqGuard,h]
theorem zJ {t:Nat} {te:TypeId} (hu:P.underlying t=some (.pointer te)) (hx:ev e x=some (.pointer p)) (ha:Sat n e a):
  (execOp a.eval ⟨some d,.binOp .neq t x (.const (.pointer none)) t',ty,pos,af,none⟩).run P w=.ok (.value (.bool (!p.isNone))) w:=by
 have h:(binOp .neq t (.pointer p) (.pointer none)).run P w=.ok (.bool (!p.isNone)) w:=by
  simp only[binOp]
  simp[Op.equal,Op.maxDepth,Yg 9999 t p hu]
 simp only[execOp,ha.ev hx,yU]
 simp[eqGuard,h]
theorem qei {t k te:Nat} {p:Option Nat} (hu:P.underlying t=some (.map k te)) (hx:ev e x=some (.map p)) (ha:Sat n e a):
  (execOp a.eval ⟨some d,.binOp .eql t x (.const (.map none)) t',ty,pos,af,none⟩).run P w=.ok (.value (.bool p.isNone)) w:=by
 simp only[execOp,ha.ev hx,yU]
 simp[eqGuard,run_eql_map_nil w t k te p hu]
theorem qkY {t:Nat} {y:Operand} {U:Nat} {te:TypeId} {j:TypeInfo} (hu:P.underlying t=some (.pointer te)) (hj:P.info? te=some j) (hs:j.size≠0)
  (hx:ev e x=some (.pointer (some ⟨b,0,none⟩))) (hy:ev e y=some (.pointer (some ⟨c,0,none⟩))) (hb:Blk w b T cs) (hc:Blk w c U ds) (ha:Sat n e a):
  (execOp a.eval ⟨some d,.binOp .eql t x y t',ty,pos,af,none⟩).run P w=.ok (.value (.bool (decide (b=c)))) w:=by
 simp only[execOp,ha.ev hx,ha.ev hy]
 by_cases h:b=c
 ·subst h
  simp[eqGuard,run_eql_ptr_same w ⟨b,0,none⟩ hu hj]
 ·have hne:(⟨b,0,none⟩:Addr)≠⟨c,0,none⟩:=fun he=>h (by injection he)
  simp[eqGuard,run_eql_ptr_other w hu hj hs hne hb hc,h]
theorem qgM {t:Nat} {y:Operand} {U:Nat} {te:TypeId} {j:TypeInfo} (hu:P.underlying t=some (.pointer te)) (hj:P.info? te=some j) (hs:j.size≠0)
  (hx:ev e x=some (.pointer (some ⟨b,0,none⟩))) (hy:ev e y=some (.pointer (some ⟨c,0,none⟩))) (hb:Blk w b T cs) (hc:Blk w c U ds) (ha:Sat n e a):
  (execOp a.eval ⟨some d,.binOp .neq t x y t',ty,pos,af,none⟩).run P w=.ok (.value (.bool (decide (b≠c)))) w:=by
 have key:(binOp .neq t (.pointer (some ⟨b,0,none⟩)) (.pointer (some ⟨c,0,none⟩))).run P w=.ok (.bool (decide (b≠c))) w:=by
  by_cases h:b=c
  ·subst h
   have h1:=run_eql_ptr_same w (P:=P) ⟨b,0,none⟩ hu hj
   simp only[binOp]at h1⊢
   simp only[Sem.run_bind]at h1⊢
   generalize (Op.equal t (.pointer (some ⟨b,0,none⟩)) (.pointer (some ⟨b,0,none⟩))).run P w=z at h1⊢
   cases z<;>simp_all
  ·have hne:(⟨b,0,none⟩:Addr)≠⟨c,0,none⟩:=fun he=>h (by injection he)
   have h1:=run_eql_ptr_other w (P:=P) hu hj hs hne hb hc
   simp only[binOp]at h1⊢
   simp only[Sem.run_bind]at h1⊢
   generalize (Op.equal t (.pointer (some ⟨b,0,none⟩)) (.pointer (some ⟨c,0,none⟩))).run P w=z at h1⊢
   cases z<;>simp_all
 simp only[execOp,ha.ev hx,ha.ev hy]
 simp[eqGuard,key]
theorem zK {t:Nat} {ds:TypeDesc} (hu:∀w,(underlying t).run P w=.ok ds w) (hi:(match ds with| .interface _=>false|_=>true)=true) (hx:ev e x=some v) (ha:Sat n e a):
  (execOp a.eval ⟨some d,.makeInterface t x,ty,pos,af,none⟩).run P w=.ok (.value (.iface t v)) w:=by
 simp only[execOp,ha.ev hx,Instr.makeInterface]
 simp[hu]
 cases ds<;>simp_all
end
def SlE (y:Ent) (p:Option Addr) (l c sz:Nat) (xs:List Value):Prop:=
 xs.length=l*sz∧l≤c∧((y.on=true∧p=some ⟨y.b,0,none⟩∧(∃ex,y.cs=xs++ex)∧y.cs.length=c*sz)∨(y.on=false∧p=none∧c=0))
theorem SlE.on {y:Ent} (h:SlE y p l c sz xs) (hl:0<l):y.on=true:=by
 obtain ⟨_,h2,h3⟩:=h
 rcases h3 with h3|h3
 ·exact h3.1
 ·omega
theorem Kl:∀(ys xs ex:List Value),ys.length≤ex.length→kH (xs++ex) xs.length ys=xs++ys++ex.drop ys.length
 |[],xs,ex,_=>by simp[kH]
 |y::ys,xs,[],h=>by simp at h
 |y::ys,xs,z::ex,h=>by
    rw[kH]
    rw[show (xs++z::ex).set xs.length y=(xs++[y])++ex by simp]
    have:=Kl ys (xs++[y]) ex (by simpa using h)
    rw[show (xs++[y]).length=xs.length+1 by simp]at this
    rw[this]
    simp
theorem qaw (m:Nat):∀(r c:Nat),c≤2*m+1000→Builtin.growBy m r c≤2*m+1000
 |0,c,h=>by simpa[Builtin.growBy]using h
 |r+1,c,h=>by
    simp only[Builtin.growBy]
    split
    ·exact h
    ·exact qaw m r _ ox
theorem Zd (m c:Nat) (h:c<m):Builtin.nextslicecap m c≤2*m+1000:=by
 unfold Builtin.nextslicecap
 split
 ·omega
 ·split
  ·omega
  ·exact qaw m _ _ ox
theorem QI (z:Array Value) (k:Nat):(Builtin.zeroCells z k).size=k*z.size:=by simp[Builtin.zeroCells]
structure ElT (P:Program) (T sz:Nat) (by_:Nat):Prop where
 hsz:∀w,(sizeOf T).run P w=.ok sz w
 hinf:∃ti:TypeInfo,(∀w,(typeInfo T).run P w=.ok ti w)∧ti.bytes=by_
 hz:∃z:Value,(∀w,(zeroValue T).run P w=.ok z w)∧z.cells.size=sz
inductive AppW (w w':World) (y y':Ent) (n:Nat) (ys:List Value):Prop
 |same (h:y'=y) (hw:w'=w) (hn:ys=[])
 |inplace (hon:y.on=true) (hb:y'=⟨y.b,y.T,y'.cs,true,true,none⟩) (hu:Upd w w' y.b (.cells y'.cs.toArray y.T (0,0))) (hs:y'.cs=kH y.cs n ys)
 |fresh (hy:y'=⟨y'.b,y'.T,y'.cs,true,true,none⟩) (hn:New w w' y'.b (.cells y'.cs.toArray y'.T (0,0)))
section
variable {P:Program}
theorem Yh {xT rt:Nat} {dx:TypeDesc} {x:Value} {y:Ent} {ys:List Value} (hu:∀w,(underlying sT).run P w=.ok (.slice T) w) (hux:∀w,(underlying xT).run P w=.ok dx w)
  (hdx:(∃e,dx=.slice e)∨dx=.string) (hT:ElT P T sz by_) (hby:by_≤1000) (hyT:y.T=T) (hy:y.on=true→Blk w y.b y.T y.cs) (hwr:y.wr=true) (hS:SlE y p l c sz xs)
  (hlen:∀w,(Builtin.lenOf x).run P w=.ok m w) (hx:∀w1:World,(∀(b:Nat) (o:Obj),w.heap[b]? =some o→w1.heap[b]? =some o)→(Builtin.firstCells sz m x).run P w1=.ok ys.toArray w1) (hys:ys.length=m*sz) (hsc:ys.all scal=true) (hbig:l+m≤100000000000):
  ∃y' p' c' w',(Builtin.append_ #[sT,xT] rt #[.slice p l c,x]).run P w=.ok (.slice p' (l+m) c') w'∧y'.T=T∧y'.wr=true∧SlE y' p' (l+m) c' sz (xs++ys)∧AppW w w' y y' xs.length ys∧(c'=c∨c'<9223372036854775808):=by
 obtain ⟨ti,hti,hby'⟩:=hT.hinf
 obtain ⟨z,hz,hzs⟩:=hT.hz
 obtain ⟨hl1,hl2,hS3⟩:=hS
 by_cases hroom:l+m≤c
 ·rcases hS3 with ⟨hon,rfl,⟨ex,hcs⟩,hclen⟩|⟨hoff,rfl,rfl⟩
  ·have hexl:ys.length≤ex.length:=by
    have:y.cs.length=xs.length+ex.length:=by rw[hcs];simp
    have h2:(l+m)*sz≤c*sz:=Nat.mul_le_mul_right _ hroom
    rw[Nat.add_mul]at h2
    omega
   have hadd:Addr.add ⟨y.b,0,none⟩ (l*sz)=⟨y.b,l*sz,none⟩:=by
    unfold Addr.add
    split
    ·rename_i h;rw[h]
    ·simp
   obtain ⟨w',hr,hup⟩:=zG (P:=P) ys w y.cs (l*sz) 0 (hy hon) (by
    have:y.cs.length=xs.length+ex.length:=by rw[hcs];simp
    omega) hsc
   have hset:kH y.cs (l*sz+0) ys=xs++ys++ex.drop ys.length:=by
    rw[hcs,Nat.add_zero, ← hl1];exact Kl ys xs ex hexl
   rw[hset]at hup
   refine ⟨⟨y.b,T,xs++ys++ex.drop ys.length,true,true,none⟩,some ⟨y.b,0,none⟩,c,w',?_,rfl,rfl,⟨by simp[hl1,hys,Nat.add_mul],hroom,.inl ⟨rfl,rfl,⟨_,rfl⟩,?_⟩⟩,.inplace hon (by simp[hyT]) ?_ (by rw[← hset,Nat.add_zero,hl1]),.inl rfl⟩
   ·simp only[Builtin.append_]
    have hx0:=hx w (fun _ _ h=>h)
    rcases hdx with ⟨e,rfl⟩|rfl
    ·simp[hu,hux,hT.hsz,hlen,hroom,hadd,hx0,hr]
    ·simp[hu,hux,hT.hsz,hlen,hroom,hadd,hx0,hr]
   ·rw[← hclen,hcs];simp;omega
   ·rw[hyT]at hup;rw[hyT];exact hup
  ·have h0:l=0:=by omega
   have h1:m=0:=by omega
   subst h0;subst h1
   have hys0:ys=[]:=by cases ys<;>simp_all
   subst hys0
   have hxs0:xs=[]:=by cases xs<;>simp_all
   subst hxs0
   refine ⟨y,none,0,w,?_,hyT,hwr,⟨by simp,by simp,.inr ⟨hoff,rfl,rfl⟩⟩,.same rfl rfl rfl,.inl rfl⟩
   have hx0:=hx w (fun _ _ h=>h)
   simp only[Builtin.append_]
   rcases hdx with ⟨e,rfl⟩|rfl
   ·simp[hu,hux,hT.hsz,hlen,hx0]
   ·simp[hu,hux,hT.hsz,hlen,hx0]
 ·have hcap:¬(Builtin.nextslicecap (l+m) c*by_>2^48):=by
   have h1:=Zd (l+m) c ox
   have h2:Builtin.nextslicecap (l+m) c*by_≤(2*(l+m)+1000)*1000:=Nat.mul_le_mul h1 hby
   have:(2*(l+m)+1000)*1000≤2^48:=by omega
   omega
  let q:=Question.appendCap (l+m) c T
  let c':=q.cut (w.tape w.drawn q)
  have hc':l+m≤c':=by simp[c',q,Question.cut]
  have hc9:c'<9223372036854775808:=by
   have:=Nat.mod_lt (w.tape w.drawn q) (show 0<2^63 - (l+m) by omega)
   show (l+m)+w.tape w.drawn q%(2^63 - (l+m))<9223372036854775808
   omega
  let w1:World:={ w with drawn:=w.drawn+1 }
  have hold:(Builtin.firstCells sz l (.slice p l c)).run P w1=.ok xs.toArray w1:=by
   rcases hS3 with ⟨hon,rfl,⟨ex,hcs⟩,hclen⟩|⟨hoff,rfl,rfl⟩
   ·simp only[Builtin.firstCells]
    rw[← hl1]
    refine vX w1 xs 0 ?_
    intro j v hj
    have hb:Blk w1 y.b y.T y.cs:=hy hon
    rw[Nat.zero_add,hb.cell,hcs]
    rw[aq (List.getElem?_eq_some_iff.1 hj).1]
    exact hj
   ·have hxs0:xs=[]:=by
     have:l=0:=by omega
     subst this
     cases xs<;>simp_all
    subst hxs0
    simp[Builtin.firstCells]
  have hnew:=hx w1 (fun _ _ h=>h)
  let rest:=Builtin.zeroCells z.cells (c' - (l+m))
  let w2:World:={ w1 with heap:=w1.heap.push (.cells (xs.toArray++ys.toArray++rest) T) }
  refine ⟨⟨w.heap.size,T,xs++ys++rest.toList,true,true,none⟩,some ⟨w.heap.size,0,none⟩,c',w2,?_,rfl,rfl,⟨by simp[hl1,hys,Nat.add_mul],hc',.inl ⟨rfl,rfl,⟨_,rfl⟩,?_⟩⟩,.fresh rfl ⟨rfl,rfl,rfl,rfl,?_⟩,.inr hc9⟩
  ·have hcap':¬(2^48<Builtin.nextslicecap (l+m) c*ti.bytes):=by rw[hby'];exact hcap
   simp only[Builtin.append_]
   have hold':(Builtin.firstCells sz l (.slice p l c)).run P w.drew=.ok xs.toArray w.drew:=hold
   have hnew':(Builtin.firstCells sz m x).run P w.drew=.ok ys.toArray w.drew:=hnew
   have hrow:∀(cells:Array Value) (w0:World),(newRow T cells).run P w0=.ok ⟨w0.heap.size,0,none⟩ (w0.alloc (.cells cells T)):=fun cells w0=>rfl
   have hfo:(Question.appendCap (l+m) c T).forced=false:=rfl
   have hi':¬((9223372036854775807:Int)<(l:Int)+(m:Int)∧ti.bytes=0):=by omega
   rcases hdx with ⟨e,rfl⟩|rfl
   ·simp[hu,hux,hT.hsz,hlen,hroom,hti,hcap',hz,hold',hnew',hfo,hi',w1,w2,rest,c',q,hrow]
    congr 2
    apply Array.toList_inj.1
    simp
   ·simp[hu,hux,hT.hsz,hlen,hroom,hti,hcap',hz,hold',hnew',hfo,hi',w1,w2,rest,c',q,hrow]
    congr 2
    apply Array.toList_inj.1
    simp
  ·simp[hl1,hys,rest,QI,hzs, ← Nat.add_mul]
   rw[show l+(m+(c' - (l+m)))=c' by omega]
  ·simp only[w2,w1]
   congr 2
   apply Array.toList_inj.1
   simp
theorem qdr {xT rt:Nat} {dx:TypeDesc} {x:Value} {y:Ent} {ys:List Value} (hu:∀w,(underlying sT).run P w=.ok (.slice T) w) (hux:∀w,(underlying xT).run P w=.ok dx w)
  (hdx:(∃e,dx=.slice e)∨dx=.string) (hT:ElT P T sz by_) (hby:by_≤1000) (hyT:y.T=T) (hy:y.on=true→Blk w y.b y.T y.cs) (hwr:y.wr=true) (hS:SlE y p l c sz xs)
  (hlen:∀w,(Builtin.lenOf x).run P w=.ok m w) (hx:∀w1:World,(∀(b:Nat) (o:Obj),w.heap[b]? =some o→w1.heap[b]? =some o)→(Builtin.firstCells sz m x).run P w1=.ok ys.toArray w1) (hys:ys.length=m*sz) (hsc:ys.all scal=true) (hbig:l+m≤100000000000):
  ∃y' p' c' w',(Builtin.append_ #[sT,xT] rt #[.slice p l c,x]).run P w=.ok (.slice p' (l+m) c') w'∧y'.T=T∧y'.wr=true∧SlE y' p' (l+m) c' sz (xs++ys)∧AppW w w' y y' xs.length ys:=by
 obtain ⟨y',p',c',w',h1,h2,h3,h4,h5, -⟩:=Yh (rt:=rt) hu hux hdx hT hby hyT hy hwr hS hlen hx hys hsc hbig
 exact ⟨y',p',c',w',h1,h2,h3,h4,h5⟩
end
theorem Hp.putNew {f:Fm}:∀{H:ko} {i:Nat},Hp f w H→f.ok w→New w w' b (.cells cs.toArray T (0,0))→Hp f w' (yn H i ⟨b,T,cs,true,true,none⟩)
 |[],_,_,_,_=>trivial
 |x::r,0,h,hf,hn=>by
    refine ⟨⟨fun _=>by simpa using hn.blk,fun o ho=>by simp at ho⟩,fun _ _=>.inl (by rw[hn.num];exact hf.size),?_,h.2.2.2.mono fun y _ _ o hy=>hn.keepO hy⟩
    intro _ y hy ho
    have:=(h.2.2.2.has hy).lt ho
    have:=hn.num
    simp only
    omega
 |x::r,i+1,h,hf,hn=>by
    refine ⟨⟨fun ho=>hn.keepB (h.1.row ho),fun o ho=>hn.keepO (h.1.obj o ho)⟩,h.2.1,?_,Hp.putNew h.2.2.2 hf hn⟩
    intro ho z hz hzo
    rcases Zf hz with rfl|hz
    ·have:=h.1.lt ho
     have:=hn.num
     simp only
     omega
    ·exact h.2.2.1 ho z hz hzo
theorem Hp.app {f:Fm} {H:ko} {y y':Ent} (h:Hp f w H) (hf:f.ok w) (hy:H[i]? =some y) (hob:y.ob=none) (hwr:y.wr=true) {ys:List Value} (ha:AppW w w' y y' n ys):Hp f w' (yn H i y')∧f.ok w':=by
 cases ha with
 |same h1 h2 _=>
  subst h1;subst h2
  rw[JR hy]
  exact ⟨h,hf⟩
 |inplace hon hb hu _=>
  have h1:=h.upd hy hon hu hob
  rw[QL hy]at h1
  rw[hwr,hon,hob]at h1
  rw[hb]
  exact ⟨h1,hf.upd (h.get hy hon) (h.may (mG hy) hon hwr) hu⟩
 |fresh hy' hn=>
  rw[hy']
  exact ⟨h.putNew hf hn,hf.new hn⟩
section
variable {P:Program} {Q:Exit→Act→World→Prop} {n:Nat} {f:Fm} {e:Env} {H:ko} {ops:Array Oper} {rest:List Oper} {d ty:Nat} {pos:String} {af:Array Edge}
theorem KU {xT:Nat} {dx:TypeDesc} {s:Operand} {xv:Value} {y:Ent} {ys:List Value} (i:Nat) (hy:H[i]? =some y) (hyT:y.T=T) (hob:y.ob=none) (hwr:y.wr=true)
  (hu:∀w,(underlying sT).run P w=.ok (.slice T) w) (hux:∀w,(underlying xT).run P w=.ok dx w) (hdx:(∃e,dx=.slice e)∨dx=.string) (hT:ElT P T sz by_) (hby:Nat.ble by_ 1000=true)
  (hs:ev e s=some (.slice p l c)) (hxv:ev e x=some xv) (hS:SlE y p l c sz xs) (hlen:∀w,(Builtin.lenOf xv).run P w=.ok m w)
  (hx:∀w w1:World,Hp f w H→f.ok w→(∀(b:Nat) (o:Obj),w.heap[b]? =some o→w1.heap[b]? =some o)→(Builtin.firstCells sz m xv).run P w1=.ok ys.toArray w1) (hys:ys.length=m*sz) (hsc:ys.all scal=true) (hbig:l+m≤100000000000) (hd:Nat.blt d n=true)
  (k:∀y' p' c',y'.T=T→y'.wr=true→y'.ob=none→SlE y' p' (l+m) c' sz (xs++ys)→J P ops Q n f ((d,.slice p' (l+m) c')::e) (yn H i y') rest):
  J P ops Q n f e H (⟨some d,.call ⟨.builtin .append, #[s,x], #[sT,xT]⟩,ty,pos,af,none⟩::rest):=fun w hH hf=>by
 obtain ⟨y',p',c',w',hr,h1,h2,h3,h4⟩:=qdr (rt:=ty) hu hux hdx hT (by simpa using hby) hyT (fun ho=>hH.get hy ho) hwr hS hlen (fun w1 hk=>hx w w1 hH hf hk) hys hsc hbig
 obtain ⟨h5,h6⟩:=hH.app hf hy hob hwr h4
 refine L.valw hd (fun a ha=>?_) (k y' p' c' h1 h2 (by cases h4 with|same h _ _=>rw[h];exact hob|inplace _ h _ _=>rw[h]|fresh h _=>rw[h]) h3 w' h5 h6)
 simp only[execOp,resolve]
 simp[invoke,builtin,ha.ev hs,ha.ev hxv,hr]
theorem qkh {t:Nat} {y:Operand} (hi:i<9223372036854775807) (hx:ev e x=some (.int .i64 (i:Int))) (hy:ev e y=some (.int .i64 1)) (ha:Sat n e a):
  (execOp a.eval ⟨some d,.binOp .add t x y t',ty,pos,af,none⟩).run P w=.ok (.value (.int .i64 ((i+1:Nat):Int))) w:=by
 rw[Yj hx hy ha]
 congr 3
 simp[IntKind.wrap,IntKind.bits,IntKind.signed]
 omega
theorem vJ (p:Option Addr) (l c:Nat) (w:World):(Builtin.lenOf (.slice p l c)).run P w=.ok l w:=rfl
theorem qbk (s:ByteArray) (w:World):(Builtin.lenOf (.string s)).run P w=.ok s.size w:=rfl
theorem Zq {ys:List Value} (hb:Blk w b T cs) (h:(cs.drop o).take (m*sz)=ys) (hl:ys.length=m*sz):(Builtin.firstCells sz m (.slice (some ⟨b,o,none⟩) m c)).run P w=.ok ys.toArray w:=by
 simp only[Builtin.firstCells]
 rw[← hl]
 refine vX w ys o ?_
 subst h
 exact hb.mid o _
theorem qfz {s:Operand} {y:Ent} {ys:List Value} {bz Tz:Nat} (i:Nat) (hy:H[i]? =some y) (hyT:y.T=T) (hob:y.ob=none) (hwr:y.wr=true)
  (hu:∀w,(underlying sT).run P w=.ok (.slice T) w) (hT:ElT P T sz by_) (hby:Nat.ble by_ 1000=true)
  (hs:ev e s=some (.slice p l c)) (hxv:ev e x=some (.slice (some ⟨bz,0,none⟩) 1 1)) (hS:SlE y p l c sz xs)
  (hys:Nat.beq ys.length sz=true) (hsc:ys.all scal=true) (hbig:l+1≤100000000000) (hd:Nat.blt d n=true)
  (k:∀y' p' c',y'.T=T→y'.wr=true→y'.ob=none→SlE y' p' (l+1) c' sz (xs++ys)→J P ops Q n f ((d,.slice p' (l+1) c')::e) (yn H i y') rest):
  J P ops Q n f e (⟨bz,Tz,ys,true,true,none⟩::H) (⟨some d,.call ⟨.builtin .append, #[s,x], #[sT,sT]⟩,ty,pos,af,none⟩::rest):=by
 have hys':=Nat.eq_of_beq_eq_true hys
 refine KU (H:=⟨bz,Tz,ys,true,true,none⟩::H) (ys:=ys) (m:=1) (i+1) (by simpa using hy) hyT hob hwr hu hu (.inl ⟨_,rfl⟩) hT hby hs hxv hS (vJ _ _ _) ?_ ox hsc hbig hd ?_
 ·intro w w1 hH _ hk
  have hb:Blk w bz Tz ys:=hH.1.row rfl
  exact Zq (show Blk w1 bz Tz ys from hk _ _ hb) (by rw[List.drop_zero,tL ox]) ox
 ·intro y' p' c' h1 h2 h3 h4
  exact J.heap (yn H i y') (fun w hH _=>hH.2.2.2) (k y' p' c' h1 h2 h3 h4)
theorem Qe (T:Nat) (cells:Array Value) (w:World):(newRow T cells).run P w=.ok ⟨w.heap.size,0,none⟩ { w with heap:=w.heap.push (.cells cells T) }:=rfl
theorem Yr {t:Nat} {z:Value} (hu:∀w,(underlying t).run P w=.ok (.slice T) w) (hsz:∀w,(sizeOf T).run P w=.ok sz w) (hz:∀w,(zeroValue T).run P w=.ok z w) (hv:v.cells.size=sz) (h0:0<sz) (hbig:sz≤1000) (w:World):
  (Instr.buildSlice t 1 #[(0,v)]).run P w=.ok (.slice (some ⟨w.heap.size,0,none⟩) 1 1) { w with heap:=w.heap.push (.cells v.cells T) }:=by
 have hfill:Instr.fill (fun i=>some (i*sz,sz)) ((Array.range (1*sz)).map (fun i=>z.cells[i%z.cells.size]!)) [(0,v)]=some v.cells:=by
  simp only[Instr.fill,Nat.zero_mul]
  have hc:¬((v.cells.size≠sz||0+v.cells.size>((Array.range (1*sz)).map (fun i=>z.cells[i%z.cells.size]!)).size)=true):=by
   simp[hv]
  rw[if_neg hc]
  have h2:=VZ v.cells.toList ((Array.range (1*sz)).map (fun i=>z.cells[i%z.cells.size]!)).toList 0 0
  have h3:=Kl v.cells.toList [] ((Array.range (1*sz)).map (fun i=>z.cells[i%z.cells.size]!)).toList (by simp[hv])
  simp only[List.nil_append,List.length_nil]at h3
  rw[← Array.foldl_toList,Array.toList_zipIdx]
  simp only[Nat.zero_add]at h2⊢
  rw[Array.toArray_toList]at h2
  rw[h2,h3]
  rw[List.drop_of_length_le (by simp[hv])]
  simp
 have hgt:¬(2^24<1*sz):=by omega
 have hn0:¬(1*sz=0):=by omega
 simp only[Instr.buildSlice]
 simp only[Sem.run_bind,hu,Result.andThen_ok,hsz,Sem.run_ite,if_neg hgt,if_neg hn0,hz,Sem.run_pure,gt_iff_lt]
 rw[hfill]
 rfl
theorem kj {t:Nat} {z:Value} (hu:∀w,(underlying t).run P w=.ok (.slice T) w) (hsz:∀w,(sizeOf T).run P w=.ok sz w) (hz:∀w,(zeroValue T).run P w=.ok z w) (hx:ev e x=some v)
  (hv:Nat.beq v.cells.size sz=true) (h0:Nat.blt 0 sz=true) (hbig:Nat.ble sz 1000=true) (hd:Nat.blt d n=true)
  (k:∀b,J P ops Q n f ((d,.slice (some ⟨b,0,none⟩) 1 1)::e) (⟨b,T,v.cells.toList,true,true,none⟩::H) rest):J P ops Q n f e H (⟨some d,.buildSlice t 1 #[(0,x)],ty,pos,af,none⟩::rest):=fun w hH hf=>by
 have hr:=Yr (P:=P) hu hsz hz (Nat.eq_of_beq_eq_true hv) (by simpa using h0) (by simpa using hbig) w
 have hn:New w { w with heap:=w.heap.push (.cells v.cells T) } w.heap.size (.cells v.cells T (0,0)):=⟨rfl,rfl,rfl,rfl,rfl⟩
 refine L.valw hd (fun a ha=>?_) (k w.heap.size _ (hH.new hf hn) (hf.new hn))
 simp only[execOp]
 simp[ha.ev hx,hr]
theorem vw {t:Nat} (hu:∀w,(underlying t).run P w=.ok (.slice T) w) (hsz:∀w,(sizeOf T).run P w=.ok sz w) (hd:Nat.blt d n=true)
  (k:∀b,J P ops Q n f ((d,.slice (some ⟨b,0,none⟩) 0 0)::e) (⟨b,T,[],true,true,none⟩::H) rest):J P ops Q n f e H (⟨some d,.buildSlice t 0 #[],ty,pos,af,none⟩::rest):=fun w hH hf=>by
 have hn:New w { w with heap:=w.heap.push (.cells #[] T) } w.heap.size (.cells #[] T (0,0)):=⟨rfl,rfl,rfl,rfl,rfl⟩
 refine L.valw hd (fun a ha=>?_) (k w.heap.size _ (hH.new hf hn) (hf.new hn))
 simp only[execOp,Instr.buildSlice]
 simp[hu,hsz,Instr.fill,Qe]
 congr 2
 apply Array.toList_inj.1
 simp
theorem ZH {t:Nat} (hu:∀w,(underlying t).run P w=.ok (.slice T) w) (hT:ElT P T sz by_) (hby:by_≤1000) (hlc:l≤c) (hbig:c≤100000000000) (w:World):
  ∃cs:List Value,(Instr.makeSlice t (.int .i64 l) (.int .i64 c)).run P w=.ok (.slice (some ⟨w.heap.size,0,none⟩) l c) { w with heap:=w.heap.push (.cells cs.toArray T) }∧cs.length=c*sz∧
   (∀z:Value,(∀w,(zeroValue T).run P w=.ok z w)→cs=(List.range (c*sz)).map (fun i=>z.cells[i%z.cells.size]!)):=by
 obtain ⟨ti,hti,hby'⟩:=hT.hinf
 obtain ⟨z,hz,hzs⟩:=hT.hz
 refine ⟨(List.range (c*sz)).map (fun i=>z.cells[i%z.cells.size]!),?_,by simp,?_⟩
 ·have hwl:IntKind.i64.wrap (l:Int)=l:=by simp[IntKind.wrap,IntKind.bits,IntKind.signed];omega
  have hwc:IntKind.i64.wrap (c:Int)=c:=by simp[IntKind.wrap,IntKind.bits,IntKind.signed];omega
  have hmul:by_*c≤1000*100000000000:=Nat.mul_le_mul hby hbig
  have hcond:((decide ((c:Int)<0)||decide ((ti.bytes:Int)*(c:Int)>2^48))||decide ((l:Int)<0)||decide ((l:Int)>(c:Int)))=false:=by
   rw[hby']
   simp only[Bool.or_eq_false_iff,decide_eq_false_iff_not]
   refine ⟨⟨⟨by omega,?_⟩,by omega⟩,by omega⟩
   rw[← Int.natCast_mul]
   omega
  have hask:∀k w,(askRoom k).run P w=.ok () w:=by
   intro k w
   unfold askRoom
   split<;>rfl
  simp only[Instr.makeSlice]
  simp only[Sem.run_bind,hu,Result.andThen_ok,asInt,asIntOf,Sem.run_pure,hti,hwl,hwc,hcond,Bool.false_eq_true,if_false,hask,hT.hsz,Int.toNat_natCast]
  by_cases h0:c*sz=0
  ·simp[h0,Qe]
   congr 2
   apply Array.toList_inj.1
   simp
  ·simp[h0,hz,Qe]
   congr 3
   apply Array.toList_inj.1
   simp
 ·intro z' hz'
  have h1:=(hz w).symm.trans (hz' w)
  simp at h1
  rw[h1]
theorem qlD {t:Nat} {y:Operand} (hu:∀w,(underlying t).run P w=.ok (.slice T) w) (hT:ElT P T sz by_) (hby:Nat.ble by_ 1000=true) (hx:ev e x=some (.int .i64 l)) (hy:ev e y=some (.int .i64 c)) (hlc:l≤c) (hbig:c≤100000000000) (hd:Nat.blt d n=true)
  (k:∀b cs,cs.length=c*sz→(∀z:Value,(∀w,(zeroValue T).run P w=.ok z w)→cs=(List.range (c*sz)).map (fun i=>z.cells[i%z.cells.size]!))→
   J P ops Q n f ((d,.slice (some ⟨b,0,none⟩) l c)::e) (⟨b,T,cs,true,true,none⟩::H) rest):J P ops Q n f e H (⟨some d,.makeSlice t x y,ty,pos,af,none⟩::rest):=fun w hH hf=>by
 obtain ⟨cs,hr,h1,h2⟩:=ZH (P:=P) hu hT (by simpa using hby) hlc hbig w
 have hn:New w { w with heap:=w.heap.push (.cells cs.toArray T) } w.heap.size (.cells cs.toArray T (0,0)):=⟨rfl,rfl,rfl,rfl,rfl⟩
 refine L.valw hd (fun a ha=>?_) (k w.heap.size cs h1 h2 _ (hH.new hf hn) (hf.new hn))
 simp only[execOp]
 simp[ha.ev hx,ha.ev hy,hr]
end
section
variable {κ:Type} [DecidableEq κ]
def mix:List (κ×Value)→κ→Nat→Option (Nat×Value)
 |[],_,_=>none
 |(k',v)::r,k,i=>if k=k' then some (i,v) else mix r k (i+1)
def xK (ms:List (κ×Value)) (k:κ):Option Value:=(mix ms k 0).map (·.2)
def Jm:List (κ×Value)→κ→Value→List (κ×Value)
 |[],k,v=>[(k,v)]
 |(k',u)::r,k,v=>if k=k' then (k',v)::r else (k',u)::Jm r k v
theorem Vl (ms:List (κ×Value)) (k:κ) (i:Nat):mix ms k i=(mix ms k 0).map fun p=>(p.1+i,p.2):=by
 induction ms generalizing i with
 |nil=>rfl
 |cons p r ih=>
  obtain ⟨k',v⟩:=p
  simp only[mix]
  split
  ·simp
  ·rw[ih (i+1),ih 1]
   cases mix r k 0<;>simp;omega
theorem Kb (k:κ):xK ([]:List (κ×Value)) k=none:=rfl
theorem Jb (k':κ) (v:Value) (r:List (κ×Value)) (k:κ):xK ((k',v)::r) k=if k=k' then some v else xK r k:=by
 unfold xK
 simp only[mix]
 split
 ·rfl
 ·rw[Vl r k 1]
  cases mix r k 0<;>simp
theorem XO (ms:List (κ×Value)) (k j:κ) (v:Value):xK (Jm ms k v) j=if j=k then some v else xK ms j:=by
 induction ms with
 |nil=>simp[Jm,Jb,Kb]
 |cons p r ih=>
  obtain ⟨k',u⟩:=p
  simp only[Jm]
  split
  ·rename_i h
   subst h
   simp only[Jb]
   split<;>rfl
  ·rename_i h
   simp only[Jb,ih]
   by_cases hj:j=k
   ·subst hj;simp[h]
   ·simp[hj]
theorem JT {ms:List (κ×Value)} {k:κ}:xK ms k=none↔k∉ms.map (·.1):=by
 induction ms with
 |nil=>simp[Kb]
 |cons p r ih=>
  obtain ⟨k',u⟩:=p
  rw[Jb]
  by_cases h:k=k'
  ·simp[h]
  ·simp[h,ih]
theorem qcq {ms:List (κ×Value)} {k:κ} (h:xK ms k=some v):(k,v)∈ms:=by
 induction ms with
 |nil=>simp[Kb]at h
 |cons p r ih=>
  obtain ⟨k',u⟩:=p
  rw[Jb]at h
  by_cases hk:k=k'
  ·simp[hk]at h;simp[hk,h]
  ·simp[hk]at h;simp[ih h]
theorem qcp {ms:List (κ×Value)} (hn:(ms.map (·.1)).Nodup) {k:κ} (h:(k,v)∈ms):xK ms k=some v:=by
 induction ms with
 |nil=>simp at h
 |cons p r ih=>
  obtain ⟨k',u⟩:=p
  simp only[List.map_cons,List.nodup_cons]at hn
  rw[Jb]
  rcases mC h with h2|h2
  ·simp only[Prod.mk.injEq]at h2;simp[h2.1,h2.2]
  ·have hne:k≠k':=by
     rintro rfl
     exact hn.1 (List.mem_map.2 ⟨(k,v),h2,rfl⟩)
   simp[hne,ih hn.2 h2]
theorem qfi (ms:List (κ×Value)) (k:κ) (v:Value):(Jm ms k v).map (·.1)=if k∈ms.map (·.1) then ms.map (·.1) else ms.map (·.1)++[k]:=by
 induction ms with
 |nil=>simp[Jm]
 |cons p r ih=>
  obtain ⟨k',u⟩:=p
  simp only[Jm]
  by_cases h:k=k'
  ·simp[h]
  ·simp only[h,if_false,List.map_cons,ih,List.mem_cons,false_or]
   split<;>simp
theorem Ze {ms:List (κ×Value)} (hn:(ms.map (·.1)).Nodup) (k:κ) (v:Value):((Jm ms k v).map (·.1)).Nodup:=by
 rw[qfi]
 split
 ·exact hn
 ·rename_i h
  rw[List.nodup_append]
  refine ⟨hn,by simp,?_⟩
  intro a ha b hb
  simp at hb
  subst hb
  rintro rfl
  exact h ha
structure vA (enc:κ→Value) (ms:List (κ×Value)) (es:List MapEntry) (ck:Nat):Prop where
 kv:es.map (fun x=>(x.key,x.val))=ms.map fun p=>(enc p.1,p.2)
 keys:(ms.map (·.1)).Nodup
 born:(es.map (·.born)).Nodup
 lt:∀x∈es,x.born<ck
structure Xb (P:Program) (kt:Nat) (enc:κ→Value) (ok:World→κ→Prop):Prop where
 check:∀w em k,(Instr.checkKey em 10000 kt (enc k)).run P w=.ok () w
 find:∀(w:World) (ms:List (κ×Value)) (es:List MapEntry) (k:κ),es.map (fun x=>(x.key,x.val))=ms.map (fun p=>(enc p.1,p.2))→(∀p∈ms,ok w p.1)→ok w k→(Instr.findKey kt (enc k) es).run P w=.ok (mix ms k 0) w
 bits:∀k,Instr.sameBits 10000 (enc k) (enc k)=true
theorem Yf {ds:TypeDesc} {enc:κ→Value} {k:κ} (hs:∀k k',Instr.sameNow ds (enc k) (enc k')=some (decide (k=k'))):∀(ms:List (κ×Value)) (es:List MapEntry) (i:Nat),es.map (fun x=>(x.key,x.val))=ms.map (fun p=>(enc p.1,p.2))→
  Instr.findNow ds (enc k) es i=some (mix ms k i)
 |[],es,i,h=>by
    cases es with
    |nil=>rfl
    |cons x es=>simp at h
 |(k',v)::r,es,i,h=>by
     cases es with
     |nil=>simp at h
     |cons x es=>
      simp only[List.map_cons,List.cons.injEq,Prod.mk.injEq]at h
      simp only[Instr.findNow,mix,h.1.1,h.1.2,hs]
      by_cases hk:k=k'
      ·simp[hk]
      ·simp only[hk,decide_false,if_false]
       exact Yf hs r es (i+1) h.2
theorem Xb.of_now {kt:Nat} {enc:κ→Value} (hu:∃ds,(∀w,(underlying kt).run P w=.ok ds w)∧∀k k',Instr.sameNow ds (enc k) (enc k')=some (decide (k=k'))) (hc:∀w em k,(Instr.checkKey em 10000 kt (enc k)).run P w=.ok () w)
  (hb:∀k,Instr.sameBits 10000 (enc k) (enc k)=true):Xb P kt enc (fun _ _=>True):=by
 refine ⟨hc,?_,hb⟩
 intro w ms es k h _ _
 obtain ⟨ds,hds,hn⟩:=hu
 simp only[Instr.findKey]
 simp only[Sem.run_bind,hds,Result.andThen_ok,Yf hn ms es 0 h]
 rfl
end
theorem qil (x y:ByteArray):(x==y)=decide (x=y):=by
 have h:(x==y)=(x.data==y.data):=by cases x;cases y;rfl
 rw[h,Bool.eq_iff_iff]
 cases x;cases y
 simp
theorem qbC {kt:Nat} (hu:∀w,(underlying kt).run P w=.ok .string w) (m:Nat) (em:Bool) (k:ByteArray) (w:World):(Instr.checkKey em (m+1) kt (.string k)).run P w=.ok () w:=by
 simp only[Instr.checkKey,Sem.run_bind,hu,Result.andThen_ok];rfl
theorem qfQ {kt:Nat} (hu:∀w,(underlying kt).run P w=.ok (.int kd) w) (m:Nat) (em:Bool) (k:Int) (w:World):(Instr.checkKey em (m+1) kt (.int kd k)).run P w=.ok () w:=by
 simp only[Instr.checkKey,Sem.run_bind,hu,Result.andThen_ok];rfl
theorem qR {kt:Nat} (hu:∀w,(underlying kt).run P w=.ok .string w):Xb P kt Value.string (fun _ _=>True):=by
 refine Xb.of_now ⟨_,hu,fun k k'=>?_⟩ (fun w em k=>qbC hu 9999 em k w) (fun k=>?_)
 ·simp only[Instr.sameNow,qil]
 ·have h:∀m,Instr.sameBits m (.string k) (.string k)=true:=fun m=>by cases m<;>simp[Instr.sameBits,qil]
  exact h _
theorem xN {kt:Nat} (hu:∀w,(underlying kt).run P w=.ok (.int kd) w):Xb P kt (Value.int kd) (fun _ _=>True):=by
 refine Xb.of_now ⟨_,hu,fun k k'=>?_⟩ (fun w em k=>qfQ hu 9999 em k w) (fun k=>?_)
 ·simp only[Instr.sameNow]
  have:(k==k')=decide (k=k'):=by rw[Bool.eq_iff_iff];simp
  simp[this]
 ·have h:∀m,Instr.sameBits m (.int kd k) (.int kd k)=true:=fun m=>by cases m<;>simp[Instr.sameBits]
  exact h _
section
variable {κ:Type} [DecidableEq κ] {enc:κ→Value} {ms:List (κ×Value)} {es:List MapEntry} {ck:Nat}
omit [DecidableEq κ] in
theorem vA.nil:vA enc [] [] 0:=⟨rfl,by simp,by simp,by simp⟩
omit [DecidableEq κ] in
theorem vA.length (h:vA enc ms es ck):es.length=ms.length:=by
 have:=congrArg List.length h.kv
 simpa using this
theorem Yl {k:κ} (h:mix ms k 0=some (i,v)):ms[i]? =some (k,v):=by
 induction ms generalizing i with
 |nil=>simp[mix]at h
 |cons p r ih=>
  obtain ⟨k',u⟩:=p
  simp only[mix]at h
  split at h
  ·rename_i hk
   simp at h
   obtain ⟨rfl,rfl⟩:=h
   simp[hk]
  ·rw[Vl]at h
   cases hm:mix r k 0 with
   |none=>simp[hm]at h
   |some q=>
    obtain ⟨j,u'⟩:=q
    simp only[hm,Option.map_some,Option.some.injEq,Prod.mk.injEq]at h
    obtain ⟨rfl,rfl⟩:=h
    simpa using ih hm
theorem qbf {k:κ} {u:Value} (h:mix ms k 0=some (i,v)):Jm ms k u=ms.modify i fun p=>(p.1,u):=by
 induction ms generalizing i with
 |nil=>simp[mix]at h
 |cons p r ih=>
  obtain ⟨k',v'⟩:=p
  simp only[mix]at h
  simp only[Jm]
  split at h
  ·rename_i hk
   simp at h
   obtain ⟨rfl,rfl⟩:=h
   simp[hk]
  ·rename_i hk
   rw[Vl]at h
   cases hm:mix r k 0 with
   |none=>simp[hm]at h
   |some q=>
    obtain ⟨j,u'⟩:=q
    simp only[hm,Option.map_some,Option.some.injEq,Prod.mk.injEq]at h
    obtain ⟨rfl,rfl⟩:=h
    simp[hk,ih hm]
theorem qbg {k:κ} {u:Value} (h:mix ms k 0=none):Jm ms k u=ms++[(k,u)]:=by
 induction ms with
 |nil=>rfl
 |cons p r ih=>
  obtain ⟨k',v'⟩:=p
  simp only[mix]at h
  simp only[Jm]
  split at h
  ·simp at h
  ·rename_i hk
   rw[Vl]at h
   have:mix r k 0=none:=by cases hm:mix r k 0<;>simp_all
   simp[hk,ih this]
theorem vA.set_some (h:vA enc ms es ck) {k:κ} {u:Value} (hm:mix ms k 0=some (i,v)):vA enc (Jm ms k u) (es.modify i fun x=>{ x with key:=enc k,val:=u }) ck:=by
 have hi:=Yl hm
 refine ⟨?_,Ze h.keys k u,?_,?_⟩
 ·rw[qbf hm]
  apply List.ext_getElem?
  intro j
  have hj:=congrArg (fun l=>l[j]?) h.kv
  simp only[List.getElem?_map]at hj
  simp only[List.getElem?_map,List.getElem?_modify,Option.map_eq_map]
  by_cases hij:i=j
  ·subst hij
   rw[hi]at hj⊢
   simp only[Option.map_some,Option.map_eq_some_iff]at hj
   obtain ⟨x,hx,_⟩:=hj
   simp[hx]
  ·simp only[hij,if_false,Option.map_map]
   exact hj
 ·have:(es.modify i fun x=>{ x with key:=enc k,val:=u }).map (·.born)=es.map (·.born):=by
   apply List.ext_getElem?
   intro j
   simp only[List.getElem?_map,List.getElem?_modify]
   cases es[j]? <;>simp
   split<;>rfl
  rw[this];exact h.born
 ·intro x hx
  obtain ⟨j,hj⟩:=List.mem_iff_getElem?.1 hx
  rw[List.getElem?_modify,Option.map_eq_map]at hj
  cases hq:es[j]? with
  |none=>simp[hq]at hj
  |some y=>
   simp only[hq,Option.map_some,Option.some.injEq]at hj
   have:=h.lt y (mG hq)
   subst hj
   split<;>exact this
theorem vA.set_none (h:vA enc ms es ck) {k:κ} {u:Value} (hm:mix ms k 0=none):vA enc (Jm ms k u) (es++[{ key:=enc k,val:=u,born:=ck }]) (ck+1):=by
 refine ⟨?_,Ze h.keys k u,?_,?_⟩
 ·rw[qbg hm];simp[h.kv]
 ·rw[List.map_append,List.nodup_append]
  refine ⟨h.born,by simp,?_⟩
  intro a ha b hb
  simp at hb
  subst hb
  obtain ⟨x,hx,rfl⟩:=List.mem_map.1 ha
  have:=h.lt x hx
  omega
 ·intro x hx
  rcases mA hx with hx|hx
  ·have:=h.lt x hx;omega
  ·simp at hx;subst hx;simp
variable {P:Program} {kt vt mt:Nat} {ok:World→κ→Prop} {w:World} {b:Nat}
theorem vr {o:Obj} (ho:w.heap[b]? =some o) (hr:Obj.isRow o=false):(getObj b).run P w=.ok o w:=by
 simp only[getObj,Sem.run,ho]
 cases o<;>simp_all [Obj.isRow]
theorem VS {o o':Obj} (ho:w.heap[b]? =some o) (hr:Obj.isRow o=false):∃w',(setObj b o').run P w=.ok () w'∧Upd w w' b o':=by
 refine ⟨{ w with heap:=w.heap.setIfInBounds b o' },?_,⟨rfl,rfl,rfl,by simp,?_,?_⟩⟩
 ·simp only[setObj,Sem.run,ho]
  cases o<;>simp_all [Obj.isRow]
 ·have:=(Array.getElem?_eq_some_iff.1 ho).1
  simp[this]
 ·intro c hc
  simp[Array.getElem?_setIfInBounds_ne (Ne.symm hc)]
theorem Qf (hu:∀w,(underlying mt).run P w=.ok (.map kt vt) w) (hk:Xb P kt enc ok) (hM:vA enc ms es ck) (ho:w.heap[b]? =some (.map es.toArray ck)) (hok:∀p∈ms,ok w p.1) {k:κ} (hkk:ok w k) {z:Value} (hz:∀w,(zeroValue vt).run P w=.ok z w) (c:Bool):
  (Instr.lookup mt (.map (some b)) (enc k) c).run P w=.ok (if c then .tuple #[(xK ms k).getD z,.bool (xK ms k).isSome] else (xK ms k).getD z) w:=by
 simp only[Instr.lookup]
 simp only[Sem.run_bind,hu,Result.andThen_ok,vr ho rfl,Sem.run_pure,hk.check,hk.find w ms es k hM.kv hok hkk]
 unfold xK
 cases hm:mix ms k 0 with
 |none=>cases c<;>simp[hz]
 |some q=>obtain ⟨i,v⟩:=q;cases c<;>simp
theorem YX (hu:∀w,(underlying mt).run P w=.ok (.map kt vt) w) (hk:Xb P kt enc ok) {k:κ} (hkk:ok w k) {z:Value} (hz:∀w,(zeroValue vt).run P w=.ok z w) (c:Bool):
  (Instr.lookup mt (.map none) (enc k) c).run P w=.ok (if c then .tuple #[z,.bool false] else z) w:=by
 have hf:=hk.find w ([]:List (κ×Value)) [] k rfl zp hkk
 simp only[Instr.lookup]
 simp only[Sem.run_bind,hu,Result.andThen_ok,Sem.run_pure,hk.check]
 simp only[hf,Result.andThen_ok,mix,Sem.run_bind,hz,Sem.run_pure]
theorem qaW (hk:Xb P kt enc ok) (k:κ):(Instr.keyThatStays (enc k) (enc k)).run P w=.ok (enc k) w:=by
 simp[Instr.keyThatStays,hk.bits]
theorem ZG (hu:∀w,(underlying mt).run P w=.ok (.map kt vt) w) (hk:Xb P kt enc ok) (hM:vA enc ms es ck) (ho:w.heap[b]? =some (.map es.toArray ck)) (hok:∀p∈ms,ok w p.1) {k:κ} (hkk:ok w k) (u:Value):
  ∃es' ck' w',(Instr.mapUpdate mt (.map (some b)) (enc k) u).run P w=.ok () w'∧vA enc (Jm ms k u) es' ck'∧Upd w w' b (.map es'.toArray ck'):=by
 cases hm:mix ms k 0 with
 |none=>
  obtain ⟨w',h1,h2⟩:=VS (P:=P) (o':=.map (es++[({ key:=enc k,val:=u,born:=ck }:MapEntry)]).toArray (ck+1)) ho rfl
  refine ⟨_,_,w',?_,hM.set_none hm,h2⟩
  simp only[Instr.mapUpdate]
  simp only[Sem.run_bind,hu,Result.andThen_ok,vr ho rfl,hk.check,hk.find w ms es k hM.kv hok hkk,hm]
  rw[show es.toArray.push ({ key:=enc k,val:=u,born:=ck }:MapEntry)=(es++[({ key:=enc k,val:=u,born:=ck }:MapEntry)]).toArray by simp]
  exact h1
 |some q=>
  obtain ⟨i,v⟩:=q
  have hi:=Yl hm
  have hj:=congrArg (fun l=>l[i]?) hM.kv
  simp only[List.getElem?_map,hi,Option.map_some,Option.map_eq_some_iff]at hj
  obtain ⟨x,hx,hxk⟩:=hj
  simp only[Prod.mk.injEq]at hxk
  obtain ⟨w',h1,h2⟩:=VS (P:=P) (o':=.map (es.modify i fun x=>{ x with key:=enc k,val:=u }).toArray ck) ho rfl
  refine ⟨_,_,w',?_,hM.set_some hm,h2⟩
  have hkey:((es.toArray[i]?).map (·.key)).getD (enc k)=enc k:=by simp[hx,hxk.1]
  simp only[Instr.mapUpdate]
  simp only[Sem.run_bind,hu,Result.andThen_ok,vr ho rfl,hk.check,hk.find w ms es k hM.kv hok hkk,hm,hkey,qaW hk]
  rw[show (es.toArray.modify i fun (x:MapEntry)=>{ x with key:=enc k,val:=u })=(es.modify i fun (x:MapEntry)=>{ x with key:=enc k,val:=u }).toArray by simp]
  exact h1
end
section
variable {κ:Type} [DecidableEq κ] {enc:κ→Value} {ms:List (κ×Value)} {es:List MapEntry} {ck:Nat} {P:Program} {kt vt mt:Nat} {ok:World→κ→Prop} {w:World} {b:Nat}
def qml (w:World) (it b since:Nat) (seen:List Nat) (stepped:Nat):Prop:=w.heap[it]? =some (.mapIter (some b) since seen.toArray stepped)
theorem qad (hu:∀w,(underlying mt).run P w=.ok (.map kt vt) w) (ho:w.heap[b]? =some (.map es.toArray ck)):
  (Instr.range mt (.map (some b))).run P w=.ok (.pointer (some ⟨w.heap.size,0,none⟩)) { w with heap:=w.heap.push (.mapIter (some b) ck #[] ck) }:=by
 simp only[Instr.range]
 simp only[Sem.run_bind,hu,Result.andThen_ok,vr ho rfl,Sem.run_pure]
 rfl
theorem qbR {it since stepped rt:Nat} {seen:List Nat} (hi:qml w it b since seen stepped) (ho:w.heap[b]? =some (.map es.toArray ck)) (hlt:∀x∈es,x.born<since) (hst:since≤stepped):
  (∃w',(Instr.next (.pointer (some ⟨it,0,none⟩)) false rt).run P w=.ok (.tuple #[.bool false]) w'∧w'.heap=w.heap∧w'.os=w.os∧w'.tape=w.tape∧w'.output=w.output∧∀x∈es,x.born∈seen)∨
  (∃w' x,(Instr.next (.pointer (some ⟨it,0,none⟩)) false rt).run P w=.ok (.tuple #[.bool true,x.key,x.val]) w'∧Upd w w' it (.mapIter (some b) since (seen++[x.born]).toArray ck)∧x∈es∧x.born∉seen):=by
 have hall:(!seen.toArray.isEmpty&& !es.toArray.isEmpty&&es.toArray.all (fun x=>decide (x.born≥stepped)))=false:=by
  cases es with
  |nil=>simp
  |cons x es=>
   have:=hlt x zp
   simp
   intro _ _
   omega
 let left:=es.filter fun e=> !seen.contains e.born
 have hleft:(es.toArray.filter fun e=> !seen.toArray.contains e.born)=left.toArray:=by simp[left]
 have hold:(left.toArray.filter fun e=>decide (e.born<since))=left.toArray:=by
  have:left.filter (fun e=>decide (e.born<since))=left:=by
   rw[List.filter_eq_self]
   intro x hx
   have:=hlt x (List.mem_filter.1 hx).1
   simpa using this
  simp[this]
 have hnew:(left.toArray.filter fun e=>decide (e.born≥since))= #[]:=by
  have:left.filter (fun e=>decide (e.born≥since))=[]:=by
   rw[List.filter_eq_nil_iff]
   intro x hx
   have:=hlt x (List.mem_filter.1 hx).1
   simp;omega
  simpa using this
 by_cases hnil:left=[]
 ·left
  refine ⟨w,?_,rfl,rfl,rfl,rfl,?_⟩
  ·simp only[Instr.next]
   simp only[Sem.run_bind,vr hi rfl,Result.andThen_ok,vr ho rfl,hall,Bool.false_eq_true,if_false]
   rw[hleft,hold,hnew,hnil]
   simp[choose,Sem.run,Question.forced]
  ·intro x hx
   have h1:x∉left:=by rw[hnil];simp
   have h2:¬(!seen.contains x.born)=true:=fun h=>h1 (List.mem_filter.2 ⟨hx,h⟩)
   simpa using h2
 ·right
  have hlen:0<left.length:=List.length_pos_iff.2 hnil
  let cands:Array (Option MapEntry):=(left.toArray++(#[]:Array MapEntry)).map some
  have hcs:cands.size=left.length:=by simp[cands]
  -- the choice
  have hch:∃(j:Nat) (w1:World),(choose (.mapNext left.length)).run P w=.ok j w1∧j<left.length∧w1.heap=w.heap∧w1.os=w.os∧w1.tape=w.tape∧w1.output=w.output:=by
   by_cases h1:left.length≤1
   ·exact ⟨0,w,by simp[choose,Sem.run,Question.forced,h1],hlen,rfl,rfl,rfl,rfl⟩
   ·refine ⟨w.tape w.drawn (.mapNext left.length)%left.length,{ w with drawn:=w.drawn+1 },?_,Nat.mod_lt _ hlen,rfl,rfl,rfl,rfl⟩
    simp[choose,Sem.run,Question.forced,h1,Question.cut]
  obtain ⟨j,w1,hj1,hj2,hw1,hw2,hw3,hw4⟩:=hch
  have hx:left[j]? =some left[j]:=gE hj2
  have hmem:=List.mem_filter.1 (mG hx)
  have hit:w1.heap[it]? =some (.mapIter (some b) since seen.toArray stepped):=by rw[hw1];exact hi
  obtain ⟨w',h1,h2⟩:=VS (P:=P) (w:=w1) (o':=.mapIter (some b) since (seen++[left[j].born]).toArray ck) hit rfl
  refine ⟨w',left[j],?_,⟨h2.os.trans hw2,h2.tape.trans hw3,h2.output.trans hw4,h2.size.trans (by rw[hw1]),h2.at_,fun c hc=>(h2.rest c hc).trans (by rw[hw1])⟩,hmem.1,by simpa using hmem.2⟩
  simp only[Instr.next]
  simp only[Sem.run_bind,vr hi rfl,Result.andThen_ok,vr ho rfl,hall,Bool.false_eq_true,if_false]
  rw[hleft,hold,hnew]
  have hemp:left.toArray.isEmpty=false:=by simpa using hnil
  simp only[hemp,Bool.false_eq_true,if_false]
  have hc2:((#[]:Array (Option MapEntry))++(left.toArray++(#[]:Array MapEntry)).map some).size=left.length:=by simp
  rw[hc2,hj1]
  simp only[Result.andThen_ok]
  have hc3:((#[]:Array (Option MapEntry))++(left.toArray++(#[]:Array MapEntry)).map some)[j]? =some (some left[j]):=by
   simp[hx]
  rw[hc3]
  simp only[Sem.run_bind]
  rw[show seen.toArray.push left[j].born=(seen++[left[j].born]).toArray by simp,h1]
  rfl
end
abbrev mpE (b:Nat) (es:List MapEntry) (ck:Nat):Ent:=⟨b,0,[],true,false,some (.map es.toArray ck)⟩
abbrev itE (it b since:Nat) (seen:List Nat) (stepped:Nat):Ent:=⟨it,0,[],true,false,some (.mapIter (some b) since seen.toArray stepped)⟩
theorem Hp.dr {f:Fm} {H:ko} (h:Hp f w H) (hd:Dr w w'):Hp f w' H:=h.mono fun _ _ _ o hb=>by rw[hd.heap];exact hb
section
variable {κ:Type} [DecidableEq κ] {enc:κ→Value} {ms:List (κ×Value)} {es:List MapEntry} {ck:Nat} {P:Program} {kt vt mt:Nat} {ok:World→κ→Prop}
variable {Q:Exit→Act→World→Prop} {n:Nat} {f:Fm} {e:Env} {H:ko} {ops:Array Oper} {rest:List Oper} {d ty:Nat} {pos:String} {af:Array Edge} {b:Nat}
theorem Hp.putO {o o':Obj} {wr:Bool} (h:Hp f w H) (hx:H[i]? =some ⟨b,0,[],wr,false,some o⟩) (hwr:wr=true) (hu:Upd w w' b o') (htag:KE o'=KE o) (hf:f.ok w):
  Hp f w' (yn H i ⟨b,0,[],wr,false,some o'⟩)∧f.ok w':=by
 have hm:=h.mayx (mG hx) (by simp[Ent.ex]) hwr
 refine ⟨h.put hx (by simp[Ent.ex]) rfl ?_ hu ⟨fun ho=>by simp at ho,fun o2 ho=>by simp at ho;subst ho;exact hu.at_⟩,hf.updO (h.obj hx rfl) hm hu⟩
 intro _ _
 simp only[Ent.tag]at hm⊢
 rw[htag]
 exact hm
theorem zO {t:Nat} {r:Option Operand} (hr:∀x,r=some x→(∃kt vt,∀w,(underlying t).run P w=.ok (.map kt vt) w)∧∃kd q,ev e x=some (.int kd q)) (hd:Nat.blt d n=true)
  (k:∀b,J P ops Q n f ((d,.map (some b))::e) (mpE b [] 0::H) rest):J P ops Q n f e H (⟨some d,.makeMap t r,ty,pos,af,none⟩::rest):=fun w hH hf=>by
 have hn:New w { w with heap:=w.heap.push (.map #[] 0) } w.heap.size (.map #[] 0):=⟨rfl,rfl,rfl,rfl,rfl⟩
 refine L.valw hd (fun a ha=>?_) (k w.heap.size _ (hH.newO hf hn) (hf.new hn))
 simp only[execOp,Instr.makeMap]
 cases r with
 |none=>simp[newObj,Sem.run]
 |some x=>
  obtain ⟨⟨kt,vt,hu⟩,kd,q,hx⟩:=hr x rfl
  simp[hu,ha.ev hx,asInt,asIntOf,newObj,Sem.run]
theorem qgN {m kx:Operand} {k:κ} {z:Value} (i:Nat) (hy:H[i]? =some (mpE b es ck)) (hu:∀w,(underlying mt).run P w=.ok (.map kt vt) w) (hk:Xb P kt enc ok) (hM:vA enc ms es ck) (hz:∀w,(zeroValue vt).run P w=.ok z w)
  (hm:ev e m=some (.map (some b))) (hkx:ev e kx=some (enc k)) (hok:∀w,Hp f w H→f.ok w→(∀p∈ms,ok w p.1)∧ok w k) (ha:Sat n e a) (hH:Hp f w H) (hf:f.ok w):
  (execOp a.eval ⟨some d,.lookup mt m kx true,ty,pos,af,none⟩).run P w=.ok (.value (.tuple #[(xK ms k).getD z,.bool (xK ms k).isSome])) w:=by
 have h:=hok w hH hf
 have:=Qf (P:=P) hu hk hM (hH.obj hy rfl) h.1 h.2 hz true
 simp only[execOp,ha.ev hm,ha.ev hkx]
 simp[this]
theorem qcf {m kx:Operand} {k:κ} {z:Value} (i:Nat) (hy:H[i]? =some (mpE b es ck)) (hu:∀w,(underlying mt).run P w=.ok (.map kt vt) w) (hk:Xb P kt enc ok) (hM:vA enc ms es ck) (hz:∀w,(zeroValue vt).run P w=.ok z w)
  (hm:ev e m=some (.map (some b))) (hkx:ev e kx=some (enc k)) (hok:∀w,Hp f w H→f.ok w→(∀p∈ms,ok w p.1)∧ok w k) (ha:Sat n e a) (hH:Hp f w H) (hf:f.ok w):
  (execOp a.eval ⟨some d,.lookup mt m kx false,ty,pos,af,none⟩).run P w=.ok (.value ((xK ms k).getD z)) w:=by
 have h:=hok w hH hf
 have:=Qf (P:=P) hu hk hM (hH.obj hy rfl) h.1 h.2 hz false
 simp only[execOp,ha.ev hm,ha.ev hkx]
 simp[this]
theorem qgO {t rt:Nat} {m:Operand} (i:Nat) (hy:H[i]? =some (mpE b es ck)) (hu:∀w,(underlying t).run P w=.ok (.map kt vt) w) (hm:ev e m=some (.map (some b))) (ha:Sat n e a) (hH:Hp f w H):
  (execOp a.eval ⟨some d,.call ⟨.builtin .len, #[m], #[t]⟩,rt,pos,af,none⟩).run P w=.ok (.value (.int .i64 es.length)) w:=by
 simp only[execOp]
 simp[resolve,invoke,builtin,Builtin.len_,hu,goInt,ha.ev hm]
 simp[vr (hH.obj hy rfl) rfl]
theorem xf {m kx vx:Operand} {k:κ} {u:Value} (i:Nat) (hy:H[i]? =some (mpE b es ck)) (hu:∀w,(underlying mt).run P w=.ok (.map kt vt) w) (hk:Xb P kt enc ok) (hM:vA enc ms es ck)
  (hm:ev e m=some (.map (some b))) (hkx:ev e kx=some (enc k)) (hvx:ev e vx=some u) (hok:∀w,Hp f w H→f.ok w→(∀p∈ms,ok w p.1)∧ok w k)
  (kk:∀es' ck',vA enc (Jm ms k u) es' ck'→J P ops Q n f e (yn H i (mpE b es' ck')) rest):J P ops Q n f e H (⟨none,.mapUpdate mt m kx vx,ty,pos,af,none⟩::rest):=fun w hH hf=>by
 have h:=hok w hH hf
 obtain ⟨es',ck',w',h1,h2,h3⟩:=ZG (P:=P) hu hk hM (hH.obj hy rfl) h.1 h.2 u
 obtain ⟨h4,h5⟩:=hH.putO hy rfl h3 rfl hf
 refine L.skip (fun a ha=>?_) (kk es' ck' h2 w' h4 h5)
 simp only[execOp,ha.ev hm,ha.ev hkx,ha.ev hvx]
 simp[h1]
theorem qjx {m:Operand} (i:Nat) (hy:H[i]? =some (mpE b es ck)) (hu:∀w,(underlying mt).run P w=.ok (.map kt vt) w) (hm:ev e m=some (.map (some b))) (hd:Nat.blt d n=true)
  (k:∀it,J P ops Q n f ((d,.pointer (some ⟨it,0,none⟩))::e) (itE it b ck [] ck::H) rest):J P ops Q n f e H (⟨some d,.range mt m,ty,pos,af,none⟩::rest):=fun w hH hf=>by
 have h1:=qad (P:=P) hu (hH.obj hy rfl)
 have hn:New w { w with heap:=w.heap.push (.mapIter (some b) ck #[] ck) } w.heap.size (.mapIter (some b) ck #[] ck):=⟨rfl,rfl,rfl,rfl,rfl⟩
 refine L.valw hd (fun a ha=>?_) (k w.heap.size _ (hH.newO hf hn) (hf.new hn))
 simp only[execOp,ha.ev hm]
 simp[h1]
theorem qlC {it since stepped:Nat} {seen:List Nat} (i j:Nat) (hi:H[i]? =some (itE it b since seen stepped)) (hy:H[j]? =some (mpE b es ck)) (hlt:∀x∈es,x.born<since) (hst:since≤stepped) (hx:ev e x=some (.pointer (some ⟨it,0,none⟩))) (hd:Nat.blt d n=true)
  (k1:(∀x∈es,x.born∈seen)→J P ops Q n f ((d,.tuple #[.bool false])::e) H rest)
  (k2:∀x∈es,x.born∉seen→J P ops Q n f ((d,.tuple #[.bool true,x.key,x.val])::e) (yn H i (itE it b since (seen++[x.born]) ck)) rest):J P ops Q n f e H (⟨some d,.next x false,ty,pos,af,none⟩::rest):=fun w hH hf=>by
 rcases qbR (P:=P) (rt:=ty) (hH.obj hi rfl) (hH.obj hy rfl) hlt hst with ⟨w',h1,h2,h3,h4,h5,h6⟩|⟨w',x,h1,h2,h3,h4⟩
 ·have hD:Dr w w':=⟨h3,h4,h5,h2⟩
  refine L.valw hd (fun a ha=>?_) (k1 h6 w' (hH.dr hD) (Fr.dr hf hD))
  simp only[execOp,ha.ev hx]
  simp[h1]
 ·obtain ⟨h5,h6⟩:=hH.putO hi rfl h2 rfl hf
  refine L.valw hd (fun a ha=>?_) (k2 x h3 h4 w' h5 h6)
  simp only[execOp,ha.ev hx]
  simp[h1]
end
section
variable {P:Program} {Q:Exit→Act→World→Prop} {n:Nat} {f:Fm} {e:Env} {H:ko} {ops:Array Oper} {rest:List Oper} {d ty:Nat} {pos:String} {af:Array Edge} {HS:ko} {nt:Nat} {r:xr}
theorem Sat.cons {t:Nat} (h:Sat n e a) (ht:look e t=some v):Sat n ((t,v)::e) a:=h.mono fun s u hs=>by
 simp only[look]at hs
 cases hb:Nat.beq t s with
 |true=>
  rw[hb]at hs
  have:=Nat.eq_of_beq_eq_true hb
  subst this
  simp at hs
  subst hs
  exact ht
 |false=>rw[hb]at hs;exact hs
theorem xk {l:List Oper} {t:Nat} {b:Bool} (ht:look e t=some (.bool b)) (h1:b=true→J P ops Q n f ((t,.bool true)::e) H l) (h2:b=false→J P ops Q n f ((t,.bool false)::e) H l):J P ops Q n f e H l:=fun w hH hf a ha=>by
 cases b with
 |true=>exact h1 rfl w hH hf a (ha.cons ht)
 |false=>exact h2 rfl w hH hf a (ha.cons ht)
theorem xP {s:xr} {t:Nat} {b:Bool} (ht:look e t=some (.bool b)) (h1:b=true→DJ P ops Q f HS nt n ((t,.bool true)::e) H s) (h2:b=false→DJ P ops Q f HS nt n ((t,.bool false)::e) H s):DJ P ops Q f HS nt n e H s:=fun w hH hf a ha=>by
 cases b with
 |true=>exact h1 rfl w hH hf a (ha.cons ht)
 |false=>exact h2 rfl w hH hf a (ha.cons ht)
theorem kK {t:Nat} {op:Op} {b:Bool} (hi:ops[i]? =some ⟨some d,op,ty,pos,af,some (j,b)⟩) (hj:(ops[j]?).bind (·.dst)=some t) (ht:look e t=some (.bool b)) (hd:Nat.blt d n=true) (hS:∀x∈HS,x∈H)
  (hr:∀a w,Sat n e a→Sx f HS w→(execOp a.eval ⟨some d,op,ty,pos,af,none⟩).run P w=.ok (.value v) w) (k:DJ P ops Q f HS nt n ((d,v)::e) H r):DJ P ops Q f HS nt n e H ((i,true)::r):=fun w hH hf a ha=>by
 have hy:=Qc ha hj ht
 refine ⟨_,v,hi,.inl ⟨by simp[Region.wanted,hy],fun w2 hw=>?_⟩,⟨fun x hx ho=>hH.blk (hS x hx) ho,hf⟩,k w hH hf _ (ha.put hd)⟩
 exact hr a w2 ha hw
theorem kA {t:Nat} {op:Op} {b c:Bool} (hi:ops[i]? =some ⟨some d,op,ty,pos,af,some (j,b)⟩) (hj:(ops[j]?).bind (·.dst)=some t) (ht:look e t=some (.bool c)) (hbc:(c !=b)=true) (hd:Nat.blt d n=true) (hS:∀x∈HS,x∈H)
  (k:DJ P ops Q f HS nt n ((d,undef)::e) H r):DJ P ops Q f HS nt n e H ((i,true)::r):=fun w hH hf a ha=>by
 have hy:=Qc ha hj ht
 refine ⟨_,undef,hi,.inr ⟨by simp[Region.wanted,hy];simpa using hbc,rfl⟩,⟨fun x hx ho=>hH.blk (hS x hx) ho,hf⟩,k w hH hf _ (ha.put hd)⟩
theorem qD {c y:Operand} (hc:ev e c=some (.bool true)) (hx:ev e x=some v) (ha:Sat n e a):(execOp a.eval ⟨some d,.pick c x y,ty,pos,af,none⟩).run P w=.ok (.value v) w:=by
 simp only[execOp,ha.ev hc,ha.ev hx];simp[asBool]
theorem xd {c y:Operand} (hc:ev e c=some (.bool false)) (hy:ev e y=some v) (ha:Sat n e a):(execOp a.eval ⟨some d,.pick c x y,ty,pos,af,none⟩).run P w=.ok (.value v) w:=by
 simp only[execOp,ha.ev hc,ha.ev hy];simp[asBool]
end
theorem Addr.add_zero (a:Addr):a.add 0=a:=by simp[Addr.add]
section
variable {P:Program} {n:Nat} {e:Env} {d ty:Nat} {pos:String} {af:Array Edge} {w:World}
theorem QR {t:Nat} {y:Operand} (hu:∀w,(underlying t).run P w=.ok (.slice elem) w) (hsz:∀w,(sizeOf elem).run P w=.ok sz w)
  (hx:ev e x=some (.slice p l c)) (hy:ev e y=some (.int kd i)) (hi:i≤c) (ha:Sat n e a):
  (execOp a.eval ⟨some d,.slice t x none (some y) none,ty,pos,af,none⟩).run P w=.ok (.value (.slice p i c)) w:=by
 simp only[execOp,ha.ev hx,Option.map_none,Option.map_some,ha.ev hy]
 simp[Instr.sliceAt,Instr.slice,Instr.sliceBounds,Instr.sliceBound,asIntOf,hu,hsz,hi,Addr.add_zero]
theorem qki {t:Nat} {y:Operand} (h0:0<i) (hi:i<9223372036854775807) (hx:ev e x=some (.int .i64 (i:Int))) (hy:ev e y=some (.int .i64 1)) (ha:Sat n e a):
  (execOp a.eval ⟨some d,.binOp .sub t x y t',ty,pos,af,none⟩).run P w=.ok (.value (.int .i64 ((i - 1:Nat):Int))) w:=by
 rw[QQ hx hy ha]
 congr 3
 simp[IntKind.wrap,IntKind.bits,IntKind.signed]
 omega
def ltB (x y:ByteArray):Bool:=Op.bytesLess x.toList y.toList
theorem qgK {t:Nat} {y:Operand} {p q:ByteArray} (hx:ev e x=some (.string p)) (hy:ev e y=some (.string q)) (ha:Sat n e a):
  (execOp a.eval ⟨some d,.binOp .geq t x y t',ty,pos,af,none⟩).run P w=.ok (.value (.bool (!ltB p q))) w:=by
 simp only[execOp,ha.ev hx,ha.ev hy];simp[eqGuard,binOp,Op.stringOp,ltB]
end
section
variable {P:Program} {Q:Exit→Act→World→Prop} {n:Nat} {f:Fm} {e:Env} {H:ko}
theorem jC {id:Nat} {l:List Oper} {HS:ko} (nt:Nat) (s:xr) (idx:List Nat) (_:Kp H idx=some HS) (hm:P.follows .mixedOrders=true) (hs:YU l.toArray nt s=true)
  (h:DJ P l.toArray (NoP Q) f HS nt n e H s):CJ P (.region id l.toArray true) Q n f e H:=qjP nt s HS hm hs h
theorem qP {x y:Code} (h:∀K:Act→World→Prop,(∀f e H,CJ P y Q n f e H→NJ K n f e H)→CJ P x (Exit.then K Q) n f e H):CJ P (.seq x y) Q n f e H:=fun w hH hf a ha=>
 wp_seq (h (fun a w=>y.wp P Q a w) (fun _ _ _ h=>fun w hH hf a ha=>h w hH hf a ha) w hH hf a ha)
theorem QZ {ops:Array Oper} {HS:ko} {nt:Nat} (h:EJ Q .normal n f e H):DJ P ops (NoP Q) f HS nt n e H []:=qlQ h
end
structure Own (T sz:Nat) (y:Ent) (p:Option Addr) (l c:Nat) (xs:List Value):Prop where
 hT:y.T=T
 hw:y.wr=true
 ho:y.ob=none
 sl:SlE y p l c sz xs
def qQ (T:Nat):Ent:=⟨0,T,[],true,false,none⟩
theorem Own.nil:Own T sz (qQ T) none 0 0 []:=⟨rfl,rfl,rfl,by simp,Nat.le_refl _,.inr ⟨rfl,rfl,rfl⟩⟩
theorem Hp.off {f:Fm} {H:ko} (h:Hp f w H):Hp f w (qQ T::H):=⟨⟨fun h=>by simp[qQ]at h,fun o h=>by simp[qQ]at h⟩,fun h=>by simp[Ent.ex,qQ]at h,fun h=>by simp[Ent.ex,qQ]at h,h⟩
section
variable {P:Program} {Q:Exit→Act→World→Prop} {n:Nat} {f:Fm} {e:Env} {H:ko} {ops:Array Oper} {rest:List Oper} {d ty:Nat} {pos:String} {af:Array Edge}
theorem qY {s:Operand} {y:Ent} {ys:List Value} {bz Tz:Nat} (i:Nat) (hy:H[i]? =some y) (hO:Own T sz y p l c xs)
  (hu:∀w,(underlying sT).run P w=.ok (.slice T) w) (hT:ElT P T sz by_) (hby:Nat.ble by_ 1000=true)
  (hs:ev e s=some (.slice p l c)) (hxv:ev e x=some (.slice (some ⟨bz,0,none⟩) 1 1))
  (hys:Nat.beq ys.length sz=true) (hsc:ys.all scal=true) (hbig:l+1≤100000000000) (hd:Nat.blt d n=true)
  (k:∀y' p' c',Own T sz y' p' (l+1) c' (xs++ys)→J P ops Q n f ((d,.slice p' (l+1) c')::e) (yn H i y') rest):
  J P ops Q n f e (⟨bz,Tz,ys,true,true,none⟩::H) (⟨some d,.call ⟨.builtin .append, #[s,x], #[sT,sT]⟩,ty,pos,af,none⟩::rest):=
 qfz i hy hO.hT hO.ho hO.hw hu hT hby hs hxv hO.sl hys hsc hbig hd fun y' p' c' h1 h2 h3 h4=>k y' p' c' ⟨h1,h2,h3,h4⟩
end
section
variable {P:Program} {Q:Exit→Act→World→Prop} {n:Nat} {f:Fm} {e:Env} {H:ko} {ops:Array Oper} {rest:List Oper} {d ty:Nat} {pos:String} {af:Array Edge} {HS:ko} {nt i:Nat} {r:xr}
theorem sQ {x y:Code} (h:∀{K:Act→World→Prop},(∀{f e H},CJ P y Q n f e H→NJ K n f e H)→CJ P x (Exit.then K Q) n f e H):CJ P (.seq x y) Q n f e H:=qP fun _ hK=>h fun k=>hK _ _ _ k
theorem jM (hx:ev e x=some v:=by exact rfl) (hd:Nat.blt d n=true:=by exact rfl) (k:J P ops Q n f ((d,v)::e) H rest):J P ops Q n f e H (⟨some d,.move x,ty,pos,af,none⟩::rest):=jn hd (fun a w ha=>vm hx ha) k
theorem jA (hx:ev e x=some v:=by exact rfl) (hd:Nat.blt d n=true:=by exact rfl) (k:J P ops Q n f ((d,v)::e) H rest):J P ops Q n f e H (⟨some d,.assign x,ty,pos,af,none⟩::rest):=jn hd (fun a w ha=>QT hx ha) k
theorem jN {ad:Addr} (hx:ev e x=some (.pointer (some ad)):=by exact rfl) (hd:Nat.blt d n=true:=by exact rfl) (k:J P ops Q n f ((d,.pointer (some ad))::e) H rest):J P ops Q n f e H (⟨some d,.nilCheck x,ty,pos,af,none⟩::rest):=jn hd (fun a w ha=>yG hx ha) k
theorem jF {s g ft:Nat} {fs:Array Field} (q:Nat) (hu:∀w,(underlying s).run P w=.ok (.struct fs) w) (hsz:∀w,(sizeOf ft).run P w=.ok (sz+1) w) (hf:(fs[g]?).map (fun x=>(x.offset,x.type))=some (q,ft):=by exact rfl)
  (hx:ev e x=some (.pointer (some ⟨b,o,none⟩)):=by exact rfl) (hd:Nat.blt d n=true:=by exact rfl) (k:J P ops Q n f ((d,.pointer (some ⟨b,o+q,none⟩))::e) H rest):J P ops Q n f e H (⟨some d,.fieldAddr s x g,ty,pos,af,none⟩::rest):=jn hd (fun a w ha=>xR hu hf hsz hx ha) k
theorem jH {t:Nat} {y:Ent} (i:Nat) (hag:∀w,(isAgg t).run P w=.ok false w) (hy:H[i]? =some y:=by exact rfl) (ho:y.on=true:=by exact rfl) (hx:ev e x=some (.pointer (some ⟨y.b,o,none⟩)):=by exact rfl) (hv:y.cs[o]? =some v:=by exact rfl)
  (hd:Nat.blt d n=true:=by exact rfl) (k:J P ops Q n f ((d,v)::e) H rest):J P ops Q n f e H (⟨some d,.load t x,ty,pos,af,none⟩::rest):=jp hd (fun a w ha hH hf=>Jk i hy ho hag hx hv ha hH) k
theorem jE {t:Nat} (hu:∀w,(underlying t).run P w=.ok (.slice elem) w) (hx:ev e x=some (.slice p l c):=by exact rfl) (hd:Nat.blt d n=true:=by exact rfl) (k:J P ops Q n f ((d,.int .i64 l)::e) H rest):
  J P ops Q n f e H (⟨some d,.call ⟨.builtin .len, #[x], #[t]⟩,ty,pos,af,none⟩::rest):=jn hd (fun a w ha=>JY hu hx ha) k
theorem jS {t:Nat} {y:Operand} {p:Int} (hx:ev e x=some (.int kd p):=by exact rfl) (hy:ev e y=some (.int kd q):=by exact rfl) (hd:Nat.blt d n=true:=by exact rfl) (k:J P ops Q n f ((d,.bool (decide (p<q)))::e) H rest):
  J P ops Q n f e H (⟨some d,.binOp .lss t x y t',ty,pos,af,none⟩::rest):=jn hd (fun a w ha=>r_lss hx hy ha) k
theorem jX (hx:ev e x=some (.tuple vs.toArray):=by exact rfl) (hv:vs[i]? =some v:=by exact rfl) (hd:Nat.blt d n=true:=by exact rfl) (k:J P ops Q n f ((d,v)::e) H rest):J P ops Q n f e H (⟨some d,.extract x i,ty,pos,af,none⟩::rest):=jn hd (fun a w ha=>qt hx hv ha) k
theorem dM (idx:List Nat) (hi:ops[i]? =some ⟨some d,.move x,ty,pos,af,none⟩:=by exact rfl) (hp:Kp H idx=some HS:=by exact rfl) (hx:ev e x=some v:=by exact rfl) (hd:Nat.blt d n=true:=by exact rfl) (k:DJ P ops Q f HS nt n ((d,v)::e) H r):DJ P ops Q f HS nt n e H ((i,true)::r):=jo hi hd (jd idx hp) (fun a w ha=>vm hx ha) k
theorem dA (idx:List Nat) (hi:ops[i]? =some ⟨some d,.assign x,ty,pos,af,none⟩:=by exact rfl) (hp:Kp H idx=some HS:=by exact rfl) (hx:ev e x=some v:=by exact rfl) (hd:Nat.blt d n=true:=by exact rfl) (k:DJ P ops Q f HS nt n ((d,v)::e) H r):DJ P ops Q f HS nt n e H ((i,true)::r):=jo hi hd (jd idx hp) (fun a w ha=>QT hx ha) k
theorem dN {ad:Addr} (idx:List Nat) (hi:ops[i]? =some ⟨some d,.nilCheck x,ty,pos,af,none⟩:=by exact rfl) (hp:Kp H idx=some HS:=by exact rfl) (hx:ev e x=some (.pointer (some ad)):=by exact rfl) (hd:Nat.blt d n=true:=by exact rfl) (k:DJ P ops Q f HS nt n ((d,.pointer (some ad))::e) H r):DJ P ops Q f HS nt n e H ((i,true)::r):=jo hi hd (jd idx hp) (fun a w ha=>yG hx ha) k
theorem dF {s g ft:Nat} {fs:Array Field} (idx:List Nat) (q:Nat) (hu:∀w,(underlying s).run P w=.ok (.struct fs) w) (hsz:∀w,(sizeOf ft).run P w=.ok (sz+1) w) (hi:ops[i]? =some ⟨some d,.fieldAddr s x g,ty,pos,af,none⟩:=by exact rfl) (hf:(fs[g]?).map (fun x=>(x.offset,x.type))=some (q,ft):=by exact rfl)
  (hp:Kp H idx=some HS:=by exact rfl) (hx:ev e x=some (.pointer (some ⟨b,o,none⟩)):=by exact rfl) (hd:Nat.blt d n=true:=by exact rfl) (k:DJ P ops Q f HS nt n ((d,.pointer (some ⟨b,o+q,none⟩))::e) H r):DJ P ops Q f HS nt n e H ((i,true)::r):=jo hi hd (jd idx hp) (fun a w ha=>xR hu hf hsz hx ha) k
theorem dH {t:Nat} {y:Ent} (idx:List Nat) (j:Nat) (hag:∀w,(isAgg t).run P w=.ok false w) (hi:ops[i]? =some ⟨some d,.load t x,ty,pos,af,none⟩:=by exact rfl) (hp:Kp H idx=some HS:=by exact rfl) (hy:HS[j]? =some y:=by exact rfl) (ho:y.on=true:=by exact rfl)
  (hx:ev e x=some (.pointer (some ⟨y.b,o,none⟩)):=by exact rfl) (hv:y.cs[o]? =some v:=by exact rfl) (hd:Nat.blt d n=true:=by exact rfl) (k:DJ P ops Q f HS nt n ((d,v)::e) H r):DJ P ops Q f HS nt n e H ((i,true)::r):=vV hi hd (jd idx hp) (fun a w ha hS=>zx j hy ho hag hx hv ha hS) k
theorem CJ.s {c:Code} (e':Env) (hs:Sub e e') (h:CJ P c Q n f e' H):CJ P c Q n f e H:=CJ.sub hs h
theorem jI {t:Nat} {y:Operand} (hx:ev e x=some (.int .i64 (i:Int)):=by exact rfl) (hy:ev e y=some (.int .i64 1):=by exact rfl) (hi:i<9223372036854775807:=by omega) (hd:Nat.blt d n=true:=by exact rfl) (k:J P ops Q n f ((d,.int .i64 ((i+1:Nat):Int))::e) H rest):
  J P ops Q n f e H (⟨some d,.binOp .add t x y t',ty,pos,af,none⟩::rest):=jn hd (fun a w ha=>qkh hi hx hy ha) k
theorem jJ {t:Nat} {y:Operand} (hu:∀w,(underlying t).run P w=.ok (.slice elem) w) (hsz:∀w,(sizeOf elem).run P w=.ok sz w)
  (hx:ev e x=some (.slice (some ⟨b,o,none⟩) l c):=by exact rfl) (hy:ev e y=some (.int kd i):=by exact rfl) (hi:i<l:=by omega) (hd:Nat.blt d n=true:=by exact rfl) (k:J P ops Q n f ((d,.pointer (some ⟨b,o+i*sz,none⟩))::e) H rest):
  J P ops Q n f e H (⟨some d,.indexAddr t x y,ty,pos,af,none⟩::rest):=jn hd (fun a w ha=>vH hu hsz hx hy hi ha) k
theorem jG {t:Nat} {y:Operand} {p:Int} (hx:ev e x=some (.int kd p):=by exact rfl) (hy:ev e y=some (.int kd q):=by exact rfl) (hd:Nat.blt d n=true:=by exact rfl) (k:J P ops Q n f ((d,.bool (decide (q<p)))::e) H rest):
  J P ops Q n f e H (⟨some d,.binOp .gtr t x y t',ty,pos,af,none⟩::rest):=jn hd (fun a w ha=>Yi hx hy ha) k
theorem jQ {t:Nat} {y:Operand} {p:Int} (hx:ev e x=some (.int kd p):=by exact rfl) (hy:ev e y=some (.int kd q):=by exact rfl) (hd:Nat.blt d n=true:=by exact rfl) (k:J P ops Q n f ((d,.bool (decide (p=q)))::e) H rest):
  J P ops Q n f e H (⟨some d,.binOp .eql t x y t',ty,pos,af,none⟩::rest):=jn hd (fun a w ha=>qcg hx hy ha) k
theorem jT {c y:Operand} (hc:ev e c=some (.bool true):=by exact rfl) (hx:ev e x=some v:=by exact rfl) (hd:Nat.blt d n=true:=by exact rfl) (k:J P ops Q n f ((d,v)::e) H rest):J P ops Q n f e H (⟨some d,.pick c x y,ty,pos,af,none⟩::rest):=jn hd (fun a w ha=>qD hc hx ha) k
theorem jK {c y:Operand} (hc:ev e c=some (.bool false):=by exact rfl) (hy:ev e y=some v:=by exact rfl) (hd:Nat.blt d n=true:=by exact rfl) (k:J P ops Q n f ((d,v)::e) H rest):J P ops Q n f e H (⟨some d,.pick c x y,ty,pos,af,none⟩::rest):=jn hd (fun a w ha=>xd hc hy ha) k
theorem jU {t:Nat} {b:Bool} (hx:ev e x=some (.bool b):=by exact rfl) (hd:Nat.blt d n=true:=by exact rfl) (k:J P ops Q n f ((d,.bool (!b))::e) H rest):J P ops Q n f e H (⟨some d,.unOp .not t x,ty,pos,af,none⟩::rest):=jn hd (fun a w ha=>qaj hx ha) k
theorem jL {t:Nat} (hag:∀w,(isAgg t).run P w=.ok false w) (h:∀w,f.ok w→∀(j:Nat) (u:Value),cs[j]? =some u→w.cell? ⟨b,o+j,none⟩=some u) (q:Nat)
  (hx:ev e x=some (.pointer (some ⟨b,o+q,none⟩)):=by exact rfl) (hv:cs[q]? =some v:=by exact rfl) (hd:Nat.blt d n=true:=by exact rfl) (k:J P ops Q n f ((d,v)::e) H rest):J P ops Q n f e H (⟨some d,.load t x,ty,pos,af,none⟩::rest):=jp hd (fun _ w ha _ hf=>kP hag hx (h w hf q v hv) ha) k
theorem dL {t:Nat} (idx:List Nat) (hag:∀w,(isAgg t).run P w=.ok false w) (h:∀w,f.ok w→∀(j:Nat) (u:Value),cs[j]? =some u→w.cell? ⟨b,o+j,none⟩=some u) (q:Nat) (hi:ops[i]? =some ⟨some d,.load t x,ty,pos,af,none⟩:=by exact rfl) (hp:Kp H idx=some HS:=by exact rfl)
  (hx:ev e x=some (.pointer (some ⟨b,o+q,none⟩)):=by exact rfl) (hv:cs[q]? =some v:=by exact rfl) (hd:Nat.blt d n=true:=by exact rfl) (k:DJ P ops Q f HS nt n ((d,v)::e) H r):DJ P ops Q f HS nt n e H ((i,true)::r):=vV hi hd (jd idx hp) (fun _ w ha hS=>kP hag hx (h w hS.2 q v hv) ha) k
theorem dE {o:Oper} (hi:ops[i]? =some o:=by exact rfl) (h:∀{K:Act→World→Prop},(∀{e H},(Nat.blt i nt=false∨∀x∈HS,x∈H)→DJ P ops Q f HS nt n e H r→NJ K n f e H)→J P ops (Exit.then K Q) n f e H [o]):DJ P ops Q f HS nt n e H ((i,false)::r):=qlR hi fun _ hK=>h fun a b=>hK _ _ a b
theorem CJ.t {c:Code} (e':Env) (hs:Sub e e':=by repeat (first|exact trivial|refine ⟨rfl,?_⟩)) (k:CJ P c Q n f e' H):CJ P c Q n f e H:=CJ.sub hs k
theorem sR {e e':Env} (hs:Sub e e':=by repeat (first|exact trivial|refine ⟨rfl,?_⟩)):Sub e e':=hs
theorem jB {t:Nat} {z:Operand} {y:Ent} (cs':List Value) (H':ko) (i:Nat) (hsz:∀w,(sizeOf t).run P w=.ok m w) (hy:H[i]? =some y:=by exact rfl) (ho:y.on=true:=by exact rfl) (hob:y.ob=none:=by exact rfl) (hwr:y.wr=true:=by exact rfl) (hx:ev e x=some (.pointer (some ⟨y.b,o,none⟩)):=by exact rfl) (hz:ev e z=some v:=by exact rfl)
  (hm:Nat.beq v.cells.size m=true:=by exact rfl) (hs:v.cells.toList.all scal=true:=by exact rfl) (hl:Nat.ble (o+v.cells.size) y.cs.length=true:=by exact rfl) (hcs:kH y.cs o v.cells.toList=cs':=by exact rfl) (hH:qbQ H i cs'=H':=by exact rfl)
  (k:J P ops Q n f e H' rest):J P ops Q n f e H (⟨none,.store t x z,ty,pos,af,none⟩::rest):=qhA i hy ho hob hwr hsz hx hz hm hs hl hcs hH k
def lts (l:List Nat):xr:=l.map fun i=>(i,true)
theorem sb {b:Bool} (idx:List Nat) (hp:Kp H idx=some HS:=by exact rfl):b=false∨∀x∈HS,x∈H:=.inr (jd idx hp)
end
structure xn where (ty unit:ByteArray)
deriving DecidableEq
structure xB where (key:ByteArray) (list:List ByteArray)
structure zf where (key:ByteArray) (list:List Int)
structure ku where (stack:List Int) (values:List Int) (texts:List xB) (nums:List zf)
structure qK where (id start limit offset:Int) (file build:ByteArray) (fu fi li inl:Bool)
structure vz where (fn line:Int)
structure vP where (id mapping addr:Int) (lines:List vz)
structure yl where (id:Int) (name system file:ByteArray) (start:Int)
structure jD where
 (types:List xn) (deflt:ByteArray) (samples:List ku) (mappings:List qK) (locs:List vP) (funcs:List yl)
 (comments:List ByteArray) (drop keep:ByteArray) (time dur period:Int) (per:xn)
def vQ (w w':World):Prop:=∀(b:Nat) (o:Obj),w.heap[b]? =some o→w'.heap[b]? =some o
theorem vQ.refl (w:World):vQ w w:=fun _ _ h=>h
theorem vQ.trans {a b c:World} (h:vQ a b) (k:vQ b c):vQ a c:=fun x o hx=>k x o (h x o hx)
theorem Fr.keepAll (h:Fr B W w w') (hc:w.heap.size≤B∨W=[]):vQ w w':=fun b o hb=>h.keep b o hb (by
 rcases hc with hc|hc
 ·left;have:=(Array.getElem?_eq_some_iff.1 hb).1;omega
 ·right;subst hc;simp)
theorem vQ.cell (h:vQ w w') {a:Addr} (hv:w.cell? a=some v):w'.cell? a=some v:=by
 unfold World.cell? at hv⊢
 cases hb:w.heap[a.block]? with
 |none=>simp[hb]at hv
 |some o=>rw[hb]at hv;rw[h _ _ hb];exact hv
structure SlV (w:World) (sz:Nat) (v:Value) (l:Nat) (cs:List Value):Prop where
 ex:∃p c,v=.slice p l c∧l≤c∧(l=0∨∃b o,p=some ⟨b,o,none⟩∧∀(j:Nat) (u:Value),cs[j]? =some u→w.cell? ⟨b,o+j,none⟩=some u)
 len:cs.length=l*sz
 small:l≤9223372036854775807
theorem SlV.keep (h:SlV w sz v l cs) (k:vQ w w'):SlV w' sz v l cs:=by
 obtain ⟨⟨p,c,h1,hc,h2⟩,h3,h4⟩:=h
 refine ⟨⟨p,c,h1,hc,?_⟩,h3,h4⟩
 rcases h2 with h2|⟨b,o,h5,h6⟩
 ·exact .inl h2
 ·exact .inr ⟨b,o,h5,fun j u hj=>k.cell (h6 j u hj)⟩
def Lay {α:Type} (R:World→List Value→α→Prop) (sz:Nat) (w:World) (v:Value) (xs:List α):Prop:=
 ∃cs:List (List Value),SlV w sz v xs.length cs.flatten∧cs.length=xs.length∧(∀c∈cs,c.length=sz)∧∀(i:Nat) (c:List Value) (x:α),cs[i]? =some c→xs[i]? =some x→R w c x
def xa (_:World) (c:List Value) (x:ByteArray):Prop:=c=[.string x]
def vu (kd:IntKind) (_:World) (c:List Value) (x:Int):Prop:=c=[.int kd x]∧kd.wrap x=x
def xz (_:World) (c:List Value) (x:xn):Prop:=c=[.string x.ty,.string x.unit]
def xA (w:World) (c:List Value) (x:xB):Prop:=∃l,c=[.string x.key,l]∧Lay xa 1 w l x.list
def yW (w:World) (c:List Value) (x:zf):Prop:=∃l,c=[.string x.key,l]∧Lay (vu .i64) 1 w l x.list
def vE (w:World) (c:List Value) (x:ku):Prop:=∃a b t u,c=[a,b,t,u]∧Lay (vu .i64) 1 w a x.stack∧Lay (vu .i64) 1 w b x.values∧Lay xA 2 w t x.texts∧Lay yW 2 w u x.nums
def xm (_:World) (c:List Value) (x:qK):Prop:=
 c=[.int .u64 x.id,.int .u64 x.start,.int .u64 x.limit,.int .u64 x.offset,.string x.file,.string x.build,.bool x.fu,.bool x.fi,.bool x.li,.bool x.inl]∧
  IntKind.u64.wrap x.id=x.id∧IntKind.u64.wrap x.start=x.start∧IntKind.u64.wrap x.limit=x.limit∧IntKind.u64.wrap x.offset=x.offset
def JD (_:World) (c:List Value) (x:vz):Prop:=c=[.int .i64 x.fn,.int .i64 x.line]∧IntKind.i64.wrap x.fn=x.fn∧IntKind.i64.wrap x.line=x.line
def Qa (w:World) (c:List Value) (x:vP):Prop:=∃l,c=[.int .u64 x.id,.int .i64 x.mapping,.int .u64 x.addr,l]∧IntKind.u64.wrap x.id=x.id∧IntKind.i64.wrap x.mapping=x.mapping∧IntKind.u64.wrap x.addr=x.addr∧Lay JD 2 w l x.lines
def JE (_:World) (c:List Value) (x:yl):Prop:=c=[.int .u64 x.id,.string x.name,.string x.system,.string x.file,.int .i64 x.start]∧IntKind.u64.wrap x.id=x.id∧IntKind.i64.wrap x.start=x.start
def qI (w:World) (c:List Value) (x:jD):Prop:=∃a s m l f cm,c=[a,.string x.deflt,s,m,l,f,cm,.string x.drop,.string x.keep,.int .i64 x.time,.int .i64 x.dur,.int .i64 x.period,.string x.per.ty,.string x.per.unit]∧
 Lay xz 2 w a x.types∧Lay vE 4 w s x.samples∧Lay xm 10 w m x.mappings∧Lay Qa 4 w l x.locs∧Lay JE 5 w f x.funcs∧Lay xa 1 w cm x.comments∧
 IntKind.i64.wrap x.time=x.time∧IntKind.i64.wrap x.dur=x.dur∧IntKind.i64.wrap x.period=x.period
theorem Lay.keep {α:Type} {R:World→List Value→α→Prop} {xs:List α} (hR:∀c x,R w c x→R w' c x) (h:Lay R sz w v xs) (k:vQ w w'):Lay R sz w' v xs:=by
 obtain ⟨cs,h1,h2,h3,h4⟩:=h
 exact ⟨cs,h1.keep k,h2,h3,fun i c x hc hx=>hR _ _ (h4 i c x hc hx)⟩
theorem xa.keep (_:vQ w w') (c:List Value) (x:ByteArray) (h:xa w c x):xa w' c x:=h
theorem vu.keep (_:vQ w w') (c:List Value) (x:Int) (h:vu kd w c x):vu kd w' c x:=h
theorem xz.keep (_:vQ w w') (c:List Value) (x:xn) (h:xz w c x):xz w' c x:=h
theorem xm.keep (_:vQ w w') (c:List Value) (x:qK) (h:xm w c x):xm w' c x:=h
theorem JD.keep (_:vQ w w') (c:List Value) (x:vz) (h:JD w c x):JD w' c x:=h
theorem JE.keep (_:vQ w w') (c:List Value) (x:yl) (h:JE w c x):JE w' c x:=h
theorem xA.keep (k:vQ w w') (c:List Value) (x:xB) (h:xA w c x):xA w' c x:=by
 obtain ⟨l,h1,h2⟩:=h
 exact ⟨l,h1,h2.keep (xa.keep k) k⟩
theorem yW.keep (k:vQ w w') (c:List Value) (x:zf) (h:yW w c x):yW w' c x:=by
 obtain ⟨l,h1,h2⟩:=h
 exact ⟨l,h1,h2.keep (vu.keep k) k⟩
theorem vE.keep (k:vQ w w') (c:List Value) (x:ku) (h:vE w c x):vE w' c x:=by
 obtain ⟨a,b,t,u,h1,h2,h3,h4,h5⟩:=h
 exact ⟨a,b,t,u,h1,h2.keep (vu.keep k) k,h3.keep (vu.keep k) k,h4.keep (xA.keep k) k,h5.keep (yW.keep k) k⟩
theorem Qa.keep (k:vQ w w') (c:List Value) (x:vP) (h:Qa w c x):Qa w' c x:=by
 obtain ⟨l,h1,h2,h3,h4,h5⟩:=h
 exact ⟨l,h1,h2,h3,h4,h5.keep (JD.keep k) k⟩
theorem qI.keep (k:vQ w w') (c:List Value) (x:jD) (h:qI w c x):qI w' c x:=by
 obtain ⟨a,s,m,l,f,cm,h1,h2,h3,h4,h5,h6,h7,h8⟩:=h
 exact ⟨a,s,m,l,f,cm,h1,h2.keep (xz.keep k) k,h3.keep (vE.keep k) k,h4.keep (xm.keep k) k,h5.keep (Qa.keep k) k,h6.keep (JE.keep k) k,h7.keep (xa.keep k) k,h8⟩
theorem qcG:∀(cs:List (List Value)),(∀c∈cs,c.length=sz)→∀(i:Nat) (c:List Value),cs[i]? =some c→∀(j:Nat) (u:Value),c[j]? =some u→cs.flatten[i*sz+j]? =some u
 |[],_,i,c,h=>by simp at h
 |a::cs,hl,0,c,h=>by
    intro j u hj
    simp at h
    subst h
    have:=(List.getElem?_eq_some_iff.1 hj).1
    simp only[List.flatten_cons,Nat.zero_mul,Nat.zero_add]
    rw[aq this]
    exact hj
 |a::cs,hl,i+1,c,h=>by
    intro j u hj
    simp at h
    have ha:=hl a zp
    simp only[List.flatten_cons]
    rw[List.getElem?_append_right (by rw[ha,Nat.succ_mul];omega),ha,Nat.succ_mul,show i*sz+sz+j - sz=i*sz+j by omega]
    exact qcG cs (fun c hc=>hl c (by simp[hc])) i c h j u hj
theorem Lay.open {α:Type} {R:World→List Value→α→Prop} {xs:List α} (h:Lay R sz w v xs):
  ∃p c,v=.slice p xs.length c∧xs.length≤9223372036854775807∧∀(i:Nat) (x:α),xs[i]? =some x→∃b o cs,p=some ⟨b,o,none⟩∧cs.length=sz∧R w cs x∧∀w',vQ w w'→∀(j:Nat) (u:Value),cs[j]? =some u→w'.cell? ⟨b,o+i*sz+j,none⟩=some u:=by
 obtain ⟨cs,⟨⟨p,c,h1,_,h2⟩,h3,h4⟩,h5,h6,h7⟩:=h
 refine ⟨p,c,h1,h4,?_⟩
 intro i x hx
 have hi:=(List.getElem?_eq_some_iff.1 hx).1
 rcases h2 with h2|⟨b,o,hp,hc⟩
 ·omega
 ·have hci:cs[i]? =some cs[i]:=gE ox
  refine ⟨b,o,cs[i],hp,h6 _ (mG hci),h7 i _ x hci hx,?_⟩
  intro w' k j u hj
  have:=hc (i*sz+j) u (qcG cs h6 i _ hci j u hj)
  rw[Nat.add_assoc]
  exact k.cell this
theorem Lay.each {α:Type} {R:World→List Value→α→Prop} {xs:List α} {φ:α→Prop} (h:Lay R sz w v xs) (hR:∀c x,R w c x→φ x):∀x∈xs,φ x:=by
 intro x hx
 obtain ⟨i,hi⟩:=List.mem_iff_getElem?.1 hx
 obtain ⟨_,_,_,ho⟩:=h.open
 obtain ⟨_,_,cs,_,_,hr,_⟩:=ho.2 i x hi
 exact hR _ _ hr
theorem Lay.cap {α:Type} {R:World→List Value→α→Prop} {xs:List α} (h:Lay R sz w (.slice p l c) xs):xs.length≤c:=by
 obtain ⟨cs,⟨⟨p,c,h1,hc,h2⟩,h3,h4⟩,h5,h6,h7⟩:=h
 cases h1
 exact hc
theorem Lay.take {α:Type} {R:World→List Value→α→Prop} {xs:List α} (h:Lay R sz w (.slice p l c) xs) (i:Nat) (hi:i≤xs.length):Lay R sz w (.slice p i c) (xs.take i):=by
 obtain ⟨cs,⟨⟨p,c,h1,hc,h2⟩,h3,h4⟩,h5,h6,h7⟩:=h
 cases h1
 have hlen:(xs.take i).length=i:=by simp;omega
 have hfl:(cs.take i).flatten.length=i*sz:=by
  rw[List.length_flatten]
  have:(cs.take i).map List.length=List.replicate i sz:=by
   apply List.eq_replicate_iff.2
   refine ⟨by simp;omega,?_⟩
   intro b hb
   obtain ⟨c',hc',rfl⟩:=List.mem_map.1 hb
   exact h6 _ (List.mem_of_mem_take hc')
  rw[this];simp
 refine ⟨cs.take i,⟨⟨p,c,by rw[hlen],by rw[hlen];omega,?_⟩,by rw[hlen];exact hfl,by rw[hlen];omega⟩,by simp;omega,fun c hc=>h6 _ (List.mem_of_mem_take hc),?_⟩
 ·rw[hlen]
  by_cases h0:i=0
  ·exact .inl h0
  ·right
   rcases h2 with h2|⟨b,o,hp,hcell⟩
   ·omega
   ·refine ⟨b,o,hp,fun j u hj=>hcell j u ?_⟩
    have hpre:(cs.take i).flatten<+:cs.flatten:=by
     conv=>rhs;rw[← List.take_append_drop i cs,List.flatten_append]
     exact List.prefix_append _ _
    have hj':=(List.getElem?_eq_some_iff.1 hj).1
    obtain ⟨t,ht⟩:=hpre
    rw[← ht,aq hj']
    exact hj
 ·intro j c' x hc hx
  rw[List.getElem?_take]at hc hx
  split at hc
  ·rename_i hlt
   rw[if_pos hlt]at hx
   exact h7 j c' x hc hx
  ·cases hc
theorem qeA {α β:Type} (g:α→β):∀xs:List α,(xs.map fun x=>[g x]).flatten=xs.map g
 |[]=>rfl
 |x::r=>by simp[qeA g r]
theorem Own.lay {α:Type} {R:World→List Value→α→Prop} {y:Ent} {g:α→Value} {xs:List α} {f:Fm} {H:ko} (h:Own T 1 y p l c (xs.map g)) (hH:Hp f w H) (hy:H[i]? =some y) (hl:l≤9223372036854775807)
  (hR:∀x∈xs,R w [g x] x):Lay R 1 w (.slice p l c) xs:=by
 obtain ⟨-, -, -,h1,h2,h3⟩:=h
 have hlx:xs.length=l:=by simpa using h1
 subst hlx
 refine ⟨xs.map fun x=>[g x],⟨⟨p,c,rfl,h2,?_⟩,by rw[qeA];simp,hl⟩,by simp,by simp,?_⟩
 ·rcases h3 with ⟨h4,rfl,⟨ex,h6⟩, -⟩|⟨h4,rfl,rfl⟩
  ·refine .inr ⟨y.b,0,rfl,fun j u hj=>?_⟩
   have hb:=hH.get hy h4
   rw[Nat.zero_add,hb.cell,h6]
   rw[qeA]at hj
   rw[aq (List.getElem?_eq_some_iff.1 hj).1]
   exact hj
  ·exact .inl ox
 ·intro j cc x hc hx
  rw[List.getElem?_map,hx]at hc
  simp at hc
  subst hc
  exact hR x (mG hx)
theorem Hp.again {W0:List Nat} (hB:B≤w0.heap.size):∀{H:ko},Hp ⟨w0,B,W0⟩ w H→(∀x∈H,x.ex=true→x.wr=true→x.tag∈W)→Hp ⟨w,B,W⟩ w H
 |[],_,_=>trivial
 |_::_,h,hk=>⟨h.1,fun he hw=>.inr ⟨(h.2.1 he hw).elim (Nat.le_trans hB) (·.1),hk _ zp he hw⟩,h.2.2.1,Hp.again hB h.2.2.2 fun y hy=>hk y (by simp[hy])⟩
theorem Hp.back {W0:List Nat} (hs:w0.heap.size≤w1.heap.size) (hc:w0.heap.size≤B∨∀x∈W,x∈W0):∀{H:ko},Hp ⟨w1,B,W⟩ w H→Hp ⟨w0,B,W0⟩ w H
 |[],_=>trivial
 |_::_,h=>⟨h.1,fun he hw=>by
    rcases h.2.1 he hw with h|⟨h,h'⟩
    ·exact .inl (Nat.le_trans hs h)
    ·rcases hc with hc|hc
     ·exact .inl (Nat.le_trans hc h)
     ·exact .inr ⟨h,hc _ h'⟩,h.2.2.1,Hp.back hs hc h.2.2.2⟩
theorem qW {W0:List Nat} (h0:Fm.ok ⟨w0,B,W0⟩ w1) (hc:w0.heap.size≤B∨∀x∈W,x∈W0) (h:Fm.ok ⟨w1,B,W⟩ w):Fm.ok ⟨w0,B,W0⟩ w:=Fr.trans h0 h (hc.imp id fun h=>⟨Nat.le_refl _,h⟩)
theorem Je {wd:World} (k:vQ wd w1) (hB:wd.heap.size≤B) (w':World) (h:Fm.ok ⟨w1,B,W⟩ w'):vQ wd w':=fun b o hb=>h.keep b o (k b o hb) (.inl (Nat.lt_of_lt_of_le (Array.getElem?_eq_some_iff.1 hb).1 hB))
theorem kC (h:Fm.ok ⟨w1,B,W⟩ w) (hb:Blk w1 b T cs) (hT:W.all (fun t=> !Nat.beq t T)=true):Blk w b T cs:=h.blk hb (.inr fun hm=>by
 have:=List.all_eq_true.1 hT _ hm
 rw[Nat.beq_refl]at this
 cases this)
theorem qbe {es:Array MapEntry} (h:Fm.ok ⟨w1,B,W⟩ w) (hb:w1.heap[b]? =some (.map es ck)) (hT:W.all (fun t=> !Nat.beq t 1000000)=true):w.heap[b]? =some (.map es ck):=h.keep _ _ hb (.inr fun hm=>by
 have:=List.all_eq_true.1 hT _ hm
 cases this)
theorem jx:Fm.ok ⟨w,B,W⟩ w:=Fr.refl _ _ _
def ro (x:Ent):Ent:={ x with wr:=false }
theorem Hp.ro {f:Fm}:∀{H:ko},Hp f w H→Hp f w (H.map ro)
 |[],_=>trivial
 |_::_,h=>⟨⟨h.1.row,h.1.obj⟩,fun _ hw=>by simp[Go.Fw.ro]at hw,fun he y hy hye=>by
    obtain ⟨z,hz,rfl⟩:=List.mem_map.1 hy
    exact h.2.2.1 he z hz hye,Hp.ro h.2.2.2⟩
theorem Hp.roHead {f:Fm} {x:Ent} {H:ko} (h:Hp f w (x::H)):Hp f w (Go.Fw.ro x::H):=⟨⟨h.1.row,h.1.obj⟩,fun _ hw=>by simp[Go.Fw.ro]at hw,h.2.2.1,h.2.2.2⟩
theorem Hp.lt {f:Fm} {H:ko} (h:Hp f w H) {x:Ent} (hx:x∈H) (he:x.ex=true):x.b<w.heap.size:=(h.has hx).lt he
section
variable {P:Program} {Q:Exit→Act→World→Prop} {n:Nat} {f:Fm} {e:Env} {H:ko} {ops:Array Oper} {rest:List Oper} {d ty:Nat} {pos:String} {af:Array Edge}
theorem qev {g:FuncId} {args:Array Operand} {tys:Array TypeId} (hg:∀(az:Array Value) (w:World),(callFunc g az).run P w=.ok (.enter g az) w)
  (hargs:evL e args.toList=some vs) (hd:Nat.blt d n=true) (hc:∀w,Hp f w H→f.ok w→Calls P g vs.toArray w (Ret fun v w'=>∃p,v=.pointer (some ⟨p,0,none⟩)∧Blk w' p T cs∧w.heap.size≤p∧Fr 0 [] w w'))
  (k:∀p,J P ops Q n f ((d,.pointer (some ⟨p,0,none⟩))::e) (⟨p,T,cs,true,true,none⟩::H) rest):J P ops Q n f e H (⟨some d,.call ⟨.value (.func g),args,tys⟩,ty,pos,af,none⟩::rest):=
 kQ hg hargs hd hc fun w v w' hH hf hR=>by
  obtain ⟨p,rfl,h1,h2,h3⟩:=hR
  exact k p w' ((hH.fr h3).add h1 (fun _=>.inl (Nat.le_trans hf.size h2)) fun y hy he=>by have:=hH.lt hy he;omega) (hf.fr h3)
theorem XU {α:Type} {xT c2:Nat} {e2:TypeId} {s:Operand} {y:Ent} {p2:Option Addr} {zs:List α} {g:α→Value} (i:Nat) (hy:H[i]? =some y) (hO:Own T 1 y p l c xs)
  (hu:∀w,(underlying sT).run P w=.ok (.slice T) w) (hux:∀w,(underlying xT).run P w=.ok (.slice e2) w) (hT:ElT P T 1 by_) (hby:Nat.ble by_ 1000=true)
  (hs:ev e s=some (.slice p l c)) (hxv:ev e x=some (.slice p2 m c2)) (hm:zs.length=m) (hx:∀w,Hp f w H→f.ok w→∀w1:World,vQ w w1→(Builtin.firstCells 1 m (.slice p2 m c2)).run P w1=.ok (zs.map g).toArray w1)
  (hsc:∀z,scal (g z)=true) (hbig:l+m≤100000000000) (hd:Nat.blt d n=true)
  (k:∀y' p' c',Own T 1 y' p' (l+m) c' (xs++zs.map g)→J P ops Q n f ((d,.slice p' (l+m) c')::e) (yn H i y') rest):
  J P ops Q n f e H (⟨some d,.call ⟨.builtin .append, #[s,x], #[sT,xT]⟩,ty,pos,af,none⟩::rest):=
 KU i hy hO.hT hO.ho hO.hw hu hux (.inl ⟨_,rfl⟩) hT hby hs hxv hO.sl (vJ _ _ _) (fun w w1 hH hf k=>hx w hH hf w1 k) (by simp[hm]) (by simp[List.all_eq_true,hsc]) hbig hd fun y' p' c' h1 h2 h3 h4=>k y' p' c' ⟨h1,h2,h3,h4⟩
end
theorem Own.empty:Own T sz ⟨b,T,[],true,true,none⟩ (some ⟨b,0,none⟩) 0 0 []:=⟨rfl,rfl,rfl,by simp,Nat.le_refl _,.inl ⟨rfl,rfl,⟨[],rfl⟩,by simp⟩⟩
theorem Lay.first1 {α:Type} {R:World→List Value→α→Prop} {g:α→Value} {xs:List α} (h:Lay R 1 w v xs) (hR:∀c x,R w c x→c=[g x]) (w1:World) (k:vQ w w1):
  (Builtin.firstCells 1 xs.length v).run P w1=.ok (xs.map g).toArray w1:=by
 obtain ⟨cs,⟨⟨p,c,rfl,h2,h3⟩,h4,h5⟩,h6,h7,h8⟩:=h
 have hcs:cs=xs.map fun x=>[g x]:=by
  apply List.ext_getElem?
  intro i
  by_cases hi:i<xs.length
  ·rw[List.getElem?_map,gE hi,gE ox]
   simp only[Option.map_some]
   rw[hR _ _ (h8 i _ _ (gE ox) (gE hi))]
  ·rw[List.getElem?_eq_none ox,List.getElem?_eq_none (by simp;omega)]
 rw[hcs,qeA]at h3
 rcases h3 with h3|⟨b,o,rfl,h3⟩
 ·have:xs=[]:=List.eq_nil_of_length_eq_zero h3
  subst this
  cases p with
  |none=>simp[Builtin.firstCells]
  |some a=>
   simp only[Builtin.firstCells,List.length_nil,Nat.zero_mul,List.map_nil]
   rfl
 ·simp only[Builtin.firstCells]
  have hl:xs.length*1=(xs.map g).length:=by simp
  rw[hl]
  exact vX w1 _ _ fun j u hj=>k.cell (h3 j u hj)
def OS (T sz:Nat) (w:World) (v:Value) (xs:List Value):Prop:=∃y p l c,v=.slice p l c∧Own T sz y p l c xs∧(y.on=true→Blk w y.b T y.cs)
theorem OS.nil:OS T sz w (.slice none 0 0) []:=⟨qQ T,none,0,0,rfl,Own.nil,fun h=>by simp[qQ]at h⟩
theorem Own.os {y:Ent} (h:Own T sz y p l c xs) {f:Fm} {H:ko} (hH:Hp f w H) (hy:H[i]? =some y):OS T sz w (.slice p l c) xs:=
 ⟨y,p,l,c,rfl,h,fun ho=>by have:=hH.get hy ho;rw[h.hT]at this;exact this⟩
theorem OS.mono (h:OS T sz w v xs) (k:∀b cs,Blk w b T cs→Blk w' b T cs):OS T sz w' v xs:=by
 obtain ⟨y,p,l,c,h1,h2,h3⟩:=h
 exact ⟨y,p,l,c,h1,h2,fun ho=>k _ _ (h3 ho)⟩
theorem OS.scal (h:OS T sz w v xs):∃p l c,v=.slice p l c∧xs.length=l*sz:=by
 obtain ⟨y,p,l,c,h1,h2,h3⟩:=h
 exact ⟨p,l,c,h1,h2.sl.1⟩
theorem OS.open (h:OS T sz w v xs):∃p l c,v=.slice p l c∧xs.length=l*sz∧l≤c∧(0<l→∃b,p=some ⟨b,0,none⟩∧∀w',vQ w w'→∀(j:Nat) (u:Value),xs[j]? =some u→w'.cell? ⟨b,j,none⟩=some u):=by
 obtain ⟨y,p,l,c,h1,h2,h3⟩:=h
 refine ⟨p,l,c,h1,h2.sl.1,h2.sl.2.1,fun hl=>?_⟩
 obtain ⟨-, -,h4⟩:=h2.sl
 rcases h4 with ⟨h5,h6,⟨ex,h7⟩, -⟩|⟨h5,h6,h7⟩
 ·refine ⟨y.b,h6,fun w' k j u hj=>?_⟩
  have hb:=h3 h5
  refine k.cell ?_
  rw[hb.cell,h7,aq (List.getElem?_eq_some_iff.1 hj).1]
  exact hj
 ·have:=h2.sl.2.1;omega
def yV (W:List Nat) (H:ko):Prop:=∀x∈H,x.ex=true→x.wr=true→x.tag∈W
theorem yV.nil:yV W []:=by intro x hx;cases hx
theorem yV.ro {H:ko} {x:Ent} (h:yV W H) (hx:x.wr=false):yV W (x::H):=by
 intro y hy he hw
 rcases mC hy with rfl|hy
 ·rw[hx]at hw;cases hw
 ·exact h y hy he hw
theorem qz (h:W.any (fun t=>Nat.beq t T)=true):T∈W:=by
 obtain ⟨t,ht,he⟩:=List.any_eq_true.1 h
 rw[Nat.eq_of_beq_eq_true he]at ht;exact ht
theorem yV.row {H:ko} {wr:Bool} (h:yV W H) (hT:W.any (fun t=>Nat.beq t T)=true):yV W (⟨b,T,cs,wr,true,none⟩::H):=by
 intro y hy he hw
 rcases mC hy with rfl|hy
 ·exact qz hT
 ·exact h y hy he hw
theorem Own.tag {y:Ent} (h:Own T sz y p l c xs):y.tag=T:=by simp[Ent.tag,h.ho,h.hT]
theorem yV.own {H:ko} {y:Ent} (h:yV W H) (hO:Own T sz y p l c xs) (hT:W.any (fun t=>Nat.beq t T)=true):yV W (y::H):=by
 intro z hz he hw
 rcases mC hz with rfl|hz
 ·rw[hO.tag];exact qz hT
 ·exact h z hz he hw
def Qy (W:List Nat) (H:ko):Prop:=∀x∈H,x.ex=true→x.tag∉W
theorem vd (h:W.all (fun t=> !Nat.beq t T)=true):T∉W:=fun hm=>by
 have:=List.all_eq_true.1 h _ hm
 rw[Nat.beq_refl]at this
 cases this
theorem Qy.nil:Qy W []:=by intro x hx;cases hx
theorem Qy.row {H:ko} {wr:Bool} (h:Qy W H) (hT:W.all (fun t=> !Nat.beq t T)=true):Qy W (⟨b,T,cs,wr,true,none⟩::H):=by
 intro y hy he
 rcases mC hy with rfl|hy
 ·exact vd hT
 ·exact h y hy he
theorem Qy.own {H:ko} {y:Ent} (h:Qy W H) (hO:Own T sz y p l c xs) (hT:W.all (fun t=> !Nat.beq t T)=true):Qy W (y::H):=by
 intro z hz he
 rcases mC hz with rfl|hz
 ·rw[hO.tag];exact vd hT
 ·exact h z hz he
theorem Qy.ownR {H:ko} {y:Ent} (h:Qy W H) (hO:Own T sz y p l c xs) (hT:W.all (fun t=> !Nat.beq t T)=true):Qy W (Go.Fw.ro y::H):=by
 intro z hz he
 rcases mC hz with rfl|hz
 ·have:(Go.Fw.ro y).tag=y.tag:=rfl
  rw[this,hO.tag];exact vd hT
 ·exact h z hz he
theorem Ent.has.tag {x:Ent} (h:x.has w) (he:x.ex=true) {o:Obj} (ho:w.heap[x.b]? =some o):KE o=x.tag:=by
 unfold Ent.tag
 split
 ·rename_i o' hob
  have:=h.obj _ hob
  rw[ho]at this;cases this;rfl
 ·rename_i hob
  simp only[Ent.ex,hob,Option.isSome_none,Bool.or_false]at he
  have h1:w.heap[x.b]? =some (.cells x.cs.toArray x.T (0,0)):=h.row he
  rw[ho]at h1;cases h1;rfl
theorem Hp.putK {f:Fm} {H:ko} {y y':Ent} (h:Hp f w H) (hx:H[i]? =some y) (ho:y.ex=true) (hb:y'.b=y.b) (hm:y'.ex=true→y'.wr=true→f.may y'.b y'.tag)
  (hk:∀z∈H,z.ex=true→z.b≠y.b→∀o:Obj,w.heap[z.b]? =some o→w'.heap[z.b]? =some o) (hh:y'.has w'):Hp f w' (yn H i y'):=by
 induction H generalizing i with
 |nil=>simp at hx
 |cons x r ih=>
  cases i with
  |zero=>
   simp only[List.getElem?_cons_zero,Option.some.injEq]at hx
   subst hx
   exact ⟨hh,hm,fun _=>by rw[hb];exact h.2.2.1 ho,h.2.2.2.mono fun z hz hzx o hzo=>hk z (by simp[hz]) hzx (h.2.2.1 ho z hz hzx) o hzo⟩
  |succ i=>
   simp only[List.getElem?_cons_succ]at hx
   have hmem:y∈r:=mG hx
   refine ⟨⟨fun hxo=>?_,fun o hxo=>?_⟩,h.2.1,?_,ih h.2.2.2 hx fun z hz=>hk z (by simp[hz])⟩
   ·have hne:=h.2.2.1 (by simp[Ent.ex,hxo]) y hmem ho
    exact hk x zp (by simp[Ent.ex,hxo]) hne.symm _ (h.1.row hxo)
   ·have hne:=h.2.2.1 (by simp[Ent.ex,hxo]) y hmem ho
    exact hk x zp (by simp[Ent.ex,hxo]) hne.symm _ (h.1.obj o hxo)
   ·intro hxx z hz hzx
    rcases Zf hz with rfl|hz
    ·rw[hb];exact h.2.2.1 hxx y hmem ho
    ·exact h.2.2.1 hxx z hz hzx
theorem Hp.fresh' {H:ko} (h:Hp ⟨w1,B,W⟩ w H) (hx:H[i]? =some ⟨b,T,cs,true,true,none⟩) (hT:W.all (fun t=> !Nat.beq t T)=true):w1.heap.size≤b:=by
 rcases h.may (mG hx) rfl rfl with h|⟨-,h⟩
 ·exact h
 ·exact absurd h (vd hT)
theorem Hp.roTail {f:Fm} {x:Ent} {H:ko} (h:Hp f w (x::H)):Hp f w (x::H.map Go.Fw.ro):=⟨h.1,h.2.1,fun he y hy hye=>by
  obtain ⟨z,hz,rfl⟩:=List.mem_map.1 hy
  exact h.2.2.1 he z hz hye,h.2.2.2.ro⟩
theorem Own.pos {y:Ent} (h:Own T sz y p l c xs) (hl:0<l):y.on=true∧p=some ⟨y.b,0,none⟩:=by
 obtain ⟨-,h2,h3⟩:=h.sl
 rcases h3 with h3|h3
 ·exact ⟨h3.1,h3.2.1⟩
 ·omega
theorem Own.cell {y:Ent} (h:Own T 1 y p l c xs) (hb:Blk w y.b y.T y.cs) (hv:xs[i]? =some v):w.cell? ⟨y.b,0+i*1,none⟩=some v:=by
 have hi:=(List.getElem?_eq_some_iff.1 hv).1
 have hl:xs.length=l:=by have:=h.sl.1;omega
 have hon:=h.pos ox
 obtain ⟨-, -,h3⟩:=h.sl
 rcases h3 with ⟨-, -,⟨ex,h4⟩, -⟩|⟨h4, -⟩
 ·rw[Nat.zero_add,Nat.mul_one,hb.cell,h4,aq hi];exact hv
 ·rw[h4]at hon;cases hon.1
theorem Own.osR {y:Ent} (h:Own T sz y p l c xs) {f:Fm} {H:ko} (hH:Hp f w H) (hy:H[i]? =some (Go.Fw.ro y)):OS T sz w (.slice p l c) xs:=
 ⟨y,p,l,c,rfl,h,fun ho=>by
  have h1:Blk w (Go.Fw.ro y).b (Go.Fw.ro y).T (Go.Fw.ro y).cs:=hH.get (x:=Go.Fw.ro y) hy ho
  have h2:Blk w y.b y.T y.cs:=h1
  rw[h.hT]at h2;exact h2⟩
section
variable {P:Program} {n:Nat} {e:Env} {d ty:Nat} {pos:String} {af:Array Edge} {w:World}
theorem zZ {t:Nat} {y:Operand} (i:Nat) (hu:∀w,(underlying t).run P w=.ok (.slice elem) w) (hsz:∀w,(sizeOf elem).run P w=.ok sz w)
 (hx:ev e x=some (.slice p l c)) (hp:p=some ⟨b,o,none⟩) (hy:ev e y=some (.int kd z)) (hz:z=(i:Int)) (hi:i<l) (ha:Sat n e a):
  (execOp a.eval ⟨some d,.indexAddr t x y,ty,pos,af,none⟩).run P w=.ok (.value (.pointer (some ⟨b,o+i*sz,none⟩))) w:=by
 subst hz;subst hp;exact vH hu hsz hx hy hi ha
end
def Qr (W:List Nat) (b:Nat) (H:ko):Prop:=∀x∈H,x.ex=true→x.b≠b→x.tag∉W
theorem Qr.of {H:ko} (h:Qy W H):Qr W b H:=fun x hx he _=>h x hx he
theorem Qr.self {H:ko} {wr:Bool} (h:Qr W b H):Qr W b (⟨b,T,cs,wr,true,none⟩::H):=by
 intro y hy he hb
 rcases mC hy with rfl|hy
 ·exact absurd rfl hb
 ·exact h y hy he hb
theorem Qr.own {H:ko} {y:Ent} (h:Qr W b H) (hO:Own T sz y p l c xs) (hT:W.all (fun t=> !Nat.beq t T)=true):Qr W b (y::H):=by
 intro z hz he hb
 rcases mC hz with rfl|hz
 ·rw[hO.tag];exact vd hT
 ·exact h z hz he hb
def roN:Nat→ko→ko
 |0,H=>H
 |_,[]=>[]
 |n+1,x::r=>ro x::roN n r
theorem qeg:∀{n:Nat} {H:ko} {y:Ent},y∈roN n H→∃z∈H,z.b=y.b∧z.ex=y.ex
 |0,H,y,h=>⟨y,h,rfl,rfl⟩
 |n+1,[],y,h=>by simp[roN]at h
 |n+1,x::r,y,h=>by
    rcases mC h with rfl|h
    ·exact ⟨x,by simp,rfl,rfl⟩
    ·obtain ⟨z,hz,h1,h2⟩:=qeg h
     exact ⟨z,by simp[hz],h1,h2⟩
theorem Hp.roN {f:Fm}:∀{n:Nat} {H:ko},Hp f w H→Hp f w (roN n H)
 |0,_,h=>h
 |_+1,[],h=>h
 |_+1,_::_,h=>⟨⟨h.1.row,h.1.obj⟩,fun _ hw=>by simp[Go.Fw.ro]at hw,fun he y hy hye=>by
    obtain ⟨z,hz,h1,h2⟩:=qeg hy
    rw[← h1]
    exact h.2.2.1 he z hz (by rw[h2];exact hye),Hp.roN h.2.2.2⟩
def OSp (φ:Nat→Prop) (T sz:Nat) (w:World) (v:Value) (xs:List Value):Prop:=∃y p l c,v=.slice p l c∧Own T sz y p l c xs∧(y.on=true→Blk w y.b T y.cs∧φ y.b)
abbrev OSn (B T sz:Nat) (w:World) (v:Value) (xs:List Value):Prop:=OSp (fun b=>B≤b) T sz w v xs
theorem Hp.geT {H:ko} {y:Ent} (h:Hp ⟨w1,B,W⟩ w (y::H)) (hw:y.wr=true) (hB:B≤w1.heap.size):y.on=true→B≤y.b:=fun ho=>by
 rcases h.may (List.Mem.head _) ho hw with h|h
 ·exact Nat.le_trans hB h
 ·exact h.1
theorem Own.osn {y:Ent} (h:Own T sz y p l c xs) {f:Fm} {H:ko} (hH:Hp f w H) (hy:H[i]? =some y) (hB:y.on=true→φ y.b):OSp φ T sz w (.slice p l c) xs:=
 ⟨y,p,l,c,rfl,h,fun ho=>⟨by have:=hH.get hy ho;rw[h.hT]at this;exact this,hB ho⟩⟩
theorem Own.osnR {y:Ent} (h:Own T sz y p l c xs) {f:Fm} {H:ko} (hH:Hp f w H) (hy:H[i]? =some (Go.Fw.ro y)) (hB:y.on=true→φ y.b):OSp φ T sz w (.slice p l c) xs:=
 ⟨y,p,l,c,rfl,h,fun ho=>⟨by
  have h1:Blk w (Go.Fw.ro y).b (Go.Fw.ro y).T (Go.Fw.ro y).cs:=hH.get (x:=Go.Fw.ro y) hy ho
  have h2:Blk w y.b y.T y.cs:=h1
  rw[h.hT]at h2;exact h2,hB ho⟩⟩
structure jv (l:List Nat) (w w':World):Prop where
 os:w'.os=w.os
 tape:w'.tape=w.tape
 output:w'.output=w.output
 size:w.heap.size≤w'.heap.size
 keep:∀(b:Nat) (o:Obj),w.heap[b]? =some o→b∉l→w'.heap[b]? =some o
theorem jv.refl {l:List Nat}:jv l w w:=⟨rfl,rfl,rfl,Nat.le_refl _,fun _ _ h _=>h⟩
theorem jv.trans {l m:List Nat} {w2:World} (h:jv l w w1) (k:jv m w1 w2):jv (l++m) w w2:=
 ⟨k.os.trans h.os,k.tape.trans h.tape,k.output.trans h.output,Nat.le_trans h.size k.size,fun b o hb hn=>by
  simp only[List.mem_append,not_or]at hn
  exact k.keep b o (h.keep b o hb hn.1) hn.2⟩
theorem jv.blk {l:List Nat} (h:jv l w w') (hb:Blk w b T cs) (hn:b∉l):Blk w' b T cs:=h.keep b _ hb hn
theorem jv.of (h:Fr 0 [] w w'):jv [] w w':=⟨h.os,h.tape,h.output,h.size,fun b o hb _=>h.keep b o hb (.inr zp)⟩
theorem jv.fr {l:List Nat} (h:jv l w w') (hl:∀b∈l,∀o:Obj,w.heap[b]? =some o→B≤b∧KE o∈W):Fr B W w w':=
 ⟨h.os,h.tape,h.output,h.size,fun b o hb hc=>h.keep b o hb fun hm=>by
  have:=hl b hm o hb
  rcases hc with hc|hc
  ·omega
  ·exact hc this.2⟩
theorem jv.drop {l m:List Nat} (h:jv l w w') (hl:∀b∈l,b∈m∨w.heap.size≤b):jv m w w':=⟨h.os,h.tape,h.output,h.size,fun b o hb hn=>h.keep b o hb fun hm=>by
 rcases hl b hm with h1|h1
 ·exact hn h1
 ·have:=(Array.getElem?_eq_some_iff.1 hb).1;omega⟩
def vh (w:World) (l:List Nat):ko:=((List.range w.heap.size).filter fun b=> !l.contains b).map fun b=>⟨b,0,[],false,false,w.heap[b]?⟩
theorem qfg {l:List Nat} {x:Ent} (h:x∈vh w l):∃b,b<w.heap.size∧b∉l∧x=⟨b,0,[],false,false,w.heap[b]?⟩:=by
 obtain ⟨b,hb,rfl⟩:=List.mem_map.1 h
 simp at hb
 exact ⟨b,hb.1,hb.2,rfl⟩
theorem Hp.range {f:Fm}:∀{bs:List Nat},bs.Nodup→Hp f w (bs.map fun b=>⟨b,0,[],false,false,w.heap[b]?⟩)
 |[],_=>trivial
 |b::r,h=>⟨⟨fun h=>(by cases h),fun o ho=>ho⟩,fun _ h=>(by cases h),fun _ y hy _=>by
    obtain ⟨c,hc,rfl⟩:=List.mem_map.1 hy
    have:=(List.nodup_cons.1 h).1
    rintro rfl
    exact this hc,Hp.range (List.nodup_cons.1 h).2⟩
theorem Hp.rest {f:Fm} (l:List Nat):Hp f w (vh w l):=Hp.range (List.nodup_range.filter _)
theorem vZ {l:List Nat} (hb:b∈l):∀y∈vh w l,y.ex=true→y.b≠b:=by
 intro y hy _ he
 obtain ⟨c, -,hc,rfl⟩:=qfg hy
 simp only at he
 subst he
 exact hc hb
theorem Hp.restKeep {f:Fm} {l:List Nat} (h:Hp f w' (vh w l)) (b:Nat) (o:Obj) (hb:w.heap[b]? =some o) (hn:b∉l):w'.heap[b]? =some o:=by
 have hlt:=(Array.getElem?_eq_some_iff.1 hb).1
 have hm:(⟨b,0,[],false,false,w.heap[b]?⟩:Ent)∈vh w l:=by
  refine List.mem_map.2 ⟨b,?_,rfl⟩
  simp[hlt,hn]
 exact (h.has hm).obj o hb
theorem Hp.keepX {f:Fm} {l:List Nat} (h:Hp f w' (vh w l)) (hf:Fm.ok ⟨w,f.B,f.W⟩ w'):jv l w w':=⟨hf.os,hf.tape,hf.output,hf.size,h.restKeep⟩
theorem Hp.one (hb:Blk w b T cs) (hB:B≤b) (hT:W.any (fun t=>Nat.beq t T)=true):Hp ⟨w,B,W⟩ w (⟨b,T,cs,true,true,none⟩::vh w [b]):=
 (Hp.rest [b]).add hb (fun _=>.inr ⟨hB,qz hT⟩) (vZ zp)
theorem Hp.oneMap (hb:w.heap[b]? =some (.map es.toArray ck)) (hB:B≤b) (hT:W.any (fun t=>Nat.beq t 1000000)=true):Hp ⟨w,B,W⟩ w (mpE b es ck::vh w [b]):=
 ⟨⟨fun h=>(by cases h),fun o ho=>by cases ho;exact hb⟩,fun _ _=>.inr ⟨hB,qz hT⟩,fun _=>vZ zp,Hp.rest [b]⟩
theorem Hp.keep {f:Fm} {H:ko} {l:List Nat} (h:Hp f w H) (k:jv l w w') (hn:∀x∈H,x.ex=true→x.b∉l):Hp f w' H:=h.mono fun x hx he o ho=>k.keep _ o ho (hn x hx he)
section
variable {P:Program} {Q:Exit→Act→World→Prop} {n:Nat} {f:Fm} {e:Env} {H:ko} {ops:Array Oper} {rest:List Oper} {d ty:Nat} {pos:String} {af:Array Edge}
end
section
variable {P:Program} {Q:Exit→Act→World→Prop} {n:Nat} {f:Fm} {e:Env} {H:ko} {ops:Array Oper} {nt:Nat} {HS:ko} {r:xr}
end
theorem qeG (hb:(es.map (·.born)).Nodup) {x y:MapEntry} (hx:x∈es) (hy:y∈es) (h:x.born=y.born):x=y:=by
 induction es with
 |nil=>cases hx
 |cons a r ih=>
  simp only[List.map_cons,List.nodup_cons]at hb
  rcases mC hx with hxa|hx
  ·rcases mC hy with hya|hy
   ·rw[hxa,hya]
   ·exact absurd (List.mem_map.2 ⟨y,hy,by rw[← h,hxa]⟩) hb.1
  ·rcases mC hy with hya|hy
   ·exact absurd (List.mem_map.2 ⟨x,hx,by rw[h,hya]⟩) hb.1
   ·exact ih hb.2 hx hy
section
variable {P:Program} {n:Nat} {f:Fm} {e:Env} {H:ko} {d ty:Nat} {pos:String} {af:Array Edge}
theorem qiJ {it since:Nat} {seen:List Nat} {xe:MapEntry} (i j:Nat) (hi:H[i]? =some (itE it b since (seen++[xe.born]) ck)) (hy:H[j]? =some (mpE b es ck)) (hx:ev e x=some (.pointer (some ⟨it,0,none⟩)))
  (hxe:xe∈es) (hnd:(es.map (·.born)).Nodup) (ha:Sat n e a) (hH:Hp f w H):
  (execOp a.eval ⟨some d,.entry x,ty,pos,af,none⟩).run P w=.ok (.value (.tuple #[xe.key,xe.val])) w:=by
 have h1:=hH.obj hi rfl
 have h2:=hH.obj hy rfl
 have h3:es.find? (fun z=>z.born==xe.born)=some xe:=by
  cases hf:es.find? (fun z=>z.born==xe.born) with
  |none=>exact absurd (List.find?_eq_none.1 hf xe hxe) zp
  |some z=>
   have hz:=List.find?_some hf
   have hm:=List.mem_of_find?_eq_some hf
   rw[qeG hnd hm hxe (by simpa using hz)]
 simp only[execOp,ha.ev hx]
 have h2':(getObj b).run P w=.ok (.map es.toArray ck) w:=vr h2 rfl
 simp only[Instr.entry,Sem.run_bind,vr h1 rfl,Result.andThen_ok]
 simp[h2',h3]
end
section
variable {P:Program} {Q:Exit→Act→World→Prop} {n:Nat} {f:Fm} {e:Env} {H:ko} {ops:Array Oper} {rest:List Oper} {d ty:Nat} {pos:String} {af:Array Edge}
theorem qeu {g:FuncId} {args:Array Operand} {us:List Value} {tys:Array TypeId} {R:World→Value→World→Prop} (hg:∀(az:Array Value) (w:World),(callFunc g az).run P w=.ok (.enter g az) w)
  (hx:ev e x=some (.func (.func g) #[] us.toArray)) (hargs:evL e args.toList=some vs) (hd:Nat.blt d n=true) (hc:∀w,Hp f w H→f.ok w→Calls P g (vs++us).toArray w (Ret (R w)))
  (k:∀w v w',Hp f w H→f.ok w→R w v w'→L P ops Q n ((d,v)::e) rest w'):J P ops Q n f e H (⟨some d,.call ⟨.value x,args,tys⟩,ty,pos,af,none⟩::rest):=fun w hH hf a ha=>by
 have hmap:args.map a.eval=vs.toArray:=by apply Array.toList_inj.1;rw[Array.toList_map];exact qbv ha hargs
 unfold wpList
 rw[if_pos (by simp[Region.wanted])]
 refine .inl ?_
 have hrun:(execOp a.eval ⟨some d,.call ⟨.value x,args,tys⟩,ty,pos,af,none⟩).run P w=.ok (.enter g (vs++us).toArray) w:=by
  simp only[execOp,resolve,hmap,ha.ev hx,Deferred.ofValue]
  simp[invoke,hg]
 unfold Oper.wp
 rw[hrun]
 refine Calls.mono (hc w hH hf) fun e w' he=>?_
 cases e with
 |returned v=>exact k w v w' hH hf he _ (ha.put hd)
 |panicked c=>exact he.elim
 |outgrown=>exact he.elim
end
theorem vA.nil' {κ:Type} {enc:κ→Value}:vA enc [] [] ck:=⟨rfl,by simp,by simp,by simp⟩
section
variable {P:Program} {Q:Exit→Act→World→Prop} {n:Nat} {f:Fm} {e:Env} {H:ko} {ops:Array Oper} {rest:List Oper} {d ty:Nat} {pos:String} {af:Array Edge}
end
theorem mc {f:Fm} (hb:Blk f.ws b T cs) (hT:f.W.all (fun t=> !Nat.beq t T)=true):∀w',f.ok w'→∀(j:Nat) (u:Value),cs[j]? =some u→w'.cell? ⟨b,0+j,none⟩=some u:=fun w' hf j u hj=>by
 have h:=hf.keep b _ hb (.inr (vd (T:=T) hT))
 have h:Blk w' b T cs:=h
 rw[h.cell,Nat.zero_add];exact hj
theorem OS.openF (h:OS T sz w v xs):∃p l c,v=.slice p l c∧xs.length=l*sz∧l≤c∧(0<l→∃b,p=some ⟨b,0,none⟩∧∀f:Fm,f.ws=w→f.W.all (fun t=> !Nat.beq t T)=true→∀w',f.ok w'→∀(j:Nat) (u:Value),xs[j]? =some u→w'.cell? ⟨b,j,none⟩=some u):=by
 obtain ⟨y,p,l,c,h1,h2,h3⟩:=h
 refine ⟨p,l,c,h1,h2.sl.1,h2.sl.2.1,fun hl=>?_⟩
 obtain ⟨-, -,h4⟩:=h2.sl
 rcases h4 with ⟨h5,h6,⟨ex,h7⟩, -⟩|⟨h5,h6,h7⟩
 ·refine ⟨y.b,h6,fun f hf hT w' k j u hj=>?_⟩
  have hb:=h3 h5
  subst hf
  have hk:=k.keep y.b _ hb (.inr (vd (T:=T) hT))
  have hk:Blk w' y.b T y.cs:=hk
  rw[hk.cell,h7,aq (List.getElem?_eq_some_iff.1 hj).1]
  exact hj
 ·have:=h2.sl.2.1;omega
theorem Hp.freshX {H:ko} (h:Hp ⟨w0,B,[]⟩ w H) {x:Ent} (hx:H[i]? =some x) (he:x.ex=true) (hw:x.wr=true):w0.heap.size≤x.b:=by
 rcases h.mayx (mG hx) he hw with h|⟨-,h⟩
 ·exact h
 ·cases h
theorem jv.keep' {w2:World} {l:List Nat} (h:vQ w0 w1) (k:jv l w1 w2) (hl:∀b∈l,w0.heap.size≤b):vQ w0 w2:=fun b o hb=>k.keep b o (h b o hb) fun hm=>by
 have h1:=hl b hm
 have h2:b<w0.heap.size:=(Array.getElem?_eq_some_iff.1 hb).1
 omega
theorem vQ.blk (k:vQ w w') (h:Blk w b T cs):Blk w' b T cs:=k _ _ h
theorem Fr.keepB (k:vQ w0 w) (h:Fr B W w w') (hW:W=[]):vQ w0 w':=k.trans (h.keepAll (.inr hW))
section
variable {P:Program} {Q:Exit→Act→World→Prop} {n:Nat} {f:Fm} {e:Env} {H:ko} {ops:Array Oper} {rest:List Oper} {d ty:Nat} {pos:String} {af:Array Edge}
theorem Vo {g:FuncId} {args:Array Operand} {tys:Array TypeId} {φ:List Value→Prop} (hg:∀(az:Array Value) (w:World),(callFunc g az).run P w=.ok (.enter g az) w)
  (hargs:evL e args.toList=some vs) (hd:Nat.blt d n=true)
  (hc:∀w,Hp f w H→f.ok w→Calls P g vs.toArray w (Ret fun v w'=>(∃xs,(∃y p l c,v=.slice p l c∧Own T sz y p l c xs∧(y.on=true→Blk w' y.b T y.cs∧w.heap.size≤y.b))∧φ xs)∧Fr 0 [] w w'))
  (k:∀y p l c xs,Own T sz y p l c xs→φ xs→J P ops Q n f ((d,.slice p l c)::e) (y::H) rest):J P ops Q n f e H (⟨some d,.call ⟨.value (.func g),args,tys⟩,ty,pos,af,none⟩::rest):=
 kQ hg hargs hd hc fun w v w' hH hf hR=>by
  obtain ⟨⟨xs,⟨y,p,l,c,rfl,hO,hy⟩,hφ⟩,h3⟩:=hR
  refine k y p l c xs hO hφ w' ⟨⟨fun ho=>?_,fun o ho=>by rw[hO.ho]at ho;cases ho⟩,fun he _=>.inl ?_,fun he z hz hze=>?_,hH.fr h3⟩ (hf.fr h3)
  ·rw[hO.hT];exact (hy ho).1
  ·have:y.on=true:=by simpa[Ent.ex,hO.ho]using he
   exact Nat.le_trans hf.size (hy this).2
  ·have:y.on=true:=by simpa[Ent.ex,hO.ho]using he
   have h4:=hH.lt hz hze
   have h5:=(hy this).2
   omega
end
theorem kG (h1: -4611686018427387904≤z) (h2:z<4611686018427387904):IntKind.i64.wrap z=z:=by
 simp[IntKind.wrap,IntKind.bits,IntKind.signed];omega
theorem N.sub' {K:Act→World→Prop} {e e':Env} (h:N K n e' w) (hs:Sub e e'):N K n e w:=fun a ha=>h a (ha.sub hs)
section
variable {P:Program} {Q:Exit→Act→World→Prop} {n:Nat} {f:Fm} {e:Env} {H:ko} {ops:Array Oper} {rest:List Oper} {d ty:Nat} {pos:String} {af:Array Edge}
theorem Xq {g:FuncId} {args:Array Operand} {us:List Value} {tys:Array TypeId} {φ:Value→Prop} (hg:∀(az:Array Value) (w:World),(callFunc g az).run P w=.ok (.enter g az) w)
  (hx:ev e x=some (.func (.func g) #[] us.toArray)) (hargs:evL e args.toList=some vs) (hd:Nat.blt d n=true) (hc:∀w,Hp f w H→f.ok w→Calls P g (vs++us).toArray w (Ret fun v w'=>φ v∧Fr 0 [] w w'))
  (k:∀v,φ v→J P ops Q n f ((d,v)::e) H rest):J P ops Q n f e H (⟨some d,.call ⟨.value x,args,tys⟩,ty,pos,af,none⟩::rest):=
 qeu hg hx hargs hd hc fun w v w' hH hf hR=>k v hR.1 w' (hH.fr hR.2) (hf.fr hR.2)
end
section
variable {P:Program} {Q:Exit→Act→World→Prop} {n:Nat} {f:Fm} {e:Env} {H:ko} {ops:Array Oper} {rest:List Oper} {d ty:Nat} {pos:String} {af:Array Edge}
variable {κ:Type} [DecidableEq κ] {enc:κ→Value} {ok:World→κ→Prop} {ms:List (κ×Value)} {es:List MapEntry} {ck kt vt mt b:Nat}
def ZC (enc:κ→Value) (b:Nat) (k:κ) (z u:Value) (w:World):Prop:=∃(ms:List (κ×Value)) (es:List MapEntry) (ck:Nat),w.heap[b]? =some (.map es.toArray ck)∧vA enc ms es ck∧(xK ms k).getD z=u
theorem Ko {m kx:Operand} {k:κ} {z u:Value} (hu:∀w,(underlying mt).run P w=.ok (.map kt vt) w) (hk:Xb P kt enc (fun _ _=>True)) (hz:∀w,(zeroValue vt).run P w=.ok z w)
  (hm:ev e m=some (.map (some b))) (hkx:ev e kx=some (enc k)) (ha:Sat n e a) (hT:ZC enc b k z u w):
  (execOp a.eval ⟨some d,.lookup mt m kx false,ty,pos,af,none⟩).run P w=.ok (.value u) w:=by
 obtain ⟨ms,es,ck,h1,h2,h3⟩:=hT
 have:=Qf (P:=P) hu hk h2 h1 (fun _ _=>trivial) (k:=k) trivial hz false
 simp only[execOp,ha.ev hm,ha.ev hkx]
 simp[this,h3]
end
section
variable {P:Program} {Q:Exit→Act→World→Prop} {n:Nat} {f:Fm} {e:Env} {H:ko} {ops:Array Oper} {nt:Nat} {HS:ko} {r:xr} {d ty:Nat} {pos:String} {af:Array Edge} {T:World→Prop}
def DJT (P:Program) (ops:Array Oper) (Q:Exit→Act→World→Prop) (f:Fm) (HS:ko) (T:World→Prop) (nt n:Nat) (e:Env) (H:ko) (s:xr):Prop:=
 ∀w,Hp f w H→f.ok w→DS P ops Q (fun w=>Sx f HS w∧T w) nt n e s w
theorem Zu {id:Nat} {l:List Oper} {HS:ko} (nt:Nat) (s:xr) (idx:List Nat) (_:Kp H idx=some HS) (T:World→Prop) (hm:P.follows .mixedOrders=true) (hs:YU l.toArray nt s=true)
  (h:DJT P l.toArray (NoP Q) f HS T nt n e H s):CJ P (.region id l.toArray true) Q n f e H:=fun w hH hf=>
 qif nt s hm hs fun w1 hD=>⟨_,h w1 (hH.mono fun _ _ _ o hb=>by rw[hD.heap];exact hb) (Fr.dr hf hD)⟩
theorem qa {op:Op} (hi:ops[i]? =some ⟨some d,op,ty,pos,af,none⟩) (hd:Nat.blt d n=true) (hS:∀x∈HS,x∈H) (hT:∀w,Hp f w H→f.ok w→T w)
  (hr:∀a w,Sat n e a→(execOp a.eval ⟨some d,op,ty,pos,af,none⟩).run P w=.ok (.value v) w) (k:DJT P ops Q f HS T nt n ((d,v)::e) H r):DJT P ops Q f HS T nt n e H ((i,true)::r):=fun w hH hf=>
 YJ hi hd (fun a w ha _=>hr a w ha) ⟨⟨fun x hx ho=>hH.blk (hS x hx) ho,hf⟩,hT w hH hf⟩ (k w hH hf)
theorem qdJ {op:Op} (hi:ops[i]? =some ⟨some d,op,ty,pos,af,none⟩) (hd:Nat.blt d n=true) (hS:∀x∈HS,x∈H) (hT:∀w,Hp f w H→f.ok w→T w)
  (hr:∀a w,Sat n e a→T w→(execOp a.eval ⟨some d,op,ty,pos,af,none⟩).run P w=.ok (.value v) w) (k:DJT P ops Q f HS T nt n ((d,v)::e) H r):DJT P ops Q f HS T nt n e H ((i,true)::r):=fun w hH hf=>
 YJ hi hd (fun a w ha hS=>hr a w ha hS.2) ⟨⟨fun x hx ho=>hH.blk (hS x hx) ho,hf⟩,hT w hH hf⟩ (k w hH hf)
theorem Vt {o:Oper} (hi:ops[i]? =some o)
  (h:∀K:Act→World→Prop,(∀e H,(Nat.blt i nt=false∨((∀x∈HS,x∈H)∧∀w,Hp f w H→f.ok w→T w))→DJT P ops Q f HS T nt n e H r→NJ K n f e H)→J P ops (Exit.then K Q) n f e H [o]):DJT P ops Q f HS T nt n e H ((i,false)::r):=fun w hH hf=>
 qkw hi fun K hK=>h K (fun e H hs hd w hH hf=>hK e w (fun hlt=>by
  have h3:Nat.blt i nt=true:=by simpa using hlt
  rcases hs with hs|hs
  ·rw[hs]at h3;exact absurd h3 zp
  ·exact ⟨⟨fun x hx ho=>hH.blk (x:=x) (hs.1 x hx) ho,hf⟩,hs.2 w hH hf⟩) (hd w hH hf)) w hH hf
end
theorem qdC (h:Fr B W w w') (hT:W.all (fun t=> !Nat.beq t 1000000)=true):∀es ck,w.heap[b]? =some (.map es ck)→w'.heap[b]? =some (.map es ck):=fun es ck hb=>h.keep _ _ hb (.inr (vd (T:=1000000) hT))
theorem jk (h:Fr B W w w') (hT:W.all (fun t=> !Nat.beq t T)=true):∀b cs,Blk w b T cs→Blk w' b T cs:=fun b cs hb=>h.blk hb (.inr (vd hT))
theorem xg {α:Type} {c:α→List Value} (hc:∀a,(c a).length=sz):∀{xs:List α} {j:Nat} {a:α},xs[j]? =some a→∀(i:Nat) u,(c a)[i]? =some u→(xs.flatMap c)[j*sz+i]? =some u
 |[],_,_,h,_,_,_=>by simp at h
 |x::r,0,a,h,i,u,hu=>by
    simp at h;subst h
    have:=(List.getElem?_eq_some_iff.1 hu).1
    rw[List.flatMap_cons,aq ox]
    simpa using hu
 |x::r,j+1,a,h,i,u,hu=>by
    simp at h
    rw[List.flatMap_cons,List.getElem?_append_right (by rw[hc,Nat.succ_mul];omega),hc,show (j+1)*sz+i - sz=j*sz+i by rw[Nat.succ_mul];omega]
    exact xg hc h i u hu
theorem qw {α:Type} {c:α→List Value} (hc:∀a,(c a).length=sz):∀(xs:List α),(xs.flatMap c).length=xs.length*sz
 |[]=>by simp
 |x::r=>by rw[List.flatMap_cons,lA,hc,qw hc r,List.length_cons,Nat.succ_mul];omega
section
variable {P:Program} {Q:Exit→Act→World→Prop} {n:Nat} {f:Fm} {e:Env} {H:ko} {ops:Array Oper} {rest:List Oper} {d ty:Nat} {pos:String} {af:Array Edge}
theorem Xg {t:Nat} {y:Operand} {p:Int} (hx:ev e x=some (.int kd p)) (hy:ev e y=some (.int kd q)) (ha:Sat n e a):
  (execOp a.eval ⟨some d,.binOp .or t x y t',ty,pos,af,none⟩).run P w=.ok (.value (.int kd (kd.wrap ((BitVec.ofInt kd.bits p|||BitVec.ofInt kd.bits q).toNat)))) w:=by (simp only[execOp,ha.ev hx,ha.ev hy];simp[eqGuard,binOp,Op.intBits])
theorem qak {t:Nat} {y:Operand} {p:Int} (hx:ev e x=some (.int kd p)) (hy:ev e y=some (.int kd q)) (ha:Sat n e a):
  (execOp a.eval ⟨some d,.binOp .and t x y t',ty,pos,af,none⟩).run P w=.ok (.value (.int kd (kd.wrap ((BitVec.ofInt kd.bits p&&&BitVec.ofInt kd.bits q).toNat)))) w:=by (simp only[execOp,ha.ev hx,ha.ev hy];simp[eqGuard,binOp,Op.intBits])
theorem KP {t:Nat} {y:Operand} {kd':IntKind} {p:Int} {q:Nat} (hx:ev e x=some (.int kd p)) (hy:ev e y=some (.int kd' (q:Int))) (ha:Sat n e a):
  (execOp a.eval ⟨some d,.binOp .shl t x y t',ty,pos,af,none⟩).run P w=.ok (.value (.int kd (kd.wrap (p*2^(min q kd.bits))))) w:=by (simp only[execOp,ha.ev hx,ha.ev hy];simp[eqGuard,binOp,Op.shift];intro h;omega)
theorem qcc {t:Nat} {y:Operand} {kd':IntKind} {p:Int} {q:Nat} (hx:ev e x=some (.int kd p)) (hy:ev e y=some (.int kd' (q:Int))) (ha:Sat n e a):
  (execOp a.eval ⟨some d,.binOp .shr t x y t',ty,pos,af,none⟩).run P w=.ok (.value (.int kd (p.fdiv (2^(min q kd.bits))))) w:=by (simp only[execOp,ha.ev hx,ha.ev hy];simp[eqGuard,binOp,Op.shift];intro h;omega)
def cut (o c lo sz:Nat):Nat:=if c=lo then o else o+lo*sz
theorem qcX (b o c lo sz:Nat):(if c=lo then (some ⟨b,o,none⟩:Option Addr) else (some (⟨b,o,none⟩:Addr)).map (·.add (lo*sz)))=some ⟨b,cut o c lo sz,none⟩:=by
 unfold cut
 split
 ·rfl
 ·simp only[Option.map_some,Addr.add]
  split
  ·rename_i h;rw[h];rfl
  ·rfl
theorem Kn {t:Nat} {y:Operand} (hu:∀w,(underlying t).run P w=.ok (.slice elem) w) (hsz:∀w,(sizeOf elem).run P w=.ok sz w)
  (hx:ev e x=some (.slice (some ⟨b,o,none⟩) l c)) (hy:ev e y=some (.int kd i)) (hi:i≤l) (ha:Sat n e a):
  (execOp a.eval ⟨some d,.slice t x (some y) none none,ty,pos,af,none⟩).run P w=.ok (.value (.slice (some ⟨b,cut o c i sz,none⟩) (l - i) (c - i))) w:=by
 have h:=qcX b o c i sz
 simp only[execOp,ha.ev hx,Option.map_none,Option.map_some,ha.ev hy]
 simp only[Option.map_some]at h
 simp[Instr.sliceAt,Instr.slice,Instr.sliceBounds,Instr.sliceBound,asIntOf,hu,hsz,hi,h]
theorem YB {t:Nat} {y z:Operand} {kd':IntKind} (hu:∀w,(underlying t).run P w=.ok (.slice elem) w) (hsz:∀w,(sizeOf elem).run P w=.ok sz w)
  (hx:ev e x=some (.slice (some ⟨b,o,none⟩) l c)) (hy:ev e y=some (.int kd i)) (hz:ev e z=some (.int kd' j)) (hi:i≤j) (hj:j≤c) (ha:Sat n e a):
  (execOp a.eval ⟨some d,.slice t x (some y) (some z) none,ty,pos,af,none⟩).run P w=.ok (.value (.slice (some ⟨b,cut o c i sz,none⟩) (j - i) (c - i))) w:=by
 have h:=qcX b o c i sz
 simp only[execOp,ha.ev hx,Option.map_none,Option.map_some,ha.ev hy,ha.ev hz]
 simp only[Option.map_some]at h
 simp[Instr.sliceAt,Instr.slice,Instr.sliceBounds,Instr.sliceBound,asIntOf,hu,hsz,hi,hj,h]
theorem qgL {t:Nat} (hu:∀w,(underlying t).run P w=.ok (.array m elem) w) (hsz:∀w,(sizeOf elem).run P w=.ok sz w)
  (hx:ev e x=some (.pointer (some ⟨b,o,none⟩))) (ha:Sat n e a):
  (execOp a.eval ⟨some d,.slice t x none none none,ty,pos,af,none⟩).run P w=.ok (.value (.slice (some ⟨b,o,none⟩) m m)) w:=by
 simp only[execOp,ha.ev hx,Option.map_none]
 simp[Instr.sliceAt,Instr.sliceBounds,Instr.sureAddr,hu,hsz,Addr.add]
theorem qcd {t:Nat} {z:Operand} (hu:∀w,(underlying t).run P w=.ok (.array m elem) w) (hsz:∀w,(sizeOf elem).run P w=.ok sz w)
  (hx:ev e x=some (.pointer (some ⟨b,o,none⟩))) (hz:ev e z=some (.int kd j)) (hj:j≤m) (ha:Sat n e a):
  (execOp a.eval ⟨some d,.slice t x none (some z) none,ty,pos,af,none⟩).run P w=.ok (.value (.slice (some ⟨b,o,none⟩) j m)) w:=by
 simp only[execOp,ha.ev hx,Option.map_none,Option.map_some,ha.ev hz]
 simp[Instr.sliceAt,Instr.sliceBounds,Instr.sliceBound,asIntOf,Instr.sureAddr,hu,hsz,hj,Addr.add]
theorem zi {HS:ko} {nt:Nat} {r:xr} {u:Value} (hp:v=u) (k:DJ P ops Q f HS nt n ((d,u)::e) H r):DJ P ops Q f HS nt n ((d,v)::e) H r:=by rw[hp];exact k
theorem XT {xT:Nat} {z:Operand} {y:Ent} {sv:Value} {news:List Value} (i:Nat) (hy:H[i]? =some y) (ho:y.on=true) (hob:y.ob=none) (hwr:y.wr=true) (hu:∀w,(underlying sT).run P w=.ok (.slice elem) w) (hsz:∀w,(sizeOf elem).run P w=.ok 1 w)
  (hx:ev e x=some (.slice (some ⟨y.b,o,none⟩) l c)) (hz:ev e z=some sv) (hm:∀w,(Builtin.lenOf sv).run P w=.ok m w) (hsrc:∀w,Hp f w H→f.ok w→(Builtin.firstCells 1 (Nat.min m l) sv).run P w=.ok news.toArray w)
  (hs:news.all scal=true) (hl:o+news.length≤y.cs.length) (hd:Nat.blt d n=true)
  (k:J P ops Q n f ((d,.int .i64 ((Nat.min m l:Nat):Int))::e) (qbQ H i (kH y.cs o news)) rest):J P ops Q n f e H (⟨some d,.call ⟨.builtin .copy, #[x,z], #[sT,xT]⟩,ty,pos,af,none⟩::rest):=fun w hH hf=>by
 obtain ⟨w',h1,h2⟩:=zG (P:=P) (b:=y.b) (T:=y.T) news w y.cs o 0 (hH.get hy ho) ox hs
 rw[Nat.add_zero]at h2
 refine L.valw hd (fun a ha=>?_) (k w' (hH.upd hy ho h2 hob) (hf.upd (hH.get hy ho) (hH.may (mG hy) ho hwr) h2))
 simp only[execOp,resolve]
 simp[invoke,builtin,ha.ev hx,ha.ev hz,Builtin.copy_,hu,hm,hsz,hsrc w hH hf,h1,goInt]
theorem qew {g:FuncId} {name:String} {args:Array Operand} {as':List Value} {v0:Value} {tys:Array TypeId} {R:World→Value→World→Prop} (hg:∀(w:World),(callMethod (.iface T v0) name vs.toArray).run P w=.ok (.enter g as'.toArray) w)
  (hx:ev e x=some (.iface T v0)) (hargs:evL e args.toList=some vs) (hd:Nat.blt d n=true) (hc:∀w,Hp f w H→f.ok w→Calls P g as'.toArray w (Ret (R w)))
  (k:∀w v w',Hp f w H→f.ok w→R w v w'→L P ops Q n ((d,v)::e) rest w'):J P ops Q n f e H (⟨some d,.call ⟨.invoke x name,args,tys⟩,ty,pos,af,none⟩::rest):=fun w hH hf a ha=>by
 have hmap:args.map a.eval=vs.toArray:=by apply Array.toList_inj.1;rw[Array.toList_map];exact qbv ha hargs
 unfold wpList
 rw[if_pos (by simp[Region.wanted])]
 refine .inl ?_
 have hrun:(execOp a.eval ⟨some d,.call ⟨.invoke x name,args,tys⟩,ty,pos,af,none⟩).run P w=.ok (.enter g as'.toArray) w:=by
  have h2:(vs.toArray:Array Value)=(#[Value.iface T v0]++vs.toArray).extract 1 (#[Value.iface T v0]++vs.toArray).size:=by simp
  simp only[execOp,resolve,hmap,ha.ev hx]
  have h3:=hg w
  simp only[Sem.run_bind,Sem.run_pure,Result.andThen_ok,invoke]
  simp
  exact h3
 unfold Oper.wp
 rw[hrun]
 refine Calls.mono (hc w hH hf) fun e w' he=>?_
 cases e with
 |returned v=>exact k w v w' hH hf he _ (ha.put hd)
 |panicked c=>exact he.elim
 |outgrown=>exact he.elim
end
def vint (n:Nat):List Nat:=if h:n<128 then [n] else (n%128+128)::vint (n/128)
termination_by n
decreasing_by omega
theorem Qd (h:n<128):vint n=[n]:=by rw[vint,dif_pos h]
theorem Yx (h:¬n<128):vint n=(n%128+128)::vint (n/128):=by rw[vint,dif_neg h]
theorem zA:∀(k n:Nat),n<128^(k+1)→(vint n).length≤k+1
 |0,n,h=>by rw[Qd (by simpa using h)];simp
 |k+1,n,h=>by
    by_cases hn:n<128
    ·rw[Qd hn];simp
    ·rw[Yx hn]
     have:=zA k (n/128) (by rw[Nat.div_lt_iff_lt_mul ox];rw[Nat.pow_succ]at h;exact h)
     simp;omega
theorem zB (h:n<18446744073709551616):(vint n).length≤10:=zA 9 n ox
theorem KD (n:Nat):0<(vint n).length:=by
 by_cases h:n<128
 ·rw[Qd h];simp
 ·rw[Yx h];simp
inductive Fld where
 |num (k n:Nat)
 |bys (k:Nat) (b:List Nat)
def xO:Fld→List Nat
 | .num k n=>vint (8*k)++vint n
 | .bys k b=>vint (8*k+2)++vint b.length++b
def qX (fs:List Fld):List Nat:=fs.flatMap xO
def qu (k n:Nat):List Fld:=if n=0 then [] else [.num k n]
structure FldOK (f:Fld):Prop where
 ok:match f with
  | .num k n=>k<1048576∧n<18446744073709551616
  | .bys k b=>k<1048576∧b.length<18446744073709551616∧∀x∈b,x<256
theorem xo (a b:List Fld):qX (a++b)=qX a++qX b:=List.flatMap_append ..
theorem qdH (a:Fld) (b:List Fld):qX (a::b)=xO a++qX b:=List.flatMap_cons ..
abbrev bv (n:Nat):Value:=.int .u8 (n:Int)
def sB (s:ByteArray):List Nat:=s.data.toList.map (·.toNat)
theorem qaV (s:ByteArray):(sB s).length=s.size:=by simp[sB]
theorem QK:∀(ys xs zs rest:List Value),ys.length=zs.length→kH (xs++zs++rest) xs.length ys=xs++ys++rest
 |[],xs,zs,rest,h=>by
    have:zs=[]:=List.eq_nil_of_length_eq_zero h.symm
    subst this;simp[kH]
 |y::ys,xs,zs,rest,h=>by
    obtain ⟨z,zs,rfl⟩:∃z r,zs=z::r:=by
     cases zs with
     |nil=>simp at h
     |cons z r=>exact ⟨z,r,rfl⟩
    simp only[kH]
    have h1:(xs++z::zs++rest).set xs.length y=(xs++[y])++zs++rest:=by
     rw[List.append_assoc,List.set_append_right _ _ (Nat.le_refl _)];simp
    rw[h1,show xs.length+1=(xs++[y]).length by simp,QK ys (xs++[y]) zs rest (by simpa using h)]
    simp
theorem qci:∀(l:List UInt8) (acc:ByteArray),(l.map fun c:UInt8=>((c.toNat:Nat):Int)).foldl (fun r n=>r.push (UInt8.ofNat n.toNat)) acc=⟨acc.data++l.toArray⟩
 |[],acc=>by simp
 |c::r,acc=>by
    rw[List.map_cons,List.foldl_cons,qci r]
    have:(acc.push (UInt8.ofNat ((c.toNat:Nat):Int).toNat)).data=acc.data.push c:=by
     simp[ByteArray.push]
    rw[this];simp
section
variable {P:Program} {n:Nat} {e:Env} {d ty:Nat} {pos:String} {af:Array Edge}
theorem r_b2s {t1 t2 el:Nat} {s:ByteArray} (h1:P.underlying t1=some (.slice el)) (h2:P.underlying el=some (.int .u8)) (h3:P.underlying t2=some .string) (hx:ev e x=some (.slice (some ⟨b,o,none⟩) l c)) (hl:l=(sB s).length)
  (hc:∀(j:Nat) k,(sB s)[j]? =some k→w.cell? ⟨b,o+j,none⟩=some (bv k)) (ha:Sat n e a):
  (execOp a.eval ⟨some d,.convert t1 t2 x,ty,pos,af,none⟩).run P w=.ok (.value (.string s)) w:=by
 have hlc:=vX (P:=P) (b:=b) w ((sB s).map bv) o fun j u hu=>by
  rw[List.getElem?_map]at hu
  obtain ⟨k,h4,h5⟩:=Option.map_eq_some_iff.1 hu
  rw[← h5];exact hc j k h4
 have e1:(sB s).map bv=(s.data.toList.map fun c:UInt8=>((c.toNat:Nat):Int)).map (Value.int .u8):=by simp[sB]
 rw[List.length_map]at hlc
 rw[e1]at hlc
 have h5:=run_bytesToString (P:=P) w ⟨b,o,none⟩ (sB s).length c _ hlc
 rw[qci]at h5
 have e2:(⟨ByteArray.empty.data++s.data.toList.toArray⟩:ByteArray)=s:=by
  cases s;simp[ByteArray.empty,ByteArray.emptyWithCapacity];rfl
 rw[e2]at h5
 subst hl
 simp only[execOp,ha.ev hx]
 simp[run_convert_bytes_string w t1 t2 el _ _ _ h1 h2 h3,h5]
end
structure yh (n:Nat) (bs:List Nat):Prop where
 pos:0<bs.length
 le:bs.length≤10
 fit:n<128^bs.length
 at_:∀(i:Nat) d,bs[i]? =some d→d=n/128^i%128+(if i+1<bs.length then 128 else 0)
theorem yh.lt (h:yh n bs) {d:Nat} (hd:bs[i]? =some d):d<256:=by
 have:=h.at_ i d hd
 have h2:n/128^i%128<128:=Nat.mod_lt _ ox
 split at this<;>omega
theorem yh.head (h:yh n bs) {d:Nat} (hd:bs[i]? =some d):d%128=n/128^i%128∧(d<128↔i+1=bs.length):=by
 have hi:=(List.getElem?_eq_some_iff.1 hd).1
 have:=h.at_ i d hd
 have h2:n/128^i%128<128:=Nat.mod_lt _ ox
 split at this<;>omega
theorem yh.cons {d:Nat} (hd:d=n%128+128) (hl:bs.length≤9) (h:yh (n/128) bs):yh n (d::bs):=by
 refine ⟨by simp,by simp;omega,?_,fun i x hx=>?_⟩
 ·have:=h.fit
  rw[List.length_cons,Nat.pow_succ]
  exact (Nat.div_lt_iff_lt_mul ox).1 this
 ·cases i with
  |zero=>
   simp at hx
   subst hx
   have:=h.pos
   simp only[Nat.pow_zero,Nat.div_one,List.length_cons]
   rw[if_pos ox];exact hd
  |succ i=>
   simp only[List.getElem?_cons_succ]at hx
   have:=h.at_ i x hx
   rw[this,Nat.div_div_eq_div_mul,Nat.pow_succ,Nat.mul_comm 128]
   simp only[List.length_cons]
   congr 1
   split<;>split<;>omega
theorem yh.one (h:n<128):yh n [n]:=⟨by simp,by simp,by simpa using h,fun i x hx=>by
 cases i with
 |zero=>simp at hx;subst hx;simp;omega
 |succ i=>simp at hx⟩
theorem yh.vint:∀(k n:Nat),k≤9→n<128^(k+1)→yh n (Go.Fw.vint n)
 |0,n,_,h=>by rw[Qd (by simpa using h)];exact yh.one (by simpa using h)
 |k+1,n,hk,h=>by
    by_cases hn:n<128
    ·rw[Qd hn];exact yh.one hn
    ·rw[Yx hn]
     have h1:n/128<128^(k+1):=by rw[Nat.div_lt_iff_lt_mul ox];rw[Nat.pow_succ]at h;exact h
     have:=zA k (n/128) h1
     exact yh.cons rfl ox (yh.vint k (n/128) ox h1)
theorem yh.canon (h:n<18446744073709551616):yh n (Go.Fw.vint n):=yh.vint 9 n ox ox
theorem yh.zeros:∀(m:Nat),m≤9→yh 0 (List.replicate m 128++[0])
 |0,_=>yh.one ox
 |m+1,h=>by
    rw[List.replicate_succ,List.cons_append]
    exact yh.cons rfl (by simp;omega) (by rw[Nat.zero_div];exact yh.zeros m ox)
inductive GFld where
 |fld (f:Fld)
 |fix8 (k:Nat) (b:List Nat)
 |fix4 (k:Nat) (b:List Nat)
def Yb (g:GFld) (bs:List Nat):Prop:=match g with
 | .fld (.num k n)=>∃t v,bs=t++v∧yh (8*k) t∧yh n v∧k<1048576∧n<18446744073709551616
 | .fld (.bys k B)=>∃t l,bs=t++(l++B)∧yh (8*k+2) t∧yh B.length l∧k<1048576∧B.length<18446744073709551616
 | .fix8 k B=>∃t,bs=t++B∧yh (8*k+1) t∧B.length=8∧k<1048576
 | .fix4 k B=>∃t,bs=t++B∧yh (8*k+5) t∧B.length=4∧k<1048576
theorem Yb.canon {f:Fld} (h:FldOK f):Yb (.fld f) (xO f):=by
 cases f with
 |num k n=>exact ⟨_,_,rfl,yh.canon (by have:=h.ok.1;omega),yh.canon h.ok.2,h.ok.1,h.ok.2⟩
 |bys k B=>exact ⟨_,_,by simp only[xO,List.append_assoc],yh.canon (by have:=h.ok.1;omega),yh.canon h.ok.2.1,h.ok.1,h.ok.2.1⟩
def MEnc2 (gs:List (GFld×List Nat)):Prop:=∀g∈gs,Yb g.1 g.2
def kV (gs:List (GFld×List Nat)):List Fld:=gs.filterMap fun g=>match g.1 with
 | .fld f=>some f
 |_=>none
end Go.Fw
namespace Go.Proofs
open Go.Shelf
def Tryz.lays192_ren:Go.Shelf.Ren:=⟨fun|192=>104|190=>116|125=>114|258=>142|128=>132|129=>133|302=>158|303=>159|304=>160|305=>161|306=>162|307=>163|308=>164|309=>165|310=>166|333=>171|329=>151|330=>152|334=>172|335=>173|336=>174|344=>175|n=>n,fun|31=>27|0=>0|9=>9|3=>3|46=>152|51=>236|53=>71|4=>4|183=>230|182=>229|131=>215|5=>5|218=>251|222=>255|228=>265|229=>266|n=>n,fun|n=>n⟩
theorem Tryz.lays192:Go.Proofs.Lays.n192 Tryz.prog Tryz.lays192_ren:={
 mixed:=by kernel_rfl
 f125:=Tryz.func114.trans (congrArg some (by kernel_rfl))
 f128:=Tryz.func132.trans (congrArg some (by kernel_rfl))
 f129:=Tryz.func133.trans (congrArg some (by kernel_rfl))
 f190:=Tryz.func116.trans (congrArg some (by kernel_rfl))
 f192:=Tryz.func104.trans (congrArg some (by kernel_rfl))
 f258:=Tryz.func142.trans (congrArg some (by kernel_rfl))
 f302:=Tryz.func158.trans (congrArg some (by kernel_rfl))
 f303:=Tryz.func159.trans (congrArg some (by kernel_rfl))
 f304:=Tryz.func160.trans (congrArg some (by kernel_rfl))
 f305:=Tryz.func161.trans (congrArg some (by kernel_rfl))
 f306:=Tryz.func162.trans (congrArg some (by kernel_rfl))
 f307:=Tryz.func163.trans (congrArg some (by kernel_rfl))
 f308:=Tryz.func164.trans (congrArg some (by kernel_rfl))
 f309:=Tryz.func165.trans (congrArg some (by kernel_rfl))
 f310:=Tryz.func166.trans (congrArg some (by kernel_rfl))
 f329:=Tryz.func151.trans (congrArg some (by kernel_rfl))
 f330:=Tryz.func152.trans (congrArg some (by kernel_rfl))
 f333:=Tryz.func171.trans (congrArg some (by kernel_rfl))
 f334:=Tryz.func172.trans (congrArg some (by kernel_rfl))
 f335:=Tryz.func173.trans (congrArg some (by kernel_rfl))
 f336:=Tryz.func174.trans (congrArg some (by kernel_rfl))
 f344:=Tryz.func175.trans (congrArg some (by kernel_rfl))
 t0:=Tryz.underlying0
 a0:=Tryz.isAgg0
 z0:=Tryz.sizeOf0
 v0:=Tryz.zeroValue0
 t3:=Tryz.underlying3
 a3:=Tryz.isAgg3
 z3:=Tryz.sizeOf3
 v3:=Tryz.zeroValue3
 t4:=Tryz.underlying4
 a4:=Tryz.isAgg4
 z4:=Tryz.sizeOf4
 v4:=Tryz.zeroValue4
 t5:=Tryz.underlying5
 a5:=Tryz.isAgg5
 z5:=Tryz.sizeOf5
 v5:=Tryz.zeroValue5
 t9:=Tryz.underlying9
 a9:=Tryz.isAgg9
 z9:=Tryz.sizeOf9
 v9:=Tryz.zeroValue9
 t31:=Tryz.underlying27
 a31:=Tryz.isAgg27
 z31:=Tryz.sizeOf27
 v31:=Tryz.zeroValue27
 t46:=Tryz.underlying152
 a46:=Tryz.isAgg152
 z46:=Tryz.sizeOf152
 v46:=Tryz.zeroValue152
 t51:=Tryz.underlying236
 a51:=Tryz.isAgg236
 z51:=Tryz.sizeOf236
 v51:=Tryz.zeroValue236
 t53:=Tryz.underlying71
 a53:=Tryz.isAgg71
 z53:=Tryz.sizeOf71
 v53:=Tryz.zeroValue71
 t131:=Tryz.underlying215
 a131:=Tryz.isAgg215
 z131:=Tryz.sizeOf215
 v131:=Tryz.zeroValue215
 t182:=Tryz.underlying229
 a182:=Tryz.isAgg229
 z182:=Tryz.sizeOf229
 v182:=Tryz.zeroValue229
 t183:=Tryz.underlying230
 a183:=Tryz.isAgg230
 z183:=Tryz.sizeOf230
 v183:=Tryz.zeroValue230
 t218:=Tryz.underlying251
 a218:=Tryz.isAgg251
 z218:=Tryz.sizeOf251
 v218:=Tryz.zeroValue251
 t222:=Tryz.underlying255
 a222:=Tryz.isAgg255
 z222:=Tryz.sizeOf255
 v222:=Tryz.zeroValue255
 t228:=Tryz.underlying265
 a228:=Tryz.isAgg265
 z228:=Tryz.sizeOf265
 v228:=Tryz.zeroValue265
 t229:=Tryz.underlying266
 a229:=Tryz.isAgg266
 z229:=Tryz.sizeOf266
 v229:=Tryz.zeroValue266 }
open Go.Sort Go.RowKit in
theorem Tryz.sort_Strings (blk off cap:Nat) (ss:List (List UInt8)) (w:World) (hH:Holds encStr w blk off ss.toArray) (hblk:blk<w.heap.size) (hsz:ss.length<4611686018427387904):
  Calls Tryz.prog 104 #[.slice (some ⟨blk,off,none⟩) ss.length cap] w fun e w'=>
   e=.returned (.tuple #[])∧∃n os,w'=grow (putRow encStr (Sort.ahead w n) blk off (ss.mergeSort fun x y=>decide (x≤y)).toArray) os:=Any.sort_Strings Tryz.lays192 blk off cap ss w hH hblk hsz
open Go.RowKit Go.Sort in
theorem Tryz.sort_Strings_none (p:Option Addr) (cap:Nat) (w:World):
  Calls Tryz.prog 104 #[.slice p 0 cap] w fun e w'=>e=.returned (.tuple #[])∧w'=w:=Any.sort_Strings_none Tryz.lays192 p cap w
end Go.Proofs
namespace Go.Proofs.YtifdadlhmlhfiaaGreatDoor
open Go Go.Fw Go.Proofs
theorem bt29:Qs Tryz.prog 29 [(0,1),(1,1)] [.string ⟨#[]⟩,.string ⟨#[]⟩]:=⟨_,Tryz.runUnderlying29,Tryz.zeroValue29,fun w=>by simp[Tryz.sizeOf9]⟩
theorem qlX:Qs Tryz.prog 31 [(0,1),(1,1),(2,1),(3,1),(4,1),(5,1),(6,1),(7,1),(8,1),(9,1),(10,1),(11,1),(12,2)] [.slice none 0 0,.string ⟨#[]⟩,.slice none 0 0,.slice none 0 0,.slice none 0 0,.slice none 0 0,.slice none 0 0,.string ⟨#[]⟩,.string ⟨#[]⟩,.int .i64 0,.int .i64 0,.int .i64 0,.string ⟨#[]⟩,.string ⟨#[]⟩]:=⟨_,Tryz.runUnderlying31,Tryz.zeroValue31,fun w=>by simp[Tryz.sizeOf2,Tryz.sizeOf22,Tryz.sizeOf23,Tryz.sizeOf24,Tryz.sizeOf25,Tryz.sizeOf26,Tryz.sizeOf27,Tryz.sizeOf29,Tryz.sizeOf9]⟩
theorem bt57:Qs Tryz.prog 57 [(0,1),(1,1),(2,1),(3,1)] [.slice none 0 0,.slice none 0 0,.slice none 0 0,.slice none 0 0]:=⟨_,Tryz.runUnderlying57,Tryz.zeroValue57,fun w=>by simp[Tryz.sizeOf32,Tryz.sizeOf53,Tryz.sizeOf54,Tryz.sizeOf55]⟩
theorem bt73:Qs Tryz.prog 73 [(0,1),(1,1),(2,1),(3,1),(4,1),(5,1),(6,1),(7,1),(8,1),(9,1)] [.int .u64 0,.int .u64 0,.int .u64 0,.int .u64 0,.string ⟨#[]⟩,.string ⟨#[]⟩,.bool false,.bool false,.bool false,.bool false]:=⟨_,Tryz.runUnderlying73,Tryz.zeroValue73,fun w=>by simp[Tryz.sizeOf4,Tryz.sizeOf71,Tryz.sizeOf9]⟩
theorem bt77:Qs Tryz.prog 77 [(0,1),(1,1),(2,1),(3,1)] [.int .u64 0,.int .i64 0,.int .u64 0,.slice none 0 0]:=⟨_,Tryz.runUnderlying77,Tryz.zeroValue77,fun w=>by simp[Tryz.sizeOf3,Tryz.sizeOf71,Tryz.sizeOf75]⟩
theorem bt80:Qs Tryz.prog 80 [(0,1),(1,1),(2,1),(3,1),(4,1)] [.int .u64 0,.string ⟨#[]⟩,.string ⟨#[]⟩,.string ⟨#[]⟩,.int .i64 0]:=⟨_,Tryz.runUnderlying80,Tryz.zeroValue80,fun w=>by simp[Tryz.sizeOf2,Tryz.sizeOf71,Tryz.sizeOf9]⟩
theorem bt109:Qs Tryz.prog 109 [(0,1),(1,1)] [.string ⟨#[]⟩,.slice none 0 0]:=⟨_,Tryz.runUnderlying109,Tryz.zeroValue109,fun w=>by simp[Tryz.sizeOf27,Tryz.sizeOf9]⟩
theorem bt112:Qs Tryz.prog 112 [(0,1),(1,1)] [.string ⟨#[]⟩,.slice none 0 0]:=⟨_,Tryz.runUnderlying112,Tryz.zeroValue112,fun w=>by simp[Tryz.sizeOf53,Tryz.sizeOf9]⟩
theorem bt114:Qs Tryz.prog 114 [(0,1),(1,1)] [.int .i64 0,.int .i64 0]:=⟨_,Tryz.runUnderlying114,Tryz.zeroValue114,fun w=>by simp[Tryz.sizeOf2,Tryz.sizeOf3]⟩
theorem qkC:Qs Tryz.prog 125 [(0,1),(1,1),(2,1),(3,1),(4,1),(5,1),(6,1),(7,1),(8,1),(9,1),(10,1),(11,1),(12,1),(13,1),(14,1),(15,1),(16,1),(17,1)] [.slice none 0 0,.string ⟨#[]⟩,.slice none 0 0,.slice none 0 0,.slice none 0 0,.slice none 0 0,.slice none 0 0,.string ⟨#[]⟩,.string ⟨#[]⟩,.int .i64 0,.int .i64 0,.pointer none,.int .i64 0,.slice none 0 0,.int .i64 0,.int .i64 0,.slice none 0 0,.int .i64 0]:=⟨_,Tryz.runUnderlying125,Tryz.zeroValue125,fun w=>by simp[Tryz.sizeOf118,Tryz.sizeOf119,Tryz.sizeOf120,Tryz.sizeOf121,Tryz.sizeOf122,Tryz.sizeOf123,Tryz.sizeOf2,Tryz.sizeOf27,Tryz.sizeOf53,Tryz.sizeOf9]⟩
theorem qkB:Qs Tryz.prog 127 [(0,1),(1,1),(2,1),(3,1)] [.string ⟨#[]⟩,.string ⟨#[]⟩,.int .i64 0,.int .i64 0]:=⟨_,Tryz.runUnderlying127,Tryz.zeroValue127,fun w=>by simp[Tryz.sizeOf2,Tryz.sizeOf9]⟩
theorem bt130:Qs Tryz.prog 130 [(0,1),(1,1),(2,1),(3,1),(4,1),(5,1),(6,1),(7,1),(8,1),(9,1),(10,1),(11,1)] [.int .u64 0,.int .u64 0,.int .u64 0,.int .u64 0,.string ⟨#[]⟩,.string ⟨#[]⟩,.bool false,.bool false,.bool false,.bool false,.int .i64 0,.int .i64 0]:=⟨_,Tryz.runUnderlying130,Tryz.zeroValue130,fun w=>by simp[Tryz.sizeOf2,Tryz.sizeOf4,Tryz.sizeOf71,Tryz.sizeOf9]⟩
theorem bt133:Qs Tryz.prog 133 [(0,1),(1,1),(2,1),(3,1),(4,1),(5,1),(6,1),(7,1)] [.int .u64 0,.string ⟨#[]⟩,.string ⟨#[]⟩,.string ⟨#[]⟩,.int .i64 0,.int .i64 0,.int .i64 0,.int .i64 0]:=⟨_,Tryz.runUnderlying133,Tryz.zeroValue133,fun w=>by simp[Tryz.sizeOf2,Tryz.sizeOf71,Tryz.sizeOf9]⟩
theorem bt137:Qs Tryz.prog 137 [(0,1),(1,1),(2,1),(3,1),(4,1),(5,1)] [.int .u64 0,.pointer none,.int .u64 0,.slice none 0 0,.bool false,.int .u64 0]:=⟨_,Tryz.runUnderlying137,Tryz.zeroValue137,fun w=>by simp[Tryz.sizeOf128,Tryz.sizeOf135,Tryz.sizeOf4,Tryz.sizeOf71]⟩
theorem qih:Qs Tryz.prog 140 [(0,1),(1,1),(2,1)] [.pointer none,.int .i64 0,.int .u64 0]:=⟨_,Tryz.runUnderlying140,Tryz.zeroValue140,fun w=>by simp[Tryz.sizeOf131,Tryz.sizeOf2,Tryz.sizeOf71]⟩
theorem bt147:Qs Tryz.prog 147 [(0,1),(1,1),(2,1),(3,1),(4,1),(5,1),(6,1)] [.slice none 0 0,.slice none 0 0,.map none,.map none,.map none,.slice none 0 0,.slice none 0 0]:=⟨_,Tryz.runUnderlying147,Tryz.zeroValue147,fun w=>by simp[Tryz.sizeOf121,Tryz.sizeOf143,Tryz.sizeOf144,Tryz.sizeOf145,Tryz.sizeOf53,Tryz.sizeOf84]⟩
theorem qig:Qs Tryz.prog 193 [(0,1),(1,1),(2,1)] [.int .i64 0,.int .i64 0,.int .i64 0]:=⟨_,Tryz.runUnderlying193,Tryz.zeroValue193,fun w=>by simp[Tryz.sizeOf2]⟩
theorem bt198:Qs Tryz.prog 198 [(0,1),(1,1),(2,1),(3,1),(4,16)] [.int .i64 0,.int .i64 0,.int .u64 0,.slice none 0 0,.int .u8 0,.int .u8 0,.int .u8 0,.int .u8 0,.int .u8 0,.int .u8 0,.int .u8 0,.int .u8 0,.int .u8 0,.int .u8 0,.int .u8 0,.int .u8 0,.int .u8 0,.int .u8 0,.int .u8 0,.int .u8 0]:=⟨_,Tryz.runUnderlying198,Tryz.zeroValue198,fun w=>by simp[Tryz.sizeOf196,Tryz.sizeOf3,Tryz.sizeOf36,Tryz.sizeOf71]⟩
theorem el2:ElT Tryz.prog 2 1 8:=⟨Tryz.sizeOf2,⟨_,Tryz.typeInfo2,rfl⟩,⟨_,Tryz.zeroValue2,rfl⟩⟩
theorem el3:ElT Tryz.prog 3 1 8:=⟨Tryz.sizeOf3,⟨_,Tryz.typeInfo3,rfl⟩,⟨_,Tryz.zeroValue3,rfl⟩⟩
theorem el5:ElT Tryz.prog 5 1 1:=⟨Tryz.sizeOf5,⟨_,Tryz.typeInfo5,rfl⟩,⟨_,Tryz.zeroValue5,rfl⟩⟩
theorem el9:ElT Tryz.prog 9 1 16:=⟨Tryz.sizeOf9,⟨_,Tryz.typeInfo9,rfl⟩,⟨_,Tryz.zeroValue9,rfl⟩⟩
theorem el29:ElT Tryz.prog 29 2 32:=⟨Tryz.sizeOf29,⟨_,Tryz.typeInfo29,rfl⟩,⟨_,Tryz.zeroValue29,rfl⟩⟩
theorem qlL:ElT Tryz.prog 57 4 96:=⟨Tryz.sizeOf57,⟨_,Tryz.typeInfo57,rfl⟩,⟨_,Tryz.zeroValue57,rfl⟩⟩
theorem qdI:ElT Tryz.prog 71 1 8:=⟨Tryz.sizeOf71,⟨_,Tryz.typeInfo71,rfl⟩,⟨_,Tryz.zeroValue71,rfl⟩⟩
theorem qjL:ElT Tryz.prog 73 10 72:=⟨Tryz.sizeOf73,⟨_,Tryz.typeInfo73,rfl⟩,⟨_,Tryz.zeroValue73,rfl⟩⟩
theorem qjK:ElT Tryz.prog 77 4 48:=⟨Tryz.sizeOf77,⟨_,Tryz.typeInfo77,rfl⟩,⟨_,Tryz.zeroValue77,rfl⟩⟩
theorem qjJ:ElT Tryz.prog 80 5 64:=⟨Tryz.sizeOf80,⟨_,Tryz.typeInfo80,rfl⟩,⟨_,Tryz.zeroValue80,rfl⟩⟩
theorem el109:ElT Tryz.prog 109 2 40:=⟨Tryz.sizeOf109,⟨_,Tryz.typeInfo109,rfl⟩,⟨_,Tryz.zeroValue109,rfl⟩⟩
theorem el112:ElT Tryz.prog 112 2 40:=⟨Tryz.sizeOf112,⟨_,Tryz.typeInfo112,rfl⟩,⟨_,Tryz.zeroValue112,rfl⟩⟩
theorem qku:ElT Tryz.prog 114 2 16:=⟨Tryz.sizeOf114,⟨_,Tryz.typeInfo114,rfl⟩,⟨_,Tryz.zeroValue114,rfl⟩⟩
theorem qkt:ElT Tryz.prog 123 1 8:=⟨Tryz.sizeOf123,⟨_,Tryz.typeInfo123,rfl⟩,⟨_,Tryz.zeroValue123,rfl⟩⟩
theorem qhZ:ElT Tryz.prog 128 1 8:=⟨Tryz.sizeOf128,⟨_,Tryz.typeInfo128,rfl⟩,⟨_,Tryz.zeroValue128,rfl⟩⟩
theorem qhY:ElT Tryz.prog 131 1 8:=⟨Tryz.sizeOf131,⟨_,Tryz.typeInfo131,rfl⟩,⟨_,Tryz.zeroValue131,rfl⟩⟩
theorem qay:ElT Tryz.prog 134 1 8:=⟨Tryz.sizeOf134,⟨_,Tryz.typeInfo134,rfl⟩,⟨_,Tryz.zeroValue134,rfl⟩⟩
theorem qcK:ElT Tryz.prog 140 3 24:=⟨Tryz.sizeOf140,⟨_,Tryz.typeInfo140,rfl⟩,⟨_,Tryz.zeroValue140,rfl⟩⟩
theorem qhX:ElT Tryz.prog 142 1 8:=⟨Tryz.sizeOf142,⟨_,Tryz.typeInfo142,rfl⟩,⟨_,Tryz.zeroValue142,rfl⟩⟩
theorem qhW:ElT Tryz.prog 193 3 24:=⟨Tryz.sizeOf193,⟨_,Tryz.typeInfo193,rfl⟩,⟨_,Tryz.zeroValue193,rfl⟩⟩
theorem qkn:Tryz.prog.info? 130=some Tryz.t130:=by kernel_rfl
theorem qkl:Tryz.t130.size≠0:=Nat.succ_ne_zero 11
theorem qkm:Tryz.prog.info? 133=some Tryz.t133:=by kernel_rfl
theorem qkk:Tryz.t133.size≠0:=Nat.succ_ne_zero 7
theorem nf137:Tryz.prog.info? 137=some Tryz.t137:=by kernel_rfl
theorem ns137:Tryz.t137.size≠0:=Nat.succ_ne_zero 5
end Go.Proofs.YtifdadlhmlhfiaaGreatDoor
namespace Go.Fw
abbrev XD:=@Go.Proofs.Tryz.isAgg109
abbrev XC:=@Go.Proofs.Tryz.isAgg112
abbrev qcW:=@Go.Proofs.Tryz.isAgg114
abbrev Qx:=@Go.Proofs.Tryz.isAgg118
abbrev VP:=@Go.Proofs.Tryz.isAgg119
abbrev KX:=@Go.Proofs.Tryz.isAgg120
abbrev zY:=@Go.Proofs.Tryz.isAgg121
abbrev Kw:=@Go.Proofs.Tryz.isAgg122
abbrev Jp:=@Go.Proofs.Tryz.isAgg123
abbrev Qw:=@Go.Proofs.Tryz.isAgg128
abbrev Kv:=@Go.Proofs.Tryz.isAgg131
abbrev VO:=@Go.Proofs.Tryz.isAgg134
abbrev zX:=@Go.Proofs.Tryz.isAgg135
abbrev Yo:=@Go.Proofs.Tryz.isAgg140
abbrev qcV:=@Go.Proofs.Tryz.isAgg142
abbrev qaH:=@Go.Proofs.Tryz.isAgg143
abbrev qaG:=@Go.Proofs.Tryz.isAgg144
abbrev ZA:=@Go.Proofs.Tryz.isAgg145
abbrev qeK:=@Go.Proofs.Tryz.isAgg193
abbrev ag2:=@Go.Proofs.Tryz.isAgg2
abbrev ZR:=@Go.Proofs.Tryz.isAgg22
abbrev qkD:=@Go.Proofs.Tryz.isAgg221
abbrev ZQ:=@Go.Proofs.Tryz.isAgg23
abbrev Yw:=@Go.Proofs.Tryz.isAgg24
abbrev Yv:=@Go.Proofs.Tryz.isAgg25
abbrev Yu:=@Go.Proofs.Tryz.isAgg26
abbrev yv:=@Go.Proofs.Tryz.isAgg27
abbrev XB:=@Go.Proofs.Tryz.isAgg29
abbrev ag3:=@Go.Proofs.Tryz.isAgg3
abbrev Ki:=@Go.Proofs.Tryz.isAgg31
abbrev ZP:=@Go.Proofs.Tryz.isAgg32
abbrev JN:=@Go.Proofs.Tryz.isAgg36
abbrev ag4:=@Go.Proofs.Tryz.isAgg4
abbrev ag5:=@Go.Proofs.Tryz.isAgg5
abbrev KC:=@Go.Proofs.Tryz.isAgg53
abbrev qdS:=@Go.Proofs.Tryz.isAgg54
abbrev qdR:=@Go.Proofs.Tryz.isAgg55
abbrev XY:=@Go.Proofs.Tryz.isAgg57
abbrev vy:=@Go.Proofs.Tryz.isAgg71
abbrev qcU:=@Go.Proofs.Tryz.isAgg73
abbrev Yt:=@Go.Proofs.Tryz.isAgg75
abbrev XA:=@Go.Proofs.Tryz.isAgg77
abbrev qcT:=@Go.Proofs.Tryz.isAgg80
abbrev qgf:=@Go.Proofs.Tryz.isAgg84
abbrev ag9:=@Go.Proofs.Tryz.isAgg9
abbrev zW:=@Go.Proofs.Tryz.runUnderlying109
abbrev JC:=@Go.Proofs.Tryz.runUnderlying112
abbrev QP:=@Go.Proofs.Tryz.runUnderlying114
abbrev zV:=@Go.Proofs.Tryz.runUnderlying118
abbrev JB:=@Go.Proofs.Tryz.runUnderlying119
abbrev zn:=@Go.Proofs.Tryz.runUnderlying120
abbrev xw:=@Go.Proofs.Tryz.runUnderlying121
abbrev ze:=@Go.Proofs.Tryz.runUnderlying122
abbrev YZ:=@Go.Proofs.Tryz.runUnderlying123
abbrev jz:=@Go.Proofs.Tryz.runUnderlying125
abbrev xF:=@Go.Proofs.Tryz.runUnderlying127
abbrev Qv:=@Go.Proofs.Tryz.runUnderlying128
abbrev vg:=@Go.Proofs.Tryz.runUnderlying130
abbrev YY:=@Go.Proofs.Tryz.runUnderlying131
abbrev xc:=@Go.Proofs.Tryz.runUnderlying133
abbrev qag:=@Go.Proofs.Tryz.runUnderlying134
abbrev xX:=@Go.Proofs.Tryz.runUnderlying135
abbrev vc:=@Go.Proofs.Tryz.runUnderlying137
abbrev Jj:=@Go.Proofs.Tryz.runUnderlying140
abbrev qbZ:=@Go.Proofs.Tryz.runUnderlying142
abbrev VH:=@Go.Proofs.Tryz.runUnderlying143
abbrev VG:=@Go.Proofs.Tryz.runUnderlying144
abbrev Qu:=@Go.Proofs.Tryz.runUnderlying145
abbrev vl:=@Go.Proofs.Tryz.runUnderlying147
abbrev ru152:=@Go.Proofs.Tryz.runUnderlying152
abbrev qaf:=@Go.Proofs.Tryz.runUnderlying180
abbrev qae:=@Go.Proofs.Tryz.runUnderlying182
abbrev qbY:=@Go.Proofs.Tryz.runUnderlying183
abbrev qbX:=@Go.Proofs.Tryz.runUnderlying189
abbrev QO:=@Go.Proofs.Tryz.runUnderlying193
abbrev qef:=@Go.Proofs.Tryz.runUnderlying196
abbrev qh:=@Go.Proofs.Tryz.runUnderlying198
abbrev ru2:=@Go.Proofs.Tryz.runUnderlying2
abbrev QN:=@Go.Proofs.Tryz.runUnderlying217
abbrev KI:=@Go.Proofs.Tryz.runUnderlying22
abbrev KA:=@Go.Proofs.Tryz.runUnderlying23
abbrev qbW:=@Go.Proofs.Tryz.runUnderlying236
abbrev JH:=@Go.Proofs.Tryz.runUnderlying24
abbrev JG:=@Go.Proofs.Tryz.runUnderlying25
abbrev JF:=@Go.Proofs.Tryz.runUnderlying26
abbrev vG:=@Go.Proofs.Tryz.runUnderlying27
abbrev qiF:=@Go.Proofs.Tryz.runUnderlying29
abbrev ru3:=@Go.Proofs.Tryz.runUnderlying3
abbrev kW:=@Go.Proofs.Tryz.runUnderlying31
abbrev qee:=@Go.Proofs.Tryz.runUnderlying311
abbrev qed:=@Go.Proofs.Tryz.runUnderlying315
abbrev QC:=@Go.Proofs.Tryz.runUnderlying32
abbrev vY:=@Go.Proofs.Tryz.runUnderlying36
abbrev qfd:=@Go.Proofs.Tryz.runUnderlying43
abbrev ru5:=@Go.Proofs.Tryz.runUnderlying5
abbrev xI:=@Go.Proofs.Tryz.runUnderlying53
abbrev VA:=@Go.Proofs.Tryz.runUnderlying54
abbrev Vz:=@Go.Proofs.Tryz.runUnderlying55
abbrev zh:=@Go.Proofs.Tryz.runUnderlying57
abbrev QM:=@Go.Proofs.Tryz.runUnderlying59
abbrev xu:=@Go.Proofs.Tryz.runUnderlying71
abbrev Xf:=@Go.Proofs.Tryz.runUnderlying73
abbrev Kz:=@Go.Proofs.Tryz.runUnderlying75
abbrev zr:=@Go.Proofs.Tryz.runUnderlying77
abbrev ZI:=@Go.Proofs.Tryz.runUnderlying80
abbrev zm:=@Go.Proofs.Tryz.runUnderlying84
abbrev ru9:=@Go.Proofs.Tryz.runUnderlying9
abbrev zl:=@Go.Proofs.Tryz.sizeOf109
abbrev zk:=@Go.Proofs.Tryz.sizeOf112
abbrev zU:=@Go.Proofs.Tryz.sizeOf114
abbrev JA:=@Go.Proofs.Tryz.sizeOf118
abbrev Jz:=@Go.Proofs.Tryz.sizeOf119
abbrev zD:=@Go.Proofs.Tryz.sizeOf120
abbrev xq:=@Go.Proofs.Tryz.sizeOf121
abbrev zw:=@Go.Proofs.Tryz.sizeOf122
abbrev yO:=@Go.Proofs.Tryz.sizeOf123
abbrev zT:=@Go.Proofs.Tryz.sizeOf128
abbrev zd:=@Go.Proofs.Tryz.sizeOf131
abbrev JW:=@Go.Proofs.Tryz.sizeOf134
abbrev xW:=@Go.Proofs.Tryz.sizeOf135
abbrev xE:=@Go.Proofs.Tryz.sizeOf140
abbrev YT:=@Go.Proofs.Tryz.sizeOf142
abbrev VF:=@Go.Proofs.Tryz.sizeOf143
abbrev VE:=@Go.Proofs.Tryz.sizeOf144
abbrev JV:=@Go.Proofs.Tryz.sizeOf145
abbrev Qt:=@Go.Proofs.Tryz.sizeOf193
abbrev qec:=@Go.Proofs.Tryz.sizeOf196
abbrev so198:=@Go.Proofs.Tryz.sizeOf198
abbrev so2:=@Go.Proofs.Tryz.sizeOf2
abbrev Yq:=@Go.Proofs.Tryz.sizeOf22
abbrev VD:=@Go.Proofs.Tryz.sizeOf221
abbrev Vy:=@Go.Proofs.Tryz.sizeOf23
abbrev QB:=@Go.Proofs.Tryz.sizeOf24
abbrev QA:=@Go.Proofs.Tryz.sizeOf25
abbrev Qz:=@Go.Proofs.Tryz.sizeOf26
abbrev xH:=@Go.Proofs.Tryz.sizeOf27
abbrev zq:=@Go.Proofs.Tryz.sizeOf29
abbrev so3:=@Go.Proofs.Tryz.sizeOf3
abbrev yJ:=@Go.Proofs.Tryz.sizeOf31
abbrev Xe:=@Go.Proofs.Tryz.sizeOf32
abbrev ye:=@Go.Proofs.Tryz.sizeOf36
abbrev so4:=@Go.Proofs.Tryz.sizeOf4
abbrev so5:=@Go.Proofs.Tryz.sizeOf5
abbrev Jt:=@Go.Proofs.Tryz.sizeOf53
abbrev qaT:=@Go.Proofs.Tryz.sizeOf54
abbrev qaS:=@Go.Proofs.Tryz.sizeOf55
abbrev zC:=@Go.Proofs.Tryz.sizeOf57
abbrev kU:=@Go.Proofs.Tryz.sizeOf71
abbrev Ky:=@Go.Proofs.Tryz.sizeOf73
abbrev Vx:=@Go.Proofs.Tryz.sizeOf75
abbrev zg:=@Go.Proofs.Tryz.sizeOf77
abbrev Kx:=@Go.Proofs.Tryz.sizeOf80
abbrev XH:=@Go.Proofs.Tryz.sizeOf84
abbrev so9:=@Go.Proofs.Tryz.sizeOf9
abbrev ud109:=@Go.Proofs.Tryz.underlying109
abbrev ud112:=@Go.Proofs.Tryz.underlying112
abbrev qgp:=@Go.Proofs.Tryz.underlying114
abbrev YO:=@Go.Proofs.Tryz.underlying123
abbrev qbK:=@Go.Proofs.Tryz.underlying128
abbrev qaa:=@Go.Proofs.Tryz.underlying131
abbrev qkf:=@Go.Proofs.Tryz.underlying134
abbrev ud143:=@Go.Proofs.Tryz.underlying143
abbrev ud144:=@Go.Proofs.Tryz.underlying144
abbrev ud2:=@Go.Proofs.Tryz.underlying2
abbrev ud22:=@Go.Proofs.Tryz.underlying22
abbrev qke:=@Go.Proofs.Tryz.underlying221
abbrev ud23:=@Go.Proofs.Tryz.underlying23
abbrev ud24:=@Go.Proofs.Tryz.underlying24
abbrev ud25:=@Go.Proofs.Tryz.underlying25
abbrev ud26:=@Go.Proofs.Tryz.underlying26
abbrev ud27:=@Go.Proofs.Tryz.underlying27
abbrev qgo:=@Go.Proofs.Tryz.underlying29
abbrev ud3:=@Go.Proofs.Tryz.underlying3
abbrev qkJ:=@Go.Proofs.Tryz.underlying31
abbrev ud32:=@Go.Proofs.Tryz.underlying32
abbrev ud36:=@Go.Proofs.Tryz.underlying36
abbrev ud4:=@Go.Proofs.Tryz.underlying4
abbrev ud5:=@Go.Proofs.Tryz.underlying5
abbrev ud53:=@Go.Proofs.Tryz.underlying53
abbrev ud54:=@Go.Proofs.Tryz.underlying54
abbrev ud55:=@Go.Proofs.Tryz.underlying55
abbrev ud57:=@Go.Proofs.Tryz.underlying57
abbrev Jr:=@Go.Proofs.Tryz.underlying61
abbrev qaP:=@Go.Proofs.Tryz.underlying71
abbrev qkI:=@Go.Proofs.Tryz.underlying73
abbrev ud75:=@Go.Proofs.Tryz.underlying75
abbrev ud77:=@Go.Proofs.Tryz.underlying77
abbrev qkH:=@Go.Proofs.Tryz.underlying80
abbrev ud9:=@Go.Proofs.Tryz.underlying9
abbrev ZY:=@Go.Proofs.Tryz.zeroValue109
abbrev ZX:=@Go.Proofs.Tryz.zeroValue112
abbrev qdU:=@Go.Proofs.Tryz.zeroValue114
abbrev qkd:=@Go.Proofs.Tryz.zeroValue123
abbrev qkc:=@Go.Proofs.Tryz.zeroValue127
abbrev qbH:=@Go.Proofs.Tryz.zeroValue128
abbrev zv130:=@Go.Proofs.Tryz.zeroValue130
abbrev qbG:=@Go.Proofs.Tryz.zeroValue131
abbrev zv133:=@Go.Proofs.Tryz.zeroValue133
abbrev YM:=@Go.Proofs.Tryz.zeroValue134
abbrev zv137:=@Go.Proofs.Tryz.zeroValue137
abbrev QH:=@Go.Proofs.Tryz.zeroValue140
abbrev qkb:=@Go.Proofs.Tryz.zeroValue142
abbrev zv147:=@Go.Proofs.Tryz.zeroValue147
abbrev qbF:=@Go.Proofs.Tryz.zeroValue193
abbrev qka:=@Go.Proofs.Tryz.zeroValue198
abbrev zv2:=@Go.Proofs.Tryz.zeroValue2
abbrev Yd:=@Go.Proofs.Tryz.zeroValue221
abbrev zv27:=@Go.Proofs.Tryz.zeroValue27
abbrev qkF:=@Go.Proofs.Tryz.zeroValue29
abbrev zv3:=@Go.Proofs.Tryz.zeroValue3
abbrev ZF:=@Go.Proofs.Tryz.zeroValue31
abbrev zv5:=@Go.Proofs.Tryz.zeroValue5
abbrev zv53:=@Go.Proofs.Tryz.zeroValue53
abbrev qaK:=@Go.Proofs.Tryz.zeroValue57
abbrev qdg:=@Go.Proofs.Tryz.zeroValue71
abbrev qeS:=@Go.Proofs.Tryz.zeroValue73
abbrev YL:=@Go.Proofs.Tryz.zeroValue77
abbrev qeR:=@Go.Proofs.Tryz.zeroValue80
abbrev zv9:=@Go.Proofs.Tryz.zeroValue9
end Go.Fw
namespace Go.Proofs.YtifdadlhmlhfiaaGreatDoor
open Go Go.Fw Go.Proofs Go.Proofs.Tryz
variable {y:Ent} {z:Int} {bs:List Nat} {B T b k:Nat} {w w':World}
abbrev ju:Nat:=125
abbrev tVT:Nat:=127
abbrev vO:Nat:=130
abbrev xi:Nat:=133
abbrev qH:Nat:=137
abbrev kq:Nat:=140
abbrev kY:Nat:=147
abbrev pVT:Nat:=123
abbrev xZ:Nat:=128
abbrev yq:Nat:=131
abbrev vD:Nat:=134
abbrev xS:Nat:=142
abbrev qc:Nat:=9
abbrev qd:Nat:=2
abbrev ptr (b:Nat):Value:=.pointer (some ⟨b,0,none⟩)
def qe (bs:List Nat) (i:Int):Value:=.pointer (if 0≤i then (bs[i.toNat]?).map fun b=>⟨b,0,none⟩ else none)
def cVT (t:xn):List Value:=[.string t.ty,.string t.unit,.int .i64 0,.int .i64 0]
def qcP (m:qK):List Value:=[.int .u64 m.id,.int .u64 m.start,.int .u64 m.limit,.int .u64 m.offset,.string m.file,.string m.build,.bool m.fu,.bool m.fi,.bool m.li,.bool m.inl,.int .i64 0,.int .i64 0]
def qcR (f:yl):List Value:=[.int .u64 f.id,.string f.name,.string f.system,.string f.file,.int .i64 f.start,.int .i64 0,.int .i64 0,.int .i64 0]
def qk (funs:List Nat) (n:vz):List Value:=[qe funs n.fn,.int .i64 n.line,.int .u64 0]
def KB (maps:List Nat) (l:vP) (ls:Value):List Value:=[.int .u64 l.id,qe maps l.mapping,.int .u64 l.addr,ls,.bool false,.int .u64 0]
def Xx (ls vs lm nm:Value):List Value:=[ls,vs,lm,nm,.map none,.slice none 0 0,.slice none 0 0]
def zz (x:jD) (ty sa ma lo fu co:Value) (per:Nat):List Value:=
 [ty,.string x.deflt,sa,ma,lo,fu,co,.string x.drop,.string x.keep,.int .i64 x.time,.int .i64 x.dur,ptr per,.int .i64 x.period,.slice none 0 0,.int .i64 0,.int .i64 0,.slice none 0 0,.int .i64 0]
def QF (T:Nat) (w:World) (v:Value) (ks:List (ByteArray×List Value)):Prop:=
 (ks=[]∧v=.map none)∨∃b es ck ms,v=.map (some b)∧w.heap[b]? =some (.map (List.toArray es) ck)∧vA Value.string ms es ck∧ms.map (·.1)=ks.map (·.1)∧∀(i:Nat) m k,ms[i]? =some m→ks[i]? =some k→OS T 1 w m.2 k.2
def Jv (s:ku):List (ByteArray×List Value):=s.texts.map fun t=>(t.key,t.list.map .string)
def JJ (s:ku):List (ByteArray×List Value):=s.nums.map fun t=>(t.key,t.list.map (.int .i64))
structure G where (pb per:Nat) (types maps funs locs sams:List Nat)
structure qdT (w:World) (locs:List Nat) (b:Nat) (s:ku):Prop where
 ex:∃ls vs lm nm,Blk w b kY (Xx ls vs lm nm)∧OS vD 1 w ls (s.stack.map (qe locs))∧OS qd 1 w vs (s.values.map (.int .i64))∧QF qc w lm (Jv s)∧QF qd w nm (JJ s)
structure ZS (w:World) (maps funs:List Nat) (b:Nat) (l:vP):Prop where
 ex:∃ls,Blk w b qH (KB maps l ls)∧OS kq 3 w ls (l.lines.flatMap (qk funs))
def KZ (B:Nat) (w:World) (b:Nat):Prop:=∃cs,Blk w b qH cs∧∀rb n c,cs[3]? =some (.slice (some ⟨rb,0,none⟩) n c)→B≤rb
theorem KZ.mono (h:KZ B w b) (k:∀b cs,Blk w b qH cs→Blk w' b qH cs):KZ B w' b:=by
 obtain ⟨cs,h1,h2⟩:=h
 exact ⟨cs,k _ _ h1,h2⟩
def qE {α:Type} (bs:List Nat) (xs:List α) (φ:Nat→α→Prop):Prop:=bs.length=xs.length∧∀(i:Nat) b x,bs[i]? =some b→xs[i]? =some x→φ b x
structure OfP (B:Nat) (w:World) (x:jD) (g:G):Prop where
 prof:∃ty sa ma lo fu co,Blk w g.pb ju (zz x ty sa ma lo fu co g.per)∧OS pVT 1 w ty (g.types.map ptr)∧OS xS 1 w sa (g.sams.map ptr)∧OS xZ 1 w ma (g.maps.map ptr)∧OS vD 1 w lo (g.locs.map ptr)∧OS yq 1 w fu (g.funs.map ptr)∧OS qc 1 w co (x.comments.map .string)
 per:Blk w g.per tVT (cVT x.per)
 types:qE g.types x.types fun b t=>Blk w b tVT (cVT t)
 maps:qE g.maps x.mappings fun b m=>Blk w b vO (qcP m)
 funs:qE g.funs x.funcs fun b f=>Blk w b xi (qcR f)
 locs:qE g.locs x.locs (ZS w g.maps g.funs)
 sams:qE g.sams x.samples (qdT w g.locs)
 ntypes:(g.per::g.types).Nodup
 nmaps:g.maps.Nodup
 nfuns:g.funs.Nodup
 nlocs:g.locs.Nodup
 nsams:g.sams.Nodup
 fresh:B≤g.pb∧B≤g.per∧(∀b∈g.types,B≤b)∧(∀b∈g.maps,B≤b)∧(∀b∈g.funs,B≤b)∧(∀b∈g.locs,B≤b)∧∀b∈g.sams,B≤b
 rows:∀b∈g.locs,KZ B w b
def XE (y:Ent) (w:World) (b:Nat):Prop:=∃cs,Blk w b kY cs∧∀rb n c,cs[0]? =some (.slice (some ⟨rb,0,none⟩) n c)→y.on=true→rb≠y.b
theorem XE.mono (h:XE y w b) (k:∀cs,Blk w b kY cs→Blk w' b kY cs):XE y w' b:=by
 obtain ⟨cs,h1,h2⟩:=h
 exact ⟨cs,k _ h1,h2⟩
theorem qfe {f:Fm} {H:ko} {sz l c:Nat} {z:Ent} {p:Option Addr} {xs cs:List Value} (hO:Own T sz y p l c xs) (hH:Hp f w (ro y::H)) (hz:ro z∈H):∀rb n c',(Value.slice p l c::cs)[0]? =some (.slice (some ⟨rb,0,none⟩) n c')→z.on=true→rb≠z.b:=by
 intro rb n c' h ho e
 cases Option.some.inj h
 rcases hO.sl.2.2 with ⟨h1,h2, -⟩|⟨-,h2, -⟩
 ·have e1:rb=y.b:=by cases h2;rfl
  have:=hH.2.2.1 (show (ro y).ex=true by simp[Ent.ex,ro,h1]) (ro z) hz (by simp[Ent.ex,ro,ho])
  exact this (by show z.b=y.b;rw[← e,e1])
 ·cases h2
def OfR (B:Nat) (w:World) (x:jD) (g:G):Prop:=∃ty sa ma fu co yL pL lL cL,Blk w g.pb ju (zz x ty sa ma (.slice pL lL cL) fu co g.per)∧OSn B xS 1 w sa (g.sams.map ptr)∧OSn B xZ 1 w ma (g.maps.map ptr)∧OSn B yq 1 w fu (g.funs.map ptr)∧
 Own vD 1 yL pL lL cL (g.locs.map ptr)∧(yL.on=true→(Blk w yL.b vD yL.cs∧B≤yL.b)∧0<lL)∧∀b∈g.sams,XE yL w b
theorem qE.nil {α:Type} {φ:Nat→α→Prop}:qE [] ([]:List α) φ:=⟨rfl,by simp⟩
theorem qE.mono {α:Type} {xs:List α} {φ ψ:Nat→α→Prop} (h:qE bs xs φ) (hk:∀b x,φ b x→ψ b x):qE bs xs ψ:=⟨h.1,fun i b x hb hx=>hk b x (h.2 i b x hb hx)⟩
theorem qE.all {α:Type} {xs:List α} {φ:Nat→Prop} (h:qE bs xs fun b _=>φ b):∀b∈bs,φ b:=by
 intro b hb
 obtain ⟨i,hi⟩:=List.mem_iff_getElem?.1 hb
 have hl:=(List.getElem?_eq_some_iff.1 hi).1
 exact h.2 i b _ hi (gE (by have:=h.1;omega))
theorem qE.push {α:Type} {xs:List α} {φ:Nat→α→Prop} (hk:k<xs.length) (h:qE bs (xs.take k) φ) (hb:φ b xs[k]):qE (bs++[b]) (xs.take (k+1)) φ:=by
 have hl:bs.length=k:=by have:=h.1;simp at this;omega
 refine ⟨by simp;omega,fun i b' x hb' hx=>?_⟩
 rw[← tG hk]at hx
 by_cases hi:i<k
 ·rw[aq ox]at hb'
  rw[aq (by simp;omega)]at hx
  exact h.2 i b' x hb' hx
 ·have hlt:=(List.getElem?_eq_some_iff.1 hb').1
  simp at hlt
  have:i=k:=by omega
  subst this
  rw[List.getElem?_append_right ox]at hb'
  rw[List.getElem?_append_right (by simp;omega)]at hx
  simp[hl]at hb'
  have hmin:min i xs.length=i:=by omega
  simp[hmin]at hx
  subst hb';subst hx
  exact hb
theorem qE.lt {α:Type} {xs:List α} {c:α→List Value} (h:qE bs xs fun b x=>Blk w b T (c x)):∀b∈bs,b<w.heap.size:=by
 intro b hb
 obtain ⟨i,hi⟩:=List.mem_iff_getElem?.1 hb
 have hl:=(List.getElem?_eq_some_iff.1 hi).1
 exact (h.2 i b _ hi (gE (by have:=h.1;omega))).lt
theorem qdw {n:Nat} (h:bs.Nodup) (hl:∀c∈bs,c<n) (hb:n≤b):(bs++[b]).Nodup:=by
 rw[List.nodup_append]
 exact ⟨h,by simp,by simp;intro a ha he;have:=hl a ha;omega⟩
theorem JS (bs:List Nat) (b:Nat):bs.map ptr++[ptr b]=(bs++[b]).map ptr:=by simp
structure yD (B:Nat) (w:World) (bs:List Nat) {α:Type} (xs:List α) (φ:World→Nat→α→Prop):Prop where
 each:qE bs xs (φ w)
 nodup:bs.Nodup
 ge:∀b∈bs,B≤b
 lt:∀b∈bs,b<w.heap.size
theorem yD.nil {α:Type} {φ:World→Nat→α→Prop} {xs:List α}:yD B w [] (xs.take 0) φ:=⟨⟨by simp,by simp⟩,by simp,by simp,by simp⟩
theorem yD.mono {α:Type} {xs:List α} {φ:World→Nat→α→Prop} (h:yD B w bs xs φ) (hs:w.heap.size≤w'.heap.size) (hk:∀b x,φ w b x→φ w' b x):yD B w' bs xs φ:=
 ⟨h.each.mono hk,h.nodup,h.ge,fun b hb=>Nat.lt_of_lt_of_le (h.lt b hb) hs⟩
theorem yD.push {α:Type} {xs:List α} {φ:World→Nat→α→Prop} (hk:k<xs.length) (h:yD B w bs (xs.take k) φ) (hs:w.heap.size≤w'.heap.size) (hkeep:∀b x,φ w b x→φ w' b x) (hb:φ w' b xs[k]) (hge:w.heap.size≤b) (hB:B≤w.heap.size) (hlt:b<w'.heap.size):
  yD B w' (bs++[b]) (xs.take (k+1)) φ:=
 ⟨(h.each.mono hkeep).push hk hb,qdw h.nodup h.lt hge,fun c hc=>by
  rcases mA hc with hc|hc
  ·exact h.ge c hc
  ·simp at hc;omega,fun c hc=>by
  rcases mA hc with hc|hc
  ·exact Nat.lt_of_lt_of_le (h.lt c hc) hs
  ·simp at hc;omega⟩
theorem yD.full {α:Type} {xs:List α} {φ:World→Nat→α→Prop} (h:yD B w bs (xs.take k) φ) (hk:xs.length≤k):yD B w bs xs φ:=by
 rw[tL hk]at h;exact h
def φT (w:World) (b:Nat) (t:xn):Prop:=Blk w b tVT (cVT t)
def φM (w:World) (b:Nat) (t:qK):Prop:=Blk w b vO (qcP t)
def φF (w:World) (b:Nat) (t:yl):Prop:=Blk w b xi (qcR t)
theorem Ja (h:¬0≤z):qe bs z=.pointer none:=by simp[qe,h]
theorem Vh (h:0≤z) (hl:z.toNat<bs.length):(bs.map ptr)[z.toNat]? =some (qe bs z):=by simp[qe,h,hl]
theorem ZS.mono {maps funs:List Nat} {l:vP} (h:ZS w maps funs b l) (k1:∀b cs,Blk w b qH cs→Blk w' b qH cs) (k2:∀b cs,Blk w b kq cs→Blk w' b kq cs):ZS w' maps funs b l:=by
 obtain ⟨ls,h1,h2⟩:=h.ex
 exact ⟨ls,k1 _ _ h1,h2.mono k2⟩
theorem QF.mono {v:Value} {ks:List (ByteArray×List Value)} (h:QF T w v ks) (k1:∀b cs,Blk w b T cs→Blk w' b T cs) (k2:∀(b:Nat) es ck,w.heap[b]? =some (.map es ck)→w'.heap[b]? =some (.map es ck)):QF T w' v ks:=by
 rcases h with h|⟨b,es,ck,ms,h1,h2,h3,h4,h5⟩
 ·exact .inl h
 ·exact .inr ⟨b,es,ck,ms,h1,k2 _ _ _ h2,h3,h4,fun i m q hm hq=>(h5 i m q hm hq).mono k1⟩
theorem qdT.mono {locs:List Nat} {s:ku} (h:qdT w locs b s) (k1:∀b cs,Blk w b kY cs→Blk w' b kY cs) (k2:∀b cs,Blk w b vD cs→Blk w' b vD cs) (k3:∀b cs,Blk w b qd cs→Blk w' b qd cs) (k4:∀b cs,Blk w b qc cs→Blk w' b qc cs)
  (k5:∀(b:Nat) es ck,w.heap[b]? =some (.map es ck)→w'.heap[b]? =some (.map es ck)):qdT w' locs b s:=by
 obtain ⟨ls,vs,lm,nm,h1,h2,h3,h4,h5⟩:=h.ex
 exact ⟨ls,vs,lm,nm,k1 _ _ h1,h2.mono k2,h3.mono k3,h4.mono k4 k5,h5.mono k3 k5⟩
end Go.Proofs.YtifdadlhmlhfiaaGreatDoor
