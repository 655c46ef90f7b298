/-
  Part 6 of the proof. Conditions: as each lemma states them.
-/
import Derived.Test.YtifdadlhmlhfiaaGreatDoorX5
import Derived.WideKeyArgs
import Derived.JoinedOf
import Derived.ChangeArms
import Derived.RowKit3
import Derived.Test.YtifdadlhmlhfiaaGreatDoorRows
import Derived.Laws.StructEq
namespace Go.Fw
open Go Go.Proofs.YtifdadlhmlhfiaaGreatDoor
variable {sz t:Nat}
section
variable {H:Type} {enc:TypeId×Value→H} {P:Program} {w:World}
def RD {α:Type} (enc:TypeId×Value→H) (P:Program) (w:World) (t:Nat) (R:World→List Value→α→Prop) (m:α→Nat):Prop:=
 ∀(fuel:Nat) (cs:List Value) (x:DataW H×List MemPlace),DataW.trod enc P w 0 (fun _=>true) true fuel t cs=some x→∃a,R w cs a∧m a≤Rows.uptoBulk x.1
theorem wf_wrap_eq {k:IntKind} {n:Int} (h:(Lit.int k n).wf=true):k.wrap n=n:=by
 cases k<;>simp[Lit.wf,IntKind.wrap,IntKind.min,IntKind.max,IntKind.signed,IntKind.bits]at h⊢ <;>omega
theorem rd_str (ht:P.underlying t=some .string):RD enc P w t RStr (fun s=>s.size+1):=fun fuel cs x h=>by
 obtain ⟨s,rfl,rfl, -⟩:=DataW.trod_string ht h
 exact ⟨s,rfl,by simp only[Rows.uptoBulk];rw[Array.length_toList];exact Nat.le_refl _⟩
theorem rd_int {k:IntKind} (ht:P.underlying t=some (.int k)):RD enc P w t (RInt k) (fun _=>0):=fun fuel cs x h=>by
 obtain ⟨n,rfl, -,hw⟩:=DataW.trod_int ht h
 exact ⟨n,⟨rfl,wf_wrap_eq hw⟩,Nat.zero_le _⟩
def RBool (_:World) (c:List Value) (x:Bool):Prop:=c=[.bool x]
theorem rd_bool (ht:P.underlying t=some .bool):RD enc P w t RBool (fun _=>0):=fun fuel cs x h=>by
 obtain ⟨b,rfl, -⟩:=DataW.trod_bool ht h
 exact ⟨b,rfl,Nat.zero_le _⟩
def RSl {α:Type} (R:World→List Value→α→Prop) (sz:Nat) (w:World) (c:List Value) (xs:List α):Prop:=∃v,c=[v]∧Lay R sz w v xs
theorem flat_inv:∀{cs:List (List Value)},(∀c∈cs,c.length=sz)→∀(j:Nat) (u:Value),cs.flatten[j]? =some u→∃(i:Nat) (c:List Value) (r:Nat),cs[i]? =some c∧c[r]? =some u∧j=i*sz+r
 |[],_,j,u,h=>by simp at h
 |a::cs,hl,j,u,h=>by
    have ha:=hl a (by simp)
    rw[List.flatten_cons]at h
    by_cases hj:j<a.length
    ·rw[List.getElem?_append_left hj]at h
     exact ⟨0,a,j,rfl,h,by simp⟩
    ·rw[List.getElem?_append_right (by omega)]at h
     obtain ⟨i,c,r,h1,h2,h3⟩:=flat_inv (fun c hc=>hl c (by simp[hc])) _ u h
     exact ⟨i+1,c,r,by simpa using h1,h2,by rw[Nat.succ_mul];omega⟩
theorem cells_get {a:Addr} {n:Nat} {c:List Value} (h:w.cells? 0 a n=some c):c.length=n∧∀(r:Nat) u,c[r]? =some u→w.cell? (a.add r)=some u:=by
 unfold World.cells? at h
 rw[if_pos (Nat.zero_le _)]at h
 have hl:c.length=n:=by simpa using mapM_some_length h
 refine ⟨hl,fun r u hu=>?_⟩
 have hr:=(List.getElem?_eq_some_iff.1 hu).1
 have:=mapM_some_get h r r (by rw[List.getElem?_range (by omega)])
 rw[this];exact hu
theorem sum_le {α:Type} {m:α→Nat}:∀{ys:List α} {es:List (DataW H×List MemPlace)},ys.length≤es.length→(∀(i:Nat) y e,ys[i]? =some y→es[i]? =some e→m y≤Rows.uptoBulk e.1)→(ys.map m).sum≤Rows.uptoBulkAll (es.map (·.1))
 |[],_,_,_=>Nat.zero_le _
 |_::_,[],h,_=>by simp at h
 |y::ys,e::es,h,hp=>by
    have h1:=sum_le (m:=m) (ys:=ys) (es:=es) (by simpa using h) fun i y' e' hy he=>hp (i+1) y' e' (by simpa using hy) (by simpa using he)
    have h2:=hp 0 y e rfl rfl
    simp only[List.map_cons,List.sum_cons,Rows.uptoBulkAll]
    omega
theorem rd_slice {α:Type} {m:α→Nat} {R:World→List Value→α→Prop} {e:Nat} (ht:P.underlying t=some (.slice e)) (hc:P.cellsOf e=sz) (hp:0<sz) (he:RD enc P w e R m):RD enc P w t (RSl R sz) (fun xs=>(xs.map m).sum):=fun fuel cs x h=>by
 rcases DataW.trod_slice ht h with ⟨rfl, -⟩|⟨a,len,cap,elems,rest,n, -,rfl,rfl, -,hlc,hcm,hel,hget, -, -⟩
 ·exact ⟨[],⟨_,rfl,[],⟨⟨none,0,rfl,Nat.le_refl _,.inl rfl⟩,by simp,Nat.zero_le _⟩,rfl,by simp,by simp⟩,Nat.zero_le _⟩
 ·have key:∀i:Fin len,∃(c:List Value) (y:α),w.cells? 0 (a.add (i.1*sz)) sz=some c∧R w c y∧∀e,elems[i.1]? =some e→m y≤Rows.uptoBulk e.1:=fun i=>by
   have h1:=hget i.1 i.2
   rw[hc,List.getElem?_eq_getElem (by omega)]at h1
   obtain ⟨c,h2,h3⟩:=Option.bind_eq_some_iff.1 h1
   obtain ⟨y,hy⟩:=he _ _ _ h3
   exact ⟨c,y,h2,hy.1,fun e he=>by
    rw[List.getElem?_eq_getElem (by omega)]at he
    cases he;exact hy.2⟩
  let fc:Fin len→List Value:=fun i=>Classical.choose (key i)
  let fy:Fin len→α:=fun i=>Classical.choose (Classical.choose_spec (key i))
  have hk:∀i:Fin len,w.cells? 0 (a.add (i.1*sz)) sz=some (fc i)∧R w (fc i) (fy i)∧∀e,elems[i.1]? =some e→m (fy i)≤Rows.uptoBulk e.1:=fun i=>Classical.choose_spec (Classical.choose_spec (key i))
  have hlen:∀c∈List.ofFn fc,c.length=sz:=fun c hcm=>by
   obtain ⟨i,hi⟩:=List.mem_iff_getElem?.1 hcm
   have hlt:=(List.getElem?_eq_some_iff.1 hi).1
   simp at hlt
   rw[List.getElem?_ofFn,dif_pos hlt]at hi
   cases hi
   exact (cells_get (hk ⟨i,hlt⟩).1).1
  refine ⟨List.ofFn fy,⟨_,rfl,List.ofFn fc,⟨⟨some a,cap,by simp,by simpa using hlc,?_⟩,?_,?_⟩,by simp,hlen,?_⟩,?_⟩
  rotate_left 4
  ·have h1:=sum_le (m:=m) (ys:=List.ofFn fy) (es:=elems) (by simp;omega) fun i y e hy he=>by
    have hlt:=(List.getElem?_eq_some_iff.1 hy).1
    simp at hlt
    rw[List.getElem?_ofFn,dif_pos hlt]at hy
    cases hy
    exact (hk ⟨i,hlt⟩).2.2 e he
   simp only[Rows.uptoBulk]
   omega
  ·by_cases h0:len=0
   ·exact .inl (by simpa using h0)
   ·right
    have hs:a.spot=none:=by
     have h1:=(cells_get (hk ⟨0,by omega⟩).1)
     have h2:0<(fc ⟨0,by omega⟩).length:=by rw[h1.1];exact hp
     have h3:=h1.2 0 _ (List.getElem?_eq_getElem h2)
     have h4:=World.cell?_spot h3
     simpa[Addr.add]using h4
    obtain ⟨b,off,spot⟩:=a
    simp at hs
    subst hs
    refine ⟨b,off,rfl,fun j u hj=>?_⟩
    obtain ⟨i,c,r,h1,h2,rfl⟩:=flat_inv hlen j u hj
    have hlt:=(List.getElem?_eq_some_iff.1 h1).1
    simp at hlt
    rw[List.getElem?_ofFn,dif_pos hlt]at h1
    cases h1
    have h3:=(cells_get (hk ⟨i,hlt⟩).1).2 r u h2
    have h4:(Addr.add ⟨b,off,none⟩ (i*sz)).add r=⟨b,off+(i*sz+r),none⟩:=by
     unfold Addr.add
     by_cases q1:i*sz=0<;>by_cases q2:r=0<;>simp[q1,q2,Nat.add_assoc]
    rw[h4]at h3
    exact h3
  ·have:∀{l:List (List Value)},(∀c∈l,c.length=sz)→l.flatten.length=l.length*sz:=by
    intro l
    induction l with
    |nil=>intro _;simp
    |cons a r ih=>intro h;rw[List.flatten_cons,List.length_append,h a (by simp),ih (fun c hc=>h c (by simp[hc])),List.length_cons,Nat.succ_mul];omega
   rw[this hlen];simp
  ·have:(List.ofFn fy).length=len:=by simp
   rw[this]
   have:maxLen=9223372036854775807:=by decide
   omega
  ·intro i c y h1 h2
   have hlt:=(List.getElem?_eq_some_iff.1 h1).1
   simp at hlt
   rw[List.getElem?_ofFn,dif_pos hlt]at h1 h2
   cases h1;cases h2
   exact (hk ⟨i,hlt⟩).2.1
end
end Go.Fw
namespace Go.Proofs.YtifdadlhmlhfiaaGreatDoor
open Go Go.Fw Go.Proofs
variable {f:Fm} {es:List MapEntry} {T c ck l:Nat} {p:Option Addr} {mo:Option Nat} {s:PSample} {v:Value} {w w':World}
section
variable {H:Type} {enc:TypeId×Value→H} {w:World}
theorem cellsOf9:Tryz.prog.cellsOf 9=1:=by kernel_rfl
theorem cellsOf3:Tryz.prog.cellsOf 3=1:=by kernel_rfl
theorem cellsOf2:Tryz.prog.cellsOf 2=1:=by kernel_rfl
theorem cellsOf71:Tryz.prog.cellsOf 71=1:=by kernel_rfl
theorem cellsOf4:Tryz.prog.cellsOf 4=1:=by kernel_rfl
theorem cellsOf29:Tryz.prog.cellsOf 29=2:=by kernel_rfl
theorem cellsOf109:Tryz.prog.cellsOf 109=2:=by kernel_rfl
theorem cellsOf112:Tryz.prog.cellsOf 112=2:=by kernel_rfl
theorem cellsOf57:Tryz.prog.cellsOf 57=4:=by kernel_rfl
theorem cellsOf73:Tryz.prog.cellsOf 73=10:=by kernel_rfl
theorem cellsOf114:Tryz.prog.cellsOf 114=2:=by kernel_rfl
theorem cellsOf77:Tryz.prog.cellsOf 77=4:=by kernel_rfl
theorem cellsOf80:Tryz.prog.cellsOf 80=5:=by kernel_rfl
theorem cellsOf31:Tryz.prog.cellsOf 31=14:=by kernel_rfl
theorem cellsOf27:Tryz.prog.cellsOf 27=1:=by kernel_rfl
theorem cellsOf53:Tryz.prog.cellsOf 53=1:=by kernel_rfl
theorem cellsOf32:Tryz.prog.cellsOf 32=1:=by kernel_rfl
theorem cellsOf22:Tryz.prog.cellsOf 22=1:=by kernel_rfl
theorem cellsOf23:Tryz.prog.cellsOf 23=1:=by kernel_rfl
theorem cellsOf24:Tryz.prog.cellsOf 24=1:=by kernel_rfl
theorem cellsOf25:Tryz.prog.cellsOf 25=1:=by kernel_rfl
theorem cellsOf26:Tryz.prog.cellsOf 26=1:=by kernel_rfl
theorem cellsOf54:Tryz.prog.cellsOf 54=1:=by kernel_rfl
theorem cellsOf55:Tryz.prog.cellsOf 55=1:=by kernel_rfl
theorem cellsOf75:Tryz.prog.cellsOf 75=1:=by kernel_rfl
def mTy (t:PType):Nat:=(t.ty.size+1)+(t.unit.size+1)
def mTx (t:PTexts):Nat:=(t.key.size+1)+(t.list.map fun s=>s.size+1).sum
def mNu (t:PNums):Nat:=t.key.size+1
def mSm (s:PSample):Nat:=(s.texts.map mTx).sum+(s.nums.map mNu).sum
def mMp (m:PMapping):Nat:=(m.file.size+1)+(m.build.size+1)
def mLn (_:PLine):Nat:=0
def mLc (_:PLoc):Nat:=0
def mFn (f:PFunc):Nat:=(f.name.size+1)+((f.system.size+1)+(f.file.size+1))
def mPf (x:PProf):Nat:=(x.types.map mTy).sum+((x.samples.map mSm).sum+((x.mappings.map mMp).sum+((x.funcs.map mFn).sum+((x.drop.size+1)+((x.keep.size+1)+mTy x.per)))))
theorem rd_Type:RD enc Tryz.prog w 29 RType mTy:=fun fuel cs x h=>by
 obtain ⟨xs,n, -,rfl,hlen,hxl,hf⟩:=DataW.trod_struct ud29 h
 rw[cellsOf29]at hlen
 replace hxl:xs.length=2:=hxl
 obtain ⟨y0,y1,rfl⟩:∃y0 y1,xs=[y0,y1]:=by
  clear hf h
  rcases xs with _|⟨y0,xs⟩
  ·simp at hxl
  rcases xs with _|⟨y1,xs⟩
  ·simp at hxl
  rcases xs with _|⟨y,xs⟩
  ·exact ⟨_,_,rfl⟩
  ·simp at hxl
 have t0:=hf 0 _ rfl
 obtain ⟨a0,r0,q0⟩:=(rd_str ud9) _ _ y0 t0
 have g0:RStr w ((cs.drop 0).take (Tryz.prog.cellsOf 9)) a0:=r0
 rw[cellsOf9]at g0
 clear t0 r0
 have t1:=hf 1 _ rfl
 obtain ⟨a1,r1,q1⟩:=(rd_str ud9) _ _ y1 t1
 have g1:RStr w ((cs.drop 1).take (Tryz.prog.cellsOf 9)) a1:=r1
 rw[cellsOf9]at g1
 clear t1 r1
 clear hf
 have hq:Rows.uptoBulk y0.1+(Rows.uptoBulk y1.1+0)+1≤Rows.uptoBulk (.agg ([y0,y1].map (·.1))):=by simp only[Rows.uptoBulk,Rows.uptoBulkAll,List.map_cons,List.map_nil];omega
 obtain ⟨c0,c1,rfl⟩:∃c0 c1,cs=[c0,c1]:=by
  clear h g0 g1
  rcases cs with _|⟨c0,cs⟩
  ·simp at hlen
  rcases cs with _|⟨c1,cs⟩
  ·simp at hlen
  rcases cs with _|⟨c,cs⟩
  ·exact ⟨_,_,rfl⟩
  ·simp at hlen
 have h0:RStr w [c0] a0:=g0
 have h1:RStr w [c1] a1:=g1
 have e0:=h0
 obtain rfl:=(List.cons.inj e0).1
 have e1:=h1
 obtain rfl:=(List.cons.inj e1).1
 have p0:a0.size+1≤Rows.uptoBulk y0.1:=q0
 have p1:a1.size+1≤Rows.uptoBulk y1.1:=q1
 refine ⟨⟨a0,a1⟩,rfl,?_⟩
 refine Nat.le_trans ?_ hq
 simp only[mTy];omega
theorem rd_Texts:RD enc Tryz.prog w 109 RTexts mTx:=fun fuel cs x h=>by
 obtain ⟨xs,n, -,rfl,hlen,hxl,hf⟩:=DataW.trod_struct ud109 h
 rw[cellsOf109]at hlen
 replace hxl:xs.length=2:=hxl
 obtain ⟨y0,y1,rfl⟩:∃y0 y1,xs=[y0,y1]:=by
  clear hf h
  rcases xs with _|⟨y0,xs⟩
  ·simp at hxl
  rcases xs with _|⟨y1,xs⟩
  ·simp at hxl
  rcases xs with _|⟨y,xs⟩
  ·exact ⟨_,_,rfl⟩
  ·simp at hxl
 have t0:=hf 0 _ rfl
 obtain ⟨a0,r0,q0⟩:=(rd_str ud9) _ _ y0 t0
 have g0:RStr w ((cs.drop 0).take (Tryz.prog.cellsOf 9)) a0:=r0
 rw[cellsOf9]at g0
 clear t0 r0
 have t1:=hf 1 _ rfl
 obtain ⟨a1,r1,q1⟩:=(rd_slice ud27 cellsOf9 (by decide) (rd_str ud9)) _ _ y1 t1
 have g1:(RSl RStr 1) w ((cs.drop 1).take (Tryz.prog.cellsOf 27)) a1:=r1
 rw[cellsOf27]at g1
 clear t1 r1
 clear hf
 have hq:Rows.uptoBulk y0.1+(Rows.uptoBulk y1.1+0)+1≤Rows.uptoBulk (.agg ([y0,y1].map (·.1))):=by simp only[Rows.uptoBulk,Rows.uptoBulkAll,List.map_cons,List.map_nil];omega
 obtain ⟨c0,c1,rfl⟩:∃c0 c1,cs=[c0,c1]:=by
  clear h g0 g1
  rcases cs with _|⟨c0,cs⟩
  ·simp at hlen
  rcases cs with _|⟨c1,cs⟩
  ·simp at hlen
  rcases cs with _|⟨c,cs⟩
  ·exact ⟨_,_,rfl⟩
  ·simp at hlen
 have h0:RStr w [c0] a0:=g0
 have h1:(RSl RStr 1) w [c1] a1:=g1
 have e0:=h0
 obtain rfl:=(List.cons.inj e0).1
 obtain ⟨v1,e1,h1⟩:=h1
 obtain rfl:=(List.cons.inj e1).1
 have p0:a0.size+1≤Rows.uptoBulk y0.1:=q0
 have p1:(a1.map (fun s:ByteArray=>s.size+1)).sum≤Rows.uptoBulk y1.1:=q1
 refine ⟨⟨a0,a1⟩,⟨_,rfl,h1⟩,?_⟩
 refine Nat.le_trans ?_ hq
 simp only[mTx];omega
theorem rd_Numbers:RD enc Tryz.prog w 112 RNums mNu:=fun fuel cs x h=>by
 obtain ⟨xs,n, -,rfl,hlen,hxl,hf⟩:=DataW.trod_struct ud112 h
 rw[cellsOf112]at hlen
 replace hxl:xs.length=2:=hxl
 obtain ⟨y0,y1,rfl⟩:∃y0 y1,xs=[y0,y1]:=by
  clear hf h
  rcases xs with _|⟨y0,xs⟩
  ·simp at hxl
  rcases xs with _|⟨y1,xs⟩
  ·simp at hxl
  rcases xs with _|⟨y,xs⟩
  ·exact ⟨_,_,rfl⟩
  ·simp at hxl
 have t0:=hf 0 _ rfl
 obtain ⟨a0,r0,q0⟩:=(rd_str ud9) _ _ y0 t0
 have g0:RStr w ((cs.drop 0).take (Tryz.prog.cellsOf 9)) a0:=r0
 rw[cellsOf9]at g0
 clear t0 r0
 have t1:=hf 1 _ rfl
 obtain ⟨a1,r1,q1⟩:=(rd_slice ud53 cellsOf2 (by decide) (rd_int ud2)) _ _ y1 t1
 have g1:(RSl (RInt .i64) 1) w ((cs.drop 1).take (Tryz.prog.cellsOf 53)) a1:=r1
 rw[cellsOf53]at g1
 clear t1 r1
 clear hf
 have hq:Rows.uptoBulk y0.1+(Rows.uptoBulk y1.1+0)+1≤Rows.uptoBulk (.agg ([y0,y1].map (·.1))):=by simp only[Rows.uptoBulk,Rows.uptoBulkAll,List.map_cons,List.map_nil];omega
 obtain ⟨c0,c1,rfl⟩:∃c0 c1,cs=[c0,c1]:=by
  clear h g0 g1
  rcases cs with _|⟨c0,cs⟩
  ·simp at hlen
  rcases cs with _|⟨c1,cs⟩
  ·simp at hlen
  rcases cs with _|⟨c,cs⟩
  ·exact ⟨_,_,rfl⟩
  ·simp at hlen
 have h0:RStr w [c0] a0:=g0
 have h1:(RSl (RInt .i64) 1) w [c1] a1:=g1
 have e0:=h0
 obtain rfl:=(List.cons.inj e0).1
 obtain ⟨v1,e1,h1⟩:=h1
 obtain rfl:=(List.cons.inj e1).1
 have p0:a0.size+1≤Rows.uptoBulk y0.1:=q0
 have p1:(a1.map (fun _:Int=>0)).sum≤Rows.uptoBulk y1.1:=q1
 refine ⟨⟨a0,a1⟩,⟨_,rfl,h1⟩,?_⟩
 refine Nat.le_trans ?_ hq
 simp only[mNu];omega
theorem rd_Sample:RD enc Tryz.prog w 57 RSample mSm:=fun fuel cs x h=>by
 obtain ⟨xs,n, -,rfl,hlen,hxl,hf⟩:=DataW.trod_struct ud57 h
 rw[cellsOf57]at hlen
 replace hxl:xs.length=4:=hxl
 obtain ⟨y0,y1,y2,y3,rfl⟩:∃y0 y1 y2 y3,xs=[y0,y1,y2,y3]:=by
  clear hf h
  rcases xs with _|⟨y0,xs⟩
  ·simp at hxl
  rcases xs with _|⟨y1,xs⟩
  ·simp at hxl
  rcases xs with _|⟨y2,xs⟩
  ·simp at hxl
  rcases xs with _|⟨y3,xs⟩
  ·simp at hxl
  rcases xs with _|⟨y,xs⟩
  ·exact ⟨_,_,_,_,rfl⟩
  ·simp at hxl
 have t0:=hf 0 _ rfl
 obtain ⟨a0,r0,q0⟩:=(rd_slice ud32 cellsOf3 (by decide) (rd_int ud3)) _ _ y0 t0
 have g0:(RSl (RInt .i64) 1) w ((cs.drop 0).take (Tryz.prog.cellsOf 32)) a0:=r0
 rw[cellsOf32]at g0
 clear t0 r0
 have t1:=hf 1 _ rfl
 obtain ⟨a1,r1,q1⟩:=(rd_slice ud53 cellsOf2 (by decide) (rd_int ud2)) _ _ y1 t1
 have g1:(RSl (RInt .i64) 1) w ((cs.drop 1).take (Tryz.prog.cellsOf 53)) a1:=r1
 rw[cellsOf53]at g1
 clear t1 r1
 have t2:=hf 2 _ rfl
 obtain ⟨a2,r2,q2⟩:=(rd_slice ud54 cellsOf109 (by decide) rd_Texts) _ _ y2 t2
 have g2:(RSl RTexts 2) w ((cs.drop 2).take (Tryz.prog.cellsOf 54)) a2:=r2
 rw[cellsOf54]at g2
 clear t2 r2
 have t3:=hf 3 _ rfl
 obtain ⟨a3,r3,q3⟩:=(rd_slice ud55 cellsOf112 (by decide) rd_Numbers) _ _ y3 t3
 have g3:(RSl RNums 2) w ((cs.drop 3).take (Tryz.prog.cellsOf 55)) a3:=r3
 rw[cellsOf55]at g3
 clear t3 r3
 clear hf
 have hq:Rows.uptoBulk y0.1+(Rows.uptoBulk y1.1+(Rows.uptoBulk y2.1+(Rows.uptoBulk y3.1+0)))+1≤Rows.uptoBulk (.agg ([y0,y1,y2,y3].map (·.1))):=by simp only[Rows.uptoBulk,Rows.uptoBulkAll,List.map_cons,List.map_nil];omega
 obtain ⟨c0,c1,c2,c3,rfl⟩:∃c0 c1 c2 c3,cs=[c0,c1,c2,c3]:=by
  clear h g0 g1 g2 g3
  rcases cs with _|⟨c0,cs⟩
  ·simp at hlen
  rcases cs with _|⟨c1,cs⟩
  ·simp at hlen
  rcases cs with _|⟨c2,cs⟩
  ·simp at hlen
  rcases cs with _|⟨c3,cs⟩
  ·simp at hlen
  rcases cs with _|⟨c,cs⟩
  ·exact ⟨_,_,_,_,rfl⟩
  ·simp at hlen
 have h0:(RSl (RInt .i64) 1) w [c0] a0:=g0
 have h1:(RSl (RInt .i64) 1) w [c1] a1:=g1
 have h2:(RSl RTexts 2) w [c2] a2:=g2
 have h3:(RSl RNums 2) w [c3] a3:=g3
 obtain ⟨v0,e0,h0⟩:=h0
 obtain rfl:=(List.cons.inj e0).1
 obtain ⟨v1,e1,h1⟩:=h1
 obtain rfl:=(List.cons.inj e1).1
 obtain ⟨v2,e2,h2⟩:=h2
 obtain rfl:=(List.cons.inj e2).1
 obtain ⟨v3,e3,h3⟩:=h3
 obtain rfl:=(List.cons.inj e3).1
 have p0:(a0.map (fun _:Int=>0)).sum≤Rows.uptoBulk y0.1:=q0
 have p1:(a1.map (fun _:Int=>0)).sum≤Rows.uptoBulk y1.1:=q1
 have p2:(a2.map mTx).sum≤Rows.uptoBulk y2.1:=q2
 have p3:(a3.map mNu).sum≤Rows.uptoBulk y3.1:=q3
 refine ⟨⟨a0,a1,a2,a3⟩,⟨_,_,_,_,rfl,h0,h1,h2,h3⟩,?_⟩
 refine Nat.le_trans ?_ hq
 simp only[mSm];omega
theorem rd_Mapping:RD enc Tryz.prog w 73 RMapping mMp:=fun fuel cs x h=>by
 obtain ⟨xs,n, -,rfl,hlen,hxl,hf⟩:=DataW.trod_struct ud73 h
 rw[cellsOf73]at hlen
 replace hxl:xs.length=10:=hxl
 obtain ⟨y0,y1,y2,y3,y4,y5,y6,y7,y8,y9,rfl⟩:∃y0 y1 y2 y3 y4 y5 y6 y7 y8 y9,xs=[y0,y1,y2,y3,y4,y5,y6,y7,y8,y9]:=by
  clear hf h
  rcases xs with _|⟨y0,xs⟩
  ·simp at hxl
  rcases xs with _|⟨y1,xs⟩
  ·simp at hxl
  rcases xs with _|⟨y2,xs⟩
  ·simp at hxl
  rcases xs with _|⟨y3,xs⟩
  ·simp at hxl
  rcases xs with _|⟨y4,xs⟩
  ·simp at hxl
  rcases xs with _|⟨y5,xs⟩
  ·simp at hxl
  rcases xs with _|⟨y6,xs⟩
  ·simp at hxl
  rcases xs with _|⟨y7,xs⟩
  ·simp at hxl
  rcases xs with _|⟨y8,xs⟩
  ·simp at hxl
  rcases xs with _|⟨y9,xs⟩
  ·simp at hxl
  rcases xs with _|⟨y,xs⟩
  ·exact ⟨_,_,_,_,_,_,_,_,_,_,rfl⟩
  ·simp at hxl
 have t0:=hf 0 _ rfl
 obtain ⟨a0,r0,q0⟩:=(rd_int ud71) _ _ y0 t0
 have g0:(RInt .u64) w ((cs.drop 0).take (Tryz.prog.cellsOf 71)) a0:=r0
 rw[cellsOf71]at g0
 clear t0 r0
 have t1:=hf 1 _ rfl
 obtain ⟨a1,r1,q1⟩:=(rd_int ud71) _ _ y1 t1
 have g1:(RInt .u64) w ((cs.drop 1).take (Tryz.prog.cellsOf 71)) a1:=r1
 rw[cellsOf71]at g1
 clear t1 r1
 have t2:=hf 2 _ rfl
 obtain ⟨a2,r2,q2⟩:=(rd_int ud71) _ _ y2 t2
 have g2:(RInt .u64) w ((cs.drop 2).take (Tryz.prog.cellsOf 71)) a2:=r2
 rw[cellsOf71]at g2
 clear t2 r2
 have t3:=hf 3 _ rfl
 obtain ⟨a3,r3,q3⟩:=(rd_int ud71) _ _ y3 t3
 have g3:(RInt .u64) w ((cs.drop 3).take (Tryz.prog.cellsOf 71)) a3:=r3
 rw[cellsOf71]at g3
 clear t3 r3
 have t4:=hf 4 _ rfl
 obtain ⟨a4,r4,q4⟩:=(rd_str ud9) _ _ y4 t4
 have g4:RStr w ((cs.drop 4).take (Tryz.prog.cellsOf 9)) a4:=r4
 rw[cellsOf9]at g4
 clear t4 r4
 have t5:=hf 5 _ rfl
 obtain ⟨a5,r5,q5⟩:=(rd_str ud9) _ _ y5 t5
 have g5:RStr w ((cs.drop 5).take (Tryz.prog.cellsOf 9)) a5:=r5
 rw[cellsOf9]at g5
 clear t5 r5
 have t6:=hf 6 _ rfl
 obtain ⟨a6,r6,q6⟩:=(rd_bool ud4) _ _ y6 t6
 have g6:RBool w ((cs.drop 6).take (Tryz.prog.cellsOf 4)) a6:=r6
 rw[cellsOf4]at g6
 clear t6 r6
 have t7:=hf 7 _ rfl
 obtain ⟨a7,r7,q7⟩:=(rd_bool ud4) _ _ y7 t7
 have g7:RBool w ((cs.drop 7).take (Tryz.prog.cellsOf 4)) a7:=r7
 rw[cellsOf4]at g7
 clear t7 r7
 have t8:=hf 8 _ rfl
 obtain ⟨a8,r8,q8⟩:=(rd_bool ud4) _ _ y8 t8
 have g8:RBool w ((cs.drop 8).take (Tryz.prog.cellsOf 4)) a8:=r8
 rw[cellsOf4]at g8
 clear t8 r8
 have t9:=hf 9 _ rfl
 obtain ⟨a9,r9,q9⟩:=(rd_bool ud4) _ _ y9 t9
 have g9:RBool w ((cs.drop 9).take (Tryz.prog.cellsOf 4)) a9:=r9
 rw[cellsOf4]at g9
 clear t9 r9
 clear hf
 have hq:Rows.uptoBulk y0.1+(Rows.uptoBulk y1.1+(Rows.uptoBulk y2.1+(Rows.uptoBulk y3.1+(Rows.uptoBulk y4.1+(Rows.uptoBulk y5.1+(Rows.uptoBulk y6.1+(Rows.uptoBulk y7.1+(Rows.uptoBulk y8.1+(Rows.uptoBulk y9.1+0)))))))))+1≤Rows.uptoBulk (.agg ([y0,y1,y2,y3,y4,y5,y6,y7,y8,y9].map (·.1))):=by simp only[Rows.uptoBulk,Rows.uptoBulkAll,List.map_cons,List.map_nil];omega
 obtain ⟨c0,c1,c2,c3,c4,c5,c6,c7,c8,c9,rfl⟩:∃c0 c1 c2 c3 c4 c5 c6 c7 c8 c9,cs=[c0,c1,c2,c3,c4,c5,c6,c7,c8,c9]:=by
  clear h g0 g1 g2 g3 g4 g5 g6 g7 g8 g9
  rcases cs with _|⟨c0,cs⟩
  ·simp at hlen
  rcases cs with _|⟨c1,cs⟩
  ·simp at hlen
  rcases cs with _|⟨c2,cs⟩
  ·simp at hlen
  rcases cs with _|⟨c3,cs⟩
  ·simp at hlen
  rcases cs with _|⟨c4,cs⟩
  ·simp at hlen
  rcases cs with _|⟨c5,cs⟩
  ·simp at hlen
  rcases cs with _|⟨c6,cs⟩
  ·simp at hlen
  rcases cs with _|⟨c7,cs⟩
  ·simp at hlen
  rcases cs with _|⟨c8,cs⟩
  ·simp at hlen
  rcases cs with _|⟨c9,cs⟩
  ·simp at hlen
  rcases cs with _|⟨c,cs⟩
  ·exact ⟨_,_,_,_,_,_,_,_,_,_,rfl⟩
  ·simp at hlen
 have h0:(RInt .u64) w [c0] a0:=g0
 have h1:(RInt .u64) w [c1] a1:=g1
 have h2:(RInt .u64) w [c2] a2:=g2
 have h3:(RInt .u64) w [c3] a3:=g3
 have h4:RStr w [c4] a4:=g4
 have h5:RStr w [c5] a5:=g5
 have h6:RBool w [c6] a6:=g6
 have h7:RBool w [c7] a7:=g7
 have h8:RBool w [c8] a8:=g8
 have h9:RBool w [c9] a9:=g9
 obtain ⟨e0,h0⟩:=h0
 obtain rfl:=(List.cons.inj e0).1
 obtain ⟨e1,h1⟩:=h1
 obtain rfl:=(List.cons.inj e1).1
 obtain ⟨e2,h2⟩:=h2
 obtain rfl:=(List.cons.inj e2).1
 obtain ⟨e3,h3⟩:=h3
 obtain rfl:=(List.cons.inj e3).1
 have e4:=h4
 obtain rfl:=(List.cons.inj e4).1
 have e5:=h5
 obtain rfl:=(List.cons.inj e5).1
 have e6:=h6
 obtain rfl:=(List.cons.inj e6).1
 have e7:=h7
 obtain rfl:=(List.cons.inj e7).1
 have e8:=h8
 obtain rfl:=(List.cons.inj e8).1
 have e9:=h9
 obtain rfl:=(List.cons.inj e9).1
 have p0:0≤Rows.uptoBulk y0.1:=q0
 have p1:0≤Rows.uptoBulk y1.1:=q1
 have p2:0≤Rows.uptoBulk y2.1:=q2
 have p3:0≤Rows.uptoBulk y3.1:=q3
 have p4:a4.size+1≤Rows.uptoBulk y4.1:=q4
 have p5:a5.size+1≤Rows.uptoBulk y5.1:=q5
 have p6:0≤Rows.uptoBulk y6.1:=q6
 have p7:0≤Rows.uptoBulk y7.1:=q7
 have p8:0≤Rows.uptoBulk y8.1:=q8
 have p9:0≤Rows.uptoBulk y9.1:=q9
 refine ⟨⟨a0,a1,a2,a3,a4,a5,a6,a7,a8,a9⟩,⟨rfl,h0,h1,h2,h3⟩,?_⟩
 refine Nat.le_trans ?_ hq
 simp only[mMp];omega
theorem rd_Line:RD enc Tryz.prog w 114 RLine mLn:=fun fuel cs x h=>by
 obtain ⟨xs,n, -,rfl,hlen,hxl,hf⟩:=DataW.trod_struct ud114 h
 rw[cellsOf114]at hlen
 replace hxl:xs.length=2:=hxl
 obtain ⟨y0,y1,rfl⟩:∃y0 y1,xs=[y0,y1]:=by
  clear hf h
  rcases xs with _|⟨y0,xs⟩
  ·simp at hxl
  rcases xs with _|⟨y1,xs⟩
  ·simp at hxl
  rcases xs with _|⟨y,xs⟩
  ·exact ⟨_,_,rfl⟩
  ·simp at hxl
 have t0:=hf 0 _ rfl
 obtain ⟨a0,r0,q0⟩:=(rd_int ud3) _ _ y0 t0
 have g0:(RInt .i64) w ((cs.drop 0).take (Tryz.prog.cellsOf 3)) a0:=r0
 rw[cellsOf3]at g0
 clear t0 r0
 have t1:=hf 1 _ rfl
 obtain ⟨a1,r1,q1⟩:=(rd_int ud2) _ _ y1 t1
 have g1:(RInt .i64) w ((cs.drop 1).take (Tryz.prog.cellsOf 2)) a1:=r1
 rw[cellsOf2]at g1
 clear t1 r1
 clear hf
 have hq:Rows.uptoBulk y0.1+(Rows.uptoBulk y1.1+0)+1≤Rows.uptoBulk (.agg ([y0,y1].map (·.1))):=by simp only[Rows.uptoBulk,Rows.uptoBulkAll,List.map_cons,List.map_nil];omega
 obtain ⟨c0,c1,rfl⟩:∃c0 c1,cs=[c0,c1]:=by
  clear h g0 g1
  rcases cs with _|⟨c0,cs⟩
  ·simp at hlen
  rcases cs with _|⟨c1,cs⟩
  ·simp at hlen
  rcases cs with _|⟨c,cs⟩
  ·exact ⟨_,_,rfl⟩
  ·simp at hlen
 have h0:(RInt .i64) w [c0] a0:=g0
 have h1:(RInt .i64) w [c1] a1:=g1
 obtain ⟨e0,h0⟩:=h0
 obtain rfl:=(List.cons.inj e0).1
 obtain ⟨e1,h1⟩:=h1
 obtain rfl:=(List.cons.inj e1).1
 have p0:0≤Rows.uptoBulk y0.1:=q0
 have p1:0≤Rows.uptoBulk y1.1:=q1
 refine ⟨⟨a0,a1⟩,⟨rfl,h0,h1⟩,?_⟩
 refine Nat.le_trans ?_ hq
 simp only[mLn];omega
theorem rd_Location:RD enc Tryz.prog w 77 RLoc mLc:=fun fuel cs x h=>by
 obtain ⟨xs,n, -,rfl,hlen,hxl,hf⟩:=DataW.trod_struct ud77 h
 rw[cellsOf77]at hlen
 replace hxl:xs.length=4:=hxl
 obtain ⟨y0,y1,y2,y3,rfl⟩:∃y0 y1 y2 y3,xs=[y0,y1,y2,y3]:=by
  clear hf h
  rcases xs with _|⟨y0,xs⟩
  ·simp at hxl
  rcases xs with _|⟨y1,xs⟩
  ·simp at hxl
  rcases xs with _|⟨y2,xs⟩
  ·simp at hxl
  rcases xs with _|⟨y3,xs⟩
  ·simp at hxl
  rcases xs with _|⟨y,xs⟩
  ·exact ⟨_,_,_,_,rfl⟩
  ·simp at hxl
 have t0:=hf 0 _ rfl
 obtain ⟨a0,r0,q0⟩:=(rd_int ud71) _ _ y0 t0
 have g0:(RInt .u64) w ((cs.drop 0).take (Tryz.prog.cellsOf 71)) a0:=r0
 rw[cellsOf71]at g0
 clear t0 r0
 have t1:=hf 1 _ rfl
 obtain ⟨a1,r1,q1⟩:=(rd_int ud3) _ _ y1 t1
 have g1:(RInt .i64) w ((cs.drop 1).take (Tryz.prog.cellsOf 3)) a1:=r1
 rw[cellsOf3]at g1
 clear t1 r1
 have t2:=hf 2 _ rfl
 obtain ⟨a2,r2,q2⟩:=(rd_int ud71) _ _ y2 t2
 have g2:(RInt .u64) w ((cs.drop 2).take (Tryz.prog.cellsOf 71)) a2:=r2
 rw[cellsOf71]at g2
 clear t2 r2
 have t3:=hf 3 _ rfl
 obtain ⟨a3,r3,q3⟩:=(rd_slice ud75 cellsOf114 (by decide) rd_Line) _ _ y3 t3
 have g3:(RSl RLine 2) w ((cs.drop 3).take (Tryz.prog.cellsOf 75)) a3:=r3
 rw[cellsOf75]at g3
 clear t3 r3
 clear hf
 have hq:Rows.uptoBulk y0.1+(Rows.uptoBulk y1.1+(Rows.uptoBulk y2.1+(Rows.uptoBulk y3.1+0)))+1≤Rows.uptoBulk (.agg ([y0,y1,y2,y3].map (·.1))):=by simp only[Rows.uptoBulk,Rows.uptoBulkAll,List.map_cons,List.map_nil];omega
 obtain ⟨c0,c1,c2,c3,rfl⟩:∃c0 c1 c2 c3,cs=[c0,c1,c2,c3]:=by
  clear h g0 g1 g2 g3
  rcases cs with _|⟨c0,cs⟩
  ·simp at hlen
  rcases cs with _|⟨c1,cs⟩
  ·simp at hlen
  rcases cs with _|⟨c2,cs⟩
  ·simp at hlen
  rcases cs with _|⟨c3,cs⟩
  ·simp at hlen
  rcases cs with _|⟨c,cs⟩
  ·exact ⟨_,_,_,_,rfl⟩
  ·simp at hlen
 have h0:(RInt .u64) w [c0] a0:=g0
 have h1:(RInt .i64) w [c1] a1:=g1
 have h2:(RInt .u64) w [c2] a2:=g2
 have h3:(RSl RLine 2) w [c3] a3:=g3
 obtain ⟨e0,h0⟩:=h0
 obtain rfl:=(List.cons.inj e0).1
 obtain ⟨e1,h1⟩:=h1
 obtain rfl:=(List.cons.inj e1).1
 obtain ⟨e2,h2⟩:=h2
 obtain rfl:=(List.cons.inj e2).1
 obtain ⟨v3,e3,h3⟩:=h3
 obtain rfl:=(List.cons.inj e3).1
 have p0:0≤Rows.uptoBulk y0.1:=q0
 have p1:0≤Rows.uptoBulk y1.1:=q1
 have p2:0≤Rows.uptoBulk y2.1:=q2
 have p3:(a3.map mLn).sum≤Rows.uptoBulk y3.1:=q3
 refine ⟨⟨a0,a1,a2,a3⟩,⟨_,rfl,h0,h1,h2,h3⟩,?_⟩
 refine Nat.le_trans ?_ hq
 simp only[mLc];omega
theorem rd_Func:RD enc Tryz.prog w 80 RFunc mFn:=fun fuel cs x h=>by
 obtain ⟨xs,n, -,rfl,hlen,hxl,hf⟩:=DataW.trod_struct ud80 h
 rw[cellsOf80]at hlen
 replace hxl:xs.length=5:=hxl
 obtain ⟨y0,y1,y2,y3,y4,rfl⟩:∃y0 y1 y2 y3 y4,xs=[y0,y1,y2,y3,y4]:=by
  clear hf h
  rcases xs with _|⟨y0,xs⟩
  ·simp at hxl
  rcases xs with _|⟨y1,xs⟩
  ·simp at hxl
  rcases xs with _|⟨y2,xs⟩
  ·simp at hxl
  rcases xs with _|⟨y3,xs⟩
  ·simp at hxl
  rcases xs with _|⟨y4,xs⟩
  ·simp at hxl
  rcases xs with _|⟨y,xs⟩
  ·exact ⟨_,_,_,_,_,rfl⟩
  ·simp at hxl
 have t0:=hf 0 _ rfl
 obtain ⟨a0,r0,q0⟩:=(rd_int ud71) _ _ y0 t0
 have g0:(RInt .u64) w ((cs.drop 0).take (Tryz.prog.cellsOf 71)) a0:=r0
 rw[cellsOf71]at g0
 clear t0 r0
 have t1:=hf 1 _ rfl
 obtain ⟨a1,r1,q1⟩:=(rd_str ud9) _ _ y1 t1
 have g1:RStr w ((cs.drop 1).take (Tryz.prog.cellsOf 9)) a1:=r1
 rw[cellsOf9]at g1
 clear t1 r1
 have t2:=hf 2 _ rfl
 obtain ⟨a2,r2,q2⟩:=(rd_str ud9) _ _ y2 t2
 have g2:RStr w ((cs.drop 2).take (Tryz.prog.cellsOf 9)) a2:=r2
 rw[cellsOf9]at g2
 clear t2 r2
 have t3:=hf 3 _ rfl
 obtain ⟨a3,r3,q3⟩:=(rd_str ud9) _ _ y3 t3
 have g3:RStr w ((cs.drop 3).take (Tryz.prog.cellsOf 9)) a3:=r3
 rw[cellsOf9]at g3
 clear t3 r3
 have t4:=hf 4 _ rfl
 obtain ⟨a4,r4,q4⟩:=(rd_int ud2) _ _ y4 t4
 have g4:(RInt .i64) w ((cs.drop 4).take (Tryz.prog.cellsOf 2)) a4:=r4
 rw[cellsOf2]at g4
 clear t4 r4
 clear hf
 have hq:Rows.uptoBulk y0.1+(Rows.uptoBulk y1.1+(Rows.uptoBulk y2.1+(Rows.uptoBulk y3.1+(Rows.uptoBulk y4.1+0))))+1≤Rows.uptoBulk (.agg ([y0,y1,y2,y3,y4].map (·.1))):=by simp only[Rows.uptoBulk,Rows.uptoBulkAll,List.map_cons,List.map_nil];omega
 obtain ⟨c0,c1,c2,c3,c4,rfl⟩:∃c0 c1 c2 c3 c4,cs=[c0,c1,c2,c3,c4]:=by
  clear h g0 g1 g2 g3 g4
  rcases cs with _|⟨c0,cs⟩
  ·simp at hlen
  rcases cs with _|⟨c1,cs⟩
  ·simp at hlen
  rcases cs with _|⟨c2,cs⟩
  ·simp at hlen
  rcases cs with _|⟨c3,cs⟩
  ·simp at hlen
  rcases cs with _|⟨c4,cs⟩
  ·simp at hlen
  rcases cs with _|⟨c,cs⟩
  ·exact ⟨_,_,_,_,_,rfl⟩
  ·simp at hlen
 have h0:(RInt .u64) w [c0] a0:=g0
 have h1:RStr w [c1] a1:=g1
 have h2:RStr w [c2] a2:=g2
 have h3:RStr w [c3] a3:=g3
 have h4:(RInt .i64) w [c4] a4:=g4
 obtain ⟨e0,h0⟩:=h0
 obtain rfl:=(List.cons.inj e0).1
 have e1:=h1
 obtain rfl:=(List.cons.inj e1).1
 have e2:=h2
 obtain rfl:=(List.cons.inj e2).1
 have e3:=h3
 obtain rfl:=(List.cons.inj e3).1
 obtain ⟨e4,h4⟩:=h4
 obtain rfl:=(List.cons.inj e4).1
 have p0:0≤Rows.uptoBulk y0.1:=q0
 have p1:a1.size+1≤Rows.uptoBulk y1.1:=q1
 have p2:a2.size+1≤Rows.uptoBulk y2.1:=q2
 have p3:a3.size+1≤Rows.uptoBulk y3.1:=q3
 have p4:0≤Rows.uptoBulk y4.1:=q4
 refine ⟨⟨a0,a1,a2,a3,a4⟩,⟨rfl,h0,h4⟩,?_⟩
 refine Nat.le_trans ?_ hq
 simp only[mFn];omega
theorem rd_Profile:RD enc Tryz.prog w 31 RProf mPf:=fun fuel cs x h=>by
 obtain ⟨xs,n, -,rfl,hlen,hxl,hf⟩:=DataW.trod_struct ud31 h
 rw[cellsOf31]at hlen
 replace hxl:xs.length=13:=hxl
 obtain ⟨y0,y1,y2,y3,y4,y5,y6,y7,y8,y9,y10,y11,y12,rfl⟩:∃y0 y1 y2 y3 y4 y5 y6 y7 y8 y9 y10 y11 y12,xs=[y0,y1,y2,y3,y4,y5,y6,y7,y8,y9,y10,y11,y12]:=by
  clear hf h
  rcases xs with _|⟨y0,xs⟩
  ·simp at hxl
  rcases xs with _|⟨y1,xs⟩
  ·simp at hxl
  rcases xs with _|⟨y2,xs⟩
  ·simp at hxl
  rcases xs with _|⟨y3,xs⟩
  ·simp at hxl
  rcases xs with _|⟨y4,xs⟩
  ·simp at hxl
  rcases xs with _|⟨y5,xs⟩
  ·simp at hxl
  rcases xs with _|⟨y6,xs⟩
  ·simp at hxl
  rcases xs with _|⟨y7,xs⟩
  ·simp at hxl
  rcases xs with _|⟨y8,xs⟩
  ·simp at hxl
  rcases xs with _|⟨y9,xs⟩
  ·simp at hxl
  rcases xs with _|⟨y10,xs⟩
  ·simp at hxl
  rcases xs with _|⟨y11,xs⟩
  ·simp at hxl
  rcases xs with _|⟨y12,xs⟩
  ·simp at hxl
  rcases xs with _|⟨y,xs⟩
  ·exact ⟨_,_,_,_,_,_,_,_,_,_,_,_,_,rfl⟩
  ·simp at hxl
 have t0:=hf 0 _ rfl
 obtain ⟨a0,r0,q0⟩:=(rd_slice ud22 cellsOf29 (by decide) rd_Type) _ _ y0 t0
 have g0:(RSl RType 2) w ((cs.drop 0).take (Tryz.prog.cellsOf 22)) a0:=r0
 rw[cellsOf22]at g0
 clear t0 r0
 have t1:=hf 1 _ rfl
 obtain ⟨a1,r1,q1⟩:=(rd_str ud9) _ _ y1 t1
 have g1:RStr w ((cs.drop 1).take (Tryz.prog.cellsOf 9)) a1:=r1
 rw[cellsOf9]at g1
 clear t1 r1
 have t2:=hf 2 _ rfl
 obtain ⟨a2,r2,q2⟩:=(rd_slice ud23 cellsOf57 (by decide) rd_Sample) _ _ y2 t2
 have g2:(RSl RSample 4) w ((cs.drop 2).take (Tryz.prog.cellsOf 23)) a2:=r2
 rw[cellsOf23]at g2
 clear t2 r2
 have t3:=hf 3 _ rfl
 obtain ⟨a3,r3,q3⟩:=(rd_slice ud24 cellsOf73 (by decide) rd_Mapping) _ _ y3 t3
 have g3:(RSl RMapping 10) w ((cs.drop 3).take (Tryz.prog.cellsOf 24)) a3:=r3
 rw[cellsOf24]at g3
 clear t3 r3
 have t4:=hf 4 _ rfl
 obtain ⟨a4,r4,q4⟩:=(rd_slice ud25 cellsOf77 (by decide) rd_Location) _ _ y4 t4
 have g4:(RSl RLoc 4) w ((cs.drop 4).take (Tryz.prog.cellsOf 25)) a4:=r4
 rw[cellsOf25]at g4
 clear t4 r4
 have t5:=hf 5 _ rfl
 obtain ⟨a5,r5,q5⟩:=(rd_slice ud26 cellsOf80 (by decide) rd_Func) _ _ y5 t5
 have g5:(RSl RFunc 5) w ((cs.drop 5).take (Tryz.prog.cellsOf 26)) a5:=r5
 rw[cellsOf26]at g5
 clear t5 r5
 have t6:=hf 6 _ rfl
 obtain ⟨a6,r6,q6⟩:=(rd_slice ud27 cellsOf9 (by decide) (rd_str ud9)) _ _ y6 t6
 have g6:(RSl RStr 1) w ((cs.drop 6).take (Tryz.prog.cellsOf 27)) a6:=r6
 rw[cellsOf27]at g6
 clear t6 r6
 have t7:=hf 7 _ rfl
 obtain ⟨a7,r7,q7⟩:=(rd_str ud9) _ _ y7 t7
 have g7:RStr w ((cs.drop 7).take (Tryz.prog.cellsOf 9)) a7:=r7
 rw[cellsOf9]at g7
 clear t7 r7
 have t8:=hf 8 _ rfl
 obtain ⟨a8,r8,q8⟩:=(rd_str ud9) _ _ y8 t8
 have g8:RStr w ((cs.drop 8).take (Tryz.prog.cellsOf 9)) a8:=r8
 rw[cellsOf9]at g8
 clear t8 r8
 have t9:=hf 9 _ rfl
 obtain ⟨a9,r9,q9⟩:=(rd_int ud2) _ _ y9 t9
 have g9:(RInt .i64) w ((cs.drop 9).take (Tryz.prog.cellsOf 2)) a9:=r9
 rw[cellsOf2]at g9
 clear t9 r9
 have t10:=hf 10 _ rfl
 obtain ⟨a10,r10,q10⟩:=(rd_int ud2) _ _ y10 t10
 have g10:(RInt .i64) w ((cs.drop 10).take (Tryz.prog.cellsOf 2)) a10:=r10
 rw[cellsOf2]at g10
 clear t10 r10
 have t11:=hf 11 _ rfl
 obtain ⟨a11,r11,q11⟩:=(rd_int ud2) _ _ y11 t11
 have g11:(RInt .i64) w ((cs.drop 11).take (Tryz.prog.cellsOf 2)) a11:=r11
 rw[cellsOf2]at g11
 clear t11 r11
 have t12:=hf 12 _ rfl
 obtain ⟨a12,r12,q12⟩:=rd_Type _ _ y12 t12
 have g12:RType w ((cs.drop 12).take (Tryz.prog.cellsOf 29)) a12:=r12
 rw[cellsOf29]at g12
 clear t12 r12
 clear hf
 have hq:Rows.uptoBulk y0.1+(Rows.uptoBulk y1.1+(Rows.uptoBulk y2.1+(Rows.uptoBulk y3.1+(Rows.uptoBulk y4.1+(Rows.uptoBulk y5.1+(Rows.uptoBulk y6.1+(Rows.uptoBulk y7.1+(Rows.uptoBulk y8.1+(Rows.uptoBulk y9.1+(Rows.uptoBulk y10.1+(Rows.uptoBulk y11.1+(Rows.uptoBulk y12.1+0))))))))))))+1≤Rows.uptoBulk (.agg ([y0,y1,y2,y3,y4,y5,y6,y7,y8,y9,y10,y11,y12].map (·.1))):=by simp only[Rows.uptoBulk,Rows.uptoBulkAll,List.map_cons,List.map_nil];omega
 obtain ⟨c0,c1,c2,c3,c4,c5,c6,c7,c8,c9,c10,c11,c12,c13,rfl⟩:∃c0 c1 c2 c3 c4 c5 c6 c7 c8 c9 c10 c11 c12 c13,cs=[c0,c1,c2,c3,c4,c5,c6,c7,c8,c9,c10,c11,c12,c13]:=by
  clear h g0 g1 g2 g3 g4 g5 g6 g7 g8 g9 g10 g11 g12
  rcases cs with _|⟨c0,cs⟩
  ·simp at hlen
  rcases cs with _|⟨c1,cs⟩
  ·simp at hlen
  rcases cs with _|⟨c2,cs⟩
  ·simp at hlen
  rcases cs with _|⟨c3,cs⟩
  ·simp at hlen
  rcases cs with _|⟨c4,cs⟩
  ·simp at hlen
  rcases cs with _|⟨c5,cs⟩
  ·simp at hlen
  rcases cs with _|⟨c6,cs⟩
  ·simp at hlen
  rcases cs with _|⟨c7,cs⟩
  ·simp at hlen
  rcases cs with _|⟨c8,cs⟩
  ·simp at hlen
  rcases cs with _|⟨c9,cs⟩
  ·simp at hlen
  rcases cs with _|⟨c10,cs⟩
  ·simp at hlen
  rcases cs with _|⟨c11,cs⟩
  ·simp at hlen
  rcases cs with _|⟨c12,cs⟩
  ·simp at hlen
  rcases cs with _|⟨c13,cs⟩
  ·simp at hlen
  rcases cs with _|⟨c,cs⟩
  ·exact ⟨_,_,_,_,_,_,_,_,_,_,_,_,_,_,rfl⟩
  ·simp at hlen
 have h0:(RSl RType 2) w [c0] a0:=g0
 have h1:RStr w [c1] a1:=g1
 have h2:(RSl RSample 4) w [c2] a2:=g2
 have h3:(RSl RMapping 10) w [c3] a3:=g3
 have h4:(RSl RLoc 4) w [c4] a4:=g4
 have h5:(RSl RFunc 5) w [c5] a5:=g5
 have h6:(RSl RStr 1) w [c6] a6:=g6
 have h7:RStr w [c7] a7:=g7
 have h8:RStr w [c8] a8:=g8
 have h9:(RInt .i64) w [c9] a9:=g9
 have h10:(RInt .i64) w [c10] a10:=g10
 have h11:(RInt .i64) w [c11] a11:=g11
 have h12:RType w [c12,c13] a12:=g12
 obtain ⟨v0,e0,h0⟩:=h0
 obtain rfl:=(List.cons.inj e0).1
 have e1:=h1
 obtain rfl:=(List.cons.inj e1).1
 obtain ⟨v2,e2,h2⟩:=h2
 obtain rfl:=(List.cons.inj e2).1
 obtain ⟨v3,e3,h3⟩:=h3
 obtain rfl:=(List.cons.inj e3).1
 obtain ⟨v4,e4,h4⟩:=h4
 obtain rfl:=(List.cons.inj e4).1
 obtain ⟨v5,e5,h5⟩:=h5
 obtain rfl:=(List.cons.inj e5).1
 obtain ⟨v6,e6,h6⟩:=h6
 obtain rfl:=(List.cons.inj e6).1
 have e7:=h7
 obtain rfl:=(List.cons.inj e7).1
 have e8:=h8
 obtain rfl:=(List.cons.inj e8).1
 obtain ⟨e9,h9⟩:=h9
 obtain rfl:=(List.cons.inj e9).1
 obtain ⟨e10,h10⟩:=h10
 obtain rfl:=(List.cons.inj e10).1
 obtain ⟨e11,h11⟩:=h11
 obtain rfl:=(List.cons.inj e11).1
 have e12:=h12
 simp only[RType,List.cons.injEq,and_true]at e12
 obtain ⟨rfl,rfl⟩:=e12
 have p0:(a0.map mTy).sum≤Rows.uptoBulk y0.1:=q0
 have p1:a1.size+1≤Rows.uptoBulk y1.1:=q1
 have p2:(a2.map mSm).sum≤Rows.uptoBulk y2.1:=q2
 have p3:(a3.map mMp).sum≤Rows.uptoBulk y3.1:=q3
 have p4:(a4.map mLc).sum≤Rows.uptoBulk y4.1:=q4
 have p5:(a5.map mFn).sum≤Rows.uptoBulk y5.1:=q5
 have p6:(a6.map (fun s:ByteArray=>s.size+1)).sum≤Rows.uptoBulk y6.1:=q6
 have p7:a7.size+1≤Rows.uptoBulk y7.1:=q7
 have p8:a8.size+1≤Rows.uptoBulk y8.1:=q8
 have p9:0≤Rows.uptoBulk y9.1:=q9
 have p10:0≤Rows.uptoBulk y10.1:=q10
 have p11:0≤Rows.uptoBulk y11.1:=q11
 have p12:(a12.ty.size+1)+(a12.unit.size+1)≤Rows.uptoBulk y12.1:=q12
 refine ⟨⟨a0,a1,a2,a3,a4,a5,a6,a7,a8,a9,a10,a11,a12⟩,⟨_,_,_,_,_,_,rfl,h0,h2,h3,h4,h5,h6,h9,h10,h11⟩,?_⟩
 refine Nat.le_trans ?_ hq
 simp only[mPf];rw[show mTy ⟨a12.ty,a12.unit⟩=(a12.ty.size+1)+(a12.unit.size+1) from rfl];omega
end
theorem keptOf {W W':World} (k:Fr 0 [] W W') (may:MemPlace→Prop):W.keptBut W' may:=by
 refine ⟨k.os,k.output,fun i hi=>?_⟩
 obtain ⟨o,ho⟩:∃o,W.heap[i]? =some o:=⟨_,Array.getElem?_eq_getElem hi⟩
 rw[ho,k.keep _ o ho (.inr (by simp))]
 cases o<;>simp
open Go Go.Fw Go.Proofs Go.Proofs.Tryz
theorem lay_of_os {α β:Type} {sz:Nat} {R:World→List Value→α→Prop} {bs:List β} {c:β→List Value} {f:β→α} {xs:List α} (h:OS T sz w v (bs.flatMap c)) (hx:bs.map f=xs) (hc:∀b,(c b).length=sz) (hp:0<sz) (hR:∀b∈bs,R w (c b) (f b)) (hl:xs.length≤1000000000):Lay R sz w v xs:=by
 subst hx
 obtain ⟨p,l,cc,rfl,hlen,hlc,ho⟩:=h.open
 have hfl:(bs.flatMap c).length=bs.length*sz:=flatMap_len hc _
 have hll:l=bs.length:=by
  rw[hfl]at hlen
  exact (Nat.eq_of_mul_eq_mul_right hp hlen).symm
 subst hll
 refine ⟨bs.map c,⟨⟨p,cc,by simp,by simpa using hlc,?_⟩,?_,by simp at hl⊢;omega⟩,by simp,fun q hq=>?_,fun i q x hq hx=>?_⟩
 ·by_cases h0:bs.length=0
  ·exact .inl (by simpa using h0)
  ·right
   obtain ⟨b,rfl,hcell⟩:=ho (by omega)
   refine ⟨b,0,rfl,fun j u hu=>?_⟩
   rw[Nat.zero_add]
   exact hcell w (Keep.refl w) j u (by rw[List.flatMap_def];exact hu)
 ·rw[← List.flatMap_def,hfl];simp
 ·obtain ⟨b, -,rfl⟩:=List.mem_map.1 hq
  exact hc b
 ·rw[List.getElem?_map]at hq hx
  cases hb:bs[i]? with
  |none=>rw[hb]at hq;cases hq
  |some b=>
   rw[hb]at hq hx
   simp at hq hx
   subst hq;subst hx
   exact hR b (List.mem_of_getElem? hb)
theorem map_flat {α:Type} (g:α→Value) (xs:List α):xs.map g=xs.flatMap fun x=>[g x]:=by
 induction xs with
 |nil=>rfl
 |cons a r ih=>simp[ih]
theorem lay_of_os1 {α:Type} {R:World→List Value→α→Prop} {xs:List α} {g:α→Value} (h:OS T 1 w v (xs.map g)) (hR:∀x∈xs,R w [g x] x) (hl:xs.length≤1000000000):Lay R 1 w v xs:=by
 rw[map_flat]at h
 exact lay_of_os (f:=fun x=>x) h (by simp) (fun _=>rfl) (by omega) hR hl
theorem sumS_app (a b:List ByteArray):sumS (a++b)=sumS a+sumS b:=by simp[sumS]
theorem sumS_cons (a:ByteArray) (b:List ByteArray):sumS (a::b)=a.size+1+sumS b:=by simp[sumS]
theorem sumS_flat {α:Type} (f:α→List ByteArray):∀(xs:List α),sumS (xs.flatMap f)=(xs.map fun x=>sumS (f x)).sum
 |[]=>rfl
 |a::r=>by rw[List.flatMap_cons,sumS_app,sumS_flat f r,List.map_cons,List.sum_cons]
theorem sumS_map {α:Type} (f:α→ByteArray):∀(xs:List α),sumS (xs.map f)=(xs.map fun x=>(f x).size+1).sum
 |[]=>rfl
 |a::r=>by rw[List.map_cons,sumS_cons,sumS_map f r,List.map_cons,List.sum_cons]
theorem sumS_all (x:PProf):sumS (allS x)≤mPf x+1:=by
 have e1:∀s:PSample,sumS (samS s)=mSm s:=fun s=>by
  unfold samS mSm
  rw[sumS_app,sumS_flat,sumS_map]
  rfl
 have e2:∀t:PType,sumS [t.ty,t.unit]=mTy t:=fun t=>by simp[sumS,mTy]
 have e3:∀m:PMapping,sumS [m.file,m.build]=mMp m:=fun m=>by simp[sumS,mMp]
 have e4:∀f:PFunc,sumS [f.name,f.system,f.file]=mFn f:=fun f=>by simp[sumS,mFn]
 unfold allS mPf
 rw[sumS_app,sumS_app,sumS_app,sumS_app,sumS_flat,sumS_flat,sumS_flat,sumS_flat]
 rw[show (fun t:PType=>sumS [t.ty,t.unit])=mTy from funext e2,show (fun s:PSample=>sumS (samS s))=mSm from funext e1,show (fun m:PMapping=>sumS [m.file,m.build])=mMp from funext e3,show (fun f:PFunc=>sumS [f.name,f.system,f.file])=mFn from funext e4]
 have e5:sumS [eB,x.drop,x.keep,x.per.ty,x.per.unit]=1+((x.drop.size+1)+((x.keep.size+1)+mTy x.per)):=by simp[sumS,mTy];rfl
 rw[e5]
 omega
theorem bys_of_os {D:List Nat} (h:OS tU8 1 w v (D.map bv)) (hl:0<D.length):∃b c,v=.slice (some ⟨b,0,none⟩) D.length c∧Bys w b 0 c D:=by
 obtain ⟨y,p,l,c,rfl,hO,hb⟩:=h
 obtain ⟨e1,e2,e3,s1,s2,s3⟩:=hO
 have hll:l=D.length:=by simpa using s1.symm
 subst hll
 rcases s3 with ⟨h5,h6,⟨ex,h7⟩,h8⟩|⟨h5,h6,h7⟩
 ·refine ⟨y.b,c,by rw[h6],s2,y.cs,hb h5,fun j d hd=>?_⟩
  have hj:=(List.getElem?_eq_some_iff.1 hd).1
  rw[h7,Nat.zero_add,List.getElem?_append_left (by simpa using hj),List.getElem?_map,hd];rfl
 ·omega
abbrev tTx:Nat:=109
abbrev tNu:Nat:=112
theorem find_key {α:Type} (key:α→ByteArray):∀{xs:List α},(xs.map key).Nodup→∀{t:α},t∈xs→xs.find? (fun t'=>key t'=key t)=some t
 |[],_,_,h=>by cases h
 |a::r,hn,t,h=>by
    rw[List.map_cons,List.nodup_cons]at hn
    rcases List.mem_cons.1 h with rfl|h
    ·rw[List.find?_cons_of_pos (by simp)]
    ·have hne:key a≠key t:=fun e=>hn.1 (e▸List.mem_map_of_mem h)
     rw[List.find?_cons_of_neg (by simpa using hne)]
     exact find_key key hn.2 h
theorem asc_nodup {ks:List ByteArray} (h:ks.Pairwise fun x y=>ltB x y=true):ks.Nodup:=h.imp fun {a b} h e=>by subst e;rw[ltB_irrefl]at h;cases h
theorem asc_eq {ks rs:List ByteArray} (h1:ks.Pairwise fun x y=>ltB x y=true) (h2:rs.Pairwise fun x y=>ltB x y=true) (hm:∀k,k∈ks↔k∈rs):ks=rs:=by
 refine List.Perm.eq_of_pairwise (le:=fun a b=>ltB a b=true) (fun a b _ _ h1 h2=>?_) h1 h2 ((List.perm_ext_iff_of_nodup (asc_nodup h1) (asc_nodup h2)).2 hm)
 rw[ltB_eq]at h1 h2
 simp only[decide_eq_true_eq]at h1 h2
 exact absurd (List.lt_trans h1 h2) (List.lt_irrefl _)
theorem fT_mem (h:LabP s) {t:PTexts} (ht:t∈s.texts):fT s t.key=t.list:=by
 unfold fT
 rw[find_key (fun t:PTexts=>t.key) (asc_nodup h.tpw) ht];rfl
theorem fN_mem (h:LabP s) {t:PNums} (ht:t∈s.nums):fN s t.key=t.list:=by
 unfold fN
 rw[find_key (fun t:PNums=>t.key) (asc_nodup h.npw) ht];rfl
theorem fT_key {k:ByteArray} (h:fT s k≠[]):∃t∈s.texts,t.key=k:=by
 unfold fT at h
 cases hf:s.texts.find? fun t=>t.key=k with
 |none=>rw[hf]at h;exact absurd rfl h
 |some t=>exact ⟨t,List.mem_of_find?_eq_some hf,by simpa using List.find?_some hf⟩
theorem fN_key {k:ByteArray} (h:fN s k≠[]):∃t∈s.nums,t.key=k:=by
 unfold fN at h
 cases hf:s.nums.find? fun t=>t.key=k with
 |none=>rw[hf]at h;exact absurd rfl h
 |some t=>exact ⟨t,List.mem_of_find?_eq_some hf,by simpa using List.find?_some hf⟩
structure LabY {α:Type} (T:Nat) (enc:α→Value) (w:World) (f:ByteArray→List α) (mo:Option Nat) (es:List MapEntry) (ck:Nat) (ms:List (ByteArray×Value)):Prop where
 at_:MapAt w mo es ck
 menc:MEnc Value.string ms es ck
 yes:∀k u,mget ms k=some u→f k≠[]∧OS T 1 w u ((f k).map enc)
 no:∀k,mget ms k=none→f k=[]
theorem LabF.y {α:Type} {enc:α→Value} {f:ByteArray→List α} (h:LabF T enc w v f):∃mo es ck ms,v=.map mo∧LabY T enc w f mo es ck ms:=by
 rcases h with ⟨rfl,h⟩|⟨b,ms,es,ck,rfl,h2,h3,h4,h5⟩
 ·exact ⟨none,[],0,[],rfl,.inl ⟨rfl,rfl,rfl⟩,MEnc.nil',fun k u h=>by simp[mget_nil]at h,fun k _=>h k⟩
 ·exact ⟨some b,es,ck,ms,rfl,.inr ⟨b,rfl,h2⟩,h3,h4,h5⟩
theorem LabY.keys {α:Type} {enc:α→Value} {f:ByteArray→List α} {ms:List (ByteArray×Value)} (h:LabY T enc w f mo es ck ms) (k:ByteArray):k∈ms.map (·.1)↔f k≠[]:=by
 constructor
 ·intro hm
  cases hg:mget ms k with
  |none=>exact absurd hm (mget_none.1 hg)
  |some u=>exact (h.yes k u hg).1
 ·intro hf
  cases hg:mget ms k with
  |none=>exact absurd (h.no k hg) hf
  |some u=>
   by_cases hm:k∈ms.map (·.1)
   ·exact hm
   ·rw[mget_none.2 hm]at hg;cases hg
theorem LabY.entry {α:Type} {enc:α→Value} {f:ByteArray→List α} {ms:List (ByteArray×Value)} (h:LabY T enc w f mo es ck ms) {x:MapEntry} (hx:x∈es):∃k p c,x.key=.string k∧f k≠[]∧x.val=.slice p (f k).length c∧OS T 1 w (.slice p (f k).length c) ((f k).map enc):=by
 obtain ⟨q,hq,h1,h2⟩:=menc_entry h.menc hx
 obtain ⟨h3,h4⟩:=h.yes q.1 q.2 (mget_mem' h.menc.keys hq)
 obtain ⟨p,l,c,e,hl, -⟩:=h4.open
 obtain rfl:(f q.1).length=l:=by simpa using hl
 exact ⟨q.1,p,c,h1,h3,by rw[h2,e],e▸h4⟩
theorem LabY.len {α β:Type} {enc:α→Value} {f:ByteArray→List α} {ms:List (ByteArray×Value)} (h:LabY T enc w f mo es ck ms) {xs:List β} {key:β→ByteArray} (hk:∀k,f k≠[]→∃t∈xs,key t=k):es.length≤xs.length:=by
 have h1:=h.menc.length
 have h2:(ms.map (·.1)).length≤(xs.map key).length:=h.menc.keys.length_le_of_subset fun k hm=>by
  obtain ⟨t,ht,e⟩:=hk k ((h.keys k).1 hm)
  exact e▸List.mem_map_of_mem ht
 simp only[List.length_map]at h2
 omega
def Clo {α:Type} (T:Nat) (enc:α→Value) (f:ByteArray→List α) (qs:List LbE) (R:Heap):Prop:=∀q∈qs,∃z∈R,q.2.2.1=(f q.1).length∧Own T 1 z q.2.1 q.2.2.1 q.2.2.2 ((f q.1).map enc)
theorem Clo.nil {α:Type} {enc:α→Value} {f:ByteArray→List α} {R:Heap}:Clo T enc f [] R:=fun q h=>by cases h
theorem Clo.push {α:Type} {enc:α→Value} {f:ByteArray→List α} {qs:List LbE} {R R':Heap} (h:Clo T enc f qs R) (hs:∀z∈R,z∈R') {k:ByteArray} {z:Ent} (hz:z∈R') (hO:Own T 1 z p (f k).length c ((f k).map enc)):Clo T enc f (qs++[(k,p,(f k).length,c)]) R':=fun q hq=>by
 rcases List.mem_append.1 hq with hq|hq
 ·obtain ⟨z,h1,h2⟩:=h q hq
  exact ⟨z,hs z h1,h2⟩
 ·simp at hq;subst hq
  exact ⟨z,hz,rfl,hO⟩
theorem Hp.rot3 {a b c:Ent} {R:Heap} (h:Hp f w (a::b::c::R)):Hp f w (b::c::a::R):=by
 have h1:=h.swap
 obtain ⟨h2,h3,h4,h5⟩:=h1
 exact ⟨h2,h3,fun he z hz hze=>h4 he z (by simp at hz⊢;rcases hz with h|h|h<;>simp[h]) hze,Hp.swap h5⟩
theorem Hp.rot4 {a b c d:Ent} {R:Heap} (h:Hp f w (a::b::c::d::R)):Hp f w (b::c::d::a::R):=by
 have h1:=Hp.rot3 h
 obtain ⟨h2,h3,h4,h5,h6,h7,h8⟩:=h1
 exact ⟨h2,h3,fun he z hz hze=>h4 he z (by simp at hz⊢;rcases hz with h|h|h|h<;>simp[h]) hze,h5,h6,fun he z hz hze=>h7 he z (by simp at hz⊢;rcases hz with h|h|h<;>simp[h]) hze,Hp.swap h8⟩
section
variable {P:Program} {Q:Exit→Act→World→Prop} {n:Nat} {f:Fm} {e:Env} {H:Heap} {ops:Array Oper} {rest:List Oper} {d ty:Nat} {pos:String} {af:Array Edge}
theorem j_appS {sT by_ m c2:Nat} {s x:Operand} {y:Ent} {p2:Option Addr} {xs zs:List Value} (i:Nat) (hy:H[i]? =some y) (hO:Own T 1 y p l c xs)
  (hu:∀w,(underlying sT).run P w=.ok (.slice T) w) (hT:ElT P T 1 by_) (hby:Nat.ble by_ 1000=true)
  (hs:ev e s=some (.slice p l c)) (hxv:ev e x=some (.slice p2 m c2)) (hx:OS T 1 f.ws (.slice p2 m c2) zs) (hW:f.W.all (fun t=> !Nat.beq t T)=true) (hsc:∀z∈zs,scal z=true) (hbig:l+m≤100000000000) (hd:Nat.blt d n=true)
  (k:∀y' p' c',Own T 1 y' p' (l+m) c' (xs++zs)→J P ops Q n f ((d,.slice p' (l+m) c')::e) (putH H i y') rest):
  J P ops Q n f e H (⟨some d,.call ⟨.builtin .append, #[s,x], #[sT,sT]⟩,ty,pos,af,none⟩::rest):=by
 obtain ⟨y2,p',l',c',e1,h2,h3⟩:=hx
 cases e1
 have hl:zs.length=m:=by have:=h2.sl.1;simpa using this
 refine j_append i hy hO.hT hO.ho hO.hw hu hu (.inl ⟨_,rfl⟩) hT hby hs hxv hO.sl (lenOf_slice _ _ _) (fun w w1 hH hf k=>?_) (by simp[hl]) (by simpa[List.all_eq_true]using hsc) hbig hd fun y' p' c' h1 h2 h3 h4=>k y' p' c' ⟨h1,h2,h3,h4⟩
 obtain ⟨-, -,h4⟩:=h2.sl
 rcases h4 with ⟨h5,h6,⟨ex,h7⟩, -⟩|⟨h5,h6,h7⟩
 ·subst h6
  have hb:Blk w1 y2.b T y2.cs:=k _ _ (ok_blk hf (h3 h5) hW)
  exact fc_blk hb (by rw[List.drop_zero,h7,Nat.mul_one, ← hl,List.take_append_of_le_length (Nat.le_refl _),List.take_length]) (by simp[hl])
 ·subst h6
  have:m=0:=by have:=h2.sl.2.1;omega
  subst this
  rw[List.eq_nil_of_length_eq_zero hl]
  rfl
end
section
variable {Q:Exit→Act→World→Prop} {n:Nat} {f:Fm} {e:Env} {H:Heap} {ops:Array Oper} {rest:List Oper} {d ty:Nat} {pos:String} {af:Array Edge}
theorem j_sorted {F:Nat} {fv:Value} {y:Ent} {xs:List LbE} {args:Array Operand} {tys:Array TypeId} (i:Nat) (hi:H[i]? =some y) (hO:Own T 2 y p l c (xs.flatMap encL))
  (hg:∀(az:Array Value) (w:World),(callFunc F az).run Tryz.prog w=.ok (.enter F az) w)
  (hc:∀w,(y.on=true→Blk w y.b T y.cs)→Calls Tryz.prog F #[.slice p l c,fv] w (Ret fun _ w'=>∃ys:List LbE,ys.Perm xs∧(ys.map (·.1)).Pairwise (fun a b=>ltB a b=true)∧((w'=w∧Own T 2 y p l c (ys.flatMap encL))∨y.on=true∧∃cs',Own T 2 { y with cs:=cs' } p l c (ys.flatMap encL)∧Blk w' y.b T cs'∧KeepX [y.b] w w')))
  (hargs:evL e args.toList=some [.slice p l c,fv]) (hd:Nat.blt d n=true)
  (k:∀v y' (ys:List LbE),ys.Perm xs→(ys.map (·.1)).Pairwise (fun a b=>ltB a b=true)→Own T 2 y' p l c (ys.flatMap encL)→J Tryz.prog ops Q n f ((d,v)::e) (putH H i y') rest):
  J Tryz.prog ops Q n f e H (⟨some d,.call ⟨.value (.func F),args,tys⟩,ty,pos,af,none⟩::rest):=
 j_callE (R:=fun w _ w'=>∃ys:List LbE,ys.Perm xs∧(ys.map (·.1)).Pairwise (fun a b=>ltB a b=true)∧((w'=w∧Own T 2 y p l c (ys.flatMap encL))∨y.on=true∧∃cs',Own T 2 { y with cs:=cs' } p l c (ys.flatMap encL)∧Blk w' y.b T cs'∧KeepX [y.b] w w')) hg hargs hd (fun w hH _=>hc w fun ho=>by have:=hH.get hi ho;rwa [hO.hT]at this) fun w v w' hH hf hR=>by
  obtain ⟨ys,hp,hpw,hR⟩:=hR
  rcases hR with ⟨rfl,h1⟩|⟨hon,cs',h1,h2,h3⟩
  ·exact k v y ys hp hpw h1 w' (by rw[putH_self hi];exact hH) hf
  ·have hm:=hH.may (List.mem_of_getElem? hi) hon hO.hw
   have hex:y.ex=true:=by simp[Ent.ex,hon]
   rw[hO.hT]at hm
   refine k v _ ys hp hpw h1 w' (hH.putX hi hex rfl (fun _ _=>by rw[h1.tag];exact hm) h3 ⟨fun _=>by simp only[hO.hT];exact h2,fun o ho=>by simp only[hO.ho]at ho;cases ho⟩) (okK hf h3 hm fun o ho=>?_)
   have h4:=hH.get hi hon
   rw[hO.hT]at h4
   have h5:w.heap[y.b]? =some (.cells y.cs.toArray T (0,0)):=h4
   rw[ho]at h5;cases h5;rfl
end
theorem keys_of {qs:List LbE} {xs:List MapEntry} {ks:List ByteArray} (h:xs.map (·.key)=qs.map fun q=>Value.string q.1) (hk:xs.map (·.key)=ks.map .string):qs.map (·.1)=ks:=by
 rw[h]at hk
 have h2:(qs.map (·.1)).map Value.string=ks.map .string:=by rw[← hk];simp
 exact map_inj_string h2
theorem sm_parts {locs:List Nat} {b:Nat} (h:SamQ w locs b s):∃ls vs m1 m2 iv xv es1 ck1 ms1 es2 ck2 ms2,Blk w b tSam [ls,vs,.map m1,.map m2,.map none,iv,xv]∧LabY tStr .string w (fT s) m1 es1 ck1 ms1∧LabY tI64 (.int .i64) w (fN s) m2 es2 ck2 ms2:=by
 obtain ⟨ls,vs,lm,nm,iv,xv,h1, -, -,h4,h5, -⟩:=h
 obtain ⟨m1,es1,ck1,ms1,rfl,h6⟩:=h4.y
 obtain ⟨m2,es2,ck2,ms2,rfl,h7⟩:=h5.y
 exact ⟨ls,vs,m1,m2,iv,xv,es1,ck1,ms1,es2,ck2,ms2,h1,h6,h7⟩
theorem lay_texts {ys:List LbE} (hLab:LabP s) (hO:OS tTx 2 w v (ys.flatMap encL)) (hpw:(ys.map (·.1)).Pairwise fun a b=>ltB a b=true) (hk:∀k,k∈ys.map (·.1)↔fT s k≠[]) (hC:∀q∈ys,q.2.2.1=(fT s q.1).length∧OS tStr 1 w (.slice q.2.1 q.2.2.1 q.2.2.2) ((fT s q.1).map .string)):Lay RTexts 2 w v s.texts:=by
 have e1:ys.map (·.1)=s.texts.map (·.key):=asc_eq hpw hLab.tpw fun k=>by
  rw[hk]
  constructor
  ·intro h
   obtain ⟨t,ht,e⟩:=fT_key h
   exact e▸List.mem_map_of_mem ht
  ·intro h
   obtain ⟨t,ht,rfl⟩:=List.mem_map.1 h
   rw[fT_mem hLab ht];exact (hLab.tl t ht).1
 have e2:(ys.map fun q=>(⟨q.1,fT s q.1⟩:PTexts))=s.texts:=by
  have h:=congrArg (List.map fun k=>(⟨k,fT s k⟩:PTexts)) e1
  simp only[List.map_map]at h
  refine h.trans ((List.map_congr_left fun t ht=>?_).trans (List.map_id _))
  show (⟨t.key,fT s t.key⟩:PTexts)=t
  rw[fT_mem hLab ht]
 refine lay_of_os (f:=fun q=>(⟨q.1,fT s q.1⟩:PTexts)) hO e2 (fun _=>rfl) (by omega) (fun q hq=>⟨_,rfl,?_⟩) (by have:=hLab.tlen;omega)
 have hm:(⟨q.1,fT s q.1⟩:PTexts)∈s.texts:=by rw[← e2];exact List.mem_map_of_mem (f:=fun q:LbE=>(⟨q.1,fT s q.1⟩:PTexts)) hq
 have h60:=(hLab.tl _ hm).2.1
 simp only at h60
 exact lay_of_os1 (hC q hq).2 (fun _ _=>rfl) (show (fT s q.1).length≤1000000000 by omega)
theorem lay_nums {ys:List LbE} (hLab:LabP s) (hr:∀t∈s.nums,∀n∈t.list,IntKind.i64.wrap n=n) (hO:OS tNu 2 w v (ys.flatMap encL)) (hpw:(ys.map (·.1)).Pairwise fun a b=>ltB a b=true) (hk:∀k,k∈ys.map (·.1)↔fN s k≠[]) (hC:∀q∈ys,q.2.2.1=(fN s q.1).length∧OS tI64 1 w (.slice q.2.1 q.2.2.1 q.2.2.2) ((fN s q.1).map (.int .i64))):Lay RNums 2 w v s.nums:=by
 have e1:ys.map (·.1)=s.nums.map (·.key):=asc_eq hpw hLab.npw fun k=>by
  rw[hk]
  constructor
  ·intro h
   obtain ⟨t,ht,e⟩:=fN_key h
   exact e▸List.mem_map_of_mem ht
  ·intro h
   obtain ⟨t,ht,rfl⟩:=List.mem_map.1 h
   rw[fN_mem hLab ht];exact (hLab.nl t ht).1
 have e2:(ys.map fun q=>(⟨q.1,fN s q.1⟩:PNums))=s.nums:=by
  have h:=congrArg (List.map fun k=>(⟨k,fN s k⟩:PNums)) e1
  simp only[List.map_map]at h
  refine h.trans ((List.map_congr_left fun t ht=>?_).trans (List.map_id _))
  show (⟨t.key,fN s t.key⟩:PNums)=t
  rw[fN_mem hLab ht]
 refine lay_of_os (f:=fun q=>(⟨q.1,fN s q.1⟩:PNums)) hO e2 (fun _=>rfl) (by omega) (fun q hq=>⟨_,rfl,?_⟩) (by have:=hLab.nlen;omega)
 have hm:(⟨q.1,fN s q.1⟩:PNums)∈s.nums:=by rw[← e2];exact List.mem_map_of_mem (f:=fun q:LbE=>(⟨q.1,fN s q.1⟩:PNums)) hq
 have h60:=(hLab.nl _ hm).2
 simp only at h60
 exact lay_of_os1 (hC q hq).2 (fun n hn=>⟨rfl,hr _ hm n hn⟩) (show (fN s q.1).length≤1000000000 by omega)
theorem clo_fin {α:Type} {enc:α→Value} {fn:ByteArray→List α} {qs ys:List LbE} {R H:Heap} (h:Clo T enc fn qs R) (hs:∀z∈R,z∈H) (hH:Hp f w H) (hp:ys.Perm qs):∀q∈ys,q.2.2.1=(fn q.1).length∧OS T 1 w (.slice q.2.1 q.2.2.1 q.2.2.2) ((fn q.1).map enc):=fun q hq=>by
 obtain ⟨z,hz,h1,h2⟩:=h q (hp.mem_iff.1 hq)
 exact ⟨h1,z,_,_,_,rfl,h2,fun ho=>by have:=hH.blk (hs z hz) ho;rw[h2.hT]at this;exact this⟩
def TxV (w:World) (v:Value) (s:PSample):Prop:=∃ys:List LbE,OS tTx 2 w v (ys.flatMap encL)∧(ys.map (·.1)).Pairwise (fun a b=>ltB a b=true)∧(∀k,k∈ys.map (·.1)↔fT s k≠[])∧∀q∈ys,q.2.2.1=(fT s q.1).length∧OS tStr 1 w (.slice q.2.1 q.2.2.1 q.2.2.2) ((fT s q.1).map .string)
def NuV (w:World) (v:Value) (s:PSample):Prop:=∃ys:List LbE,OS tNu 2 w v (ys.flatMap encL)∧(ys.map (·.1)).Pairwise (fun a b=>ltB a b=true)∧(∀k,k∈ys.map (·.1)↔fN s k≠[])∧∀q∈ys,q.2.2.1=(fN s q.1).length∧OS tI64 1 w (.slice q.2.1 q.2.2.1 q.2.2.2) ((fN s q.1).map (.int .i64))
theorem TxV.mono (h:TxV w v s) (k1:∀b cs,Blk w b tTx cs→Blk w' b tTx cs) (k2:∀b cs,Blk w b tStr cs→Blk w' b tStr cs):TxV w' v s:=by
 obtain ⟨ys,h1,h2,h3,h4⟩:=h
 exact ⟨ys,h1.mono k1,h2,h3,fun q hq=>⟨(h4 q hq).1,(h4 q hq).2.mono k2⟩⟩
theorem NuV.mono (h:NuV w v s) (k1:∀b cs,Blk w b tNu cs→Blk w' b tNu cs) (k2:∀b cs,Blk w b tI64 cs→Blk w' b tI64 cs):NuV w' v s:=by
 obtain ⟨ys,h1,h2,h3,h4⟩:=h
 exact ⟨ys,h1.mono k1,h2,h3,fun q hq=>⟨(h4 q hq).1,(h4 q hq).2.mono k2⟩⟩
set_option maxHeartbeats 1000000 in
theorem labels_c (w:World) (locs:List Nat) (b:Nat) (s:PSample) (h:SamQ w locs b s) (hLab:LabP s):
  Calls Tryz.prog 69 #[ptr b] w (Ret fun v w'=>(∃vt vn,v=.tuple #[vt,vn]∧TxV w' vt s∧NuV w' vn s)∧Fr 0 [] w w'):=by
 obtain ⟨ls,vs,m1,m2,iv,xv,es1,ck1,ms1,es2,ck2,ms2,hb,hT,hN⟩:=sm_parts h
 have hl1:es1.length≤60:=Nat.le_trans (hT.len fun k=>fT_key) hLab.tlen
 have hl2:es2.length≤60:=Nat.le_trans (hN.len fun k=>fN_key) hLab.nlen
 have hbt:∀k,fT s k≠[]→(fT s k).length≤60:=fun k hk=>by
  obtain ⟨t,ht,rfl⟩:=fT_key hk
  rw[fT_mem hLab ht];exact (hLab.tl t ht).2.1
 have hbn:∀k,fN s k≠[]→(fN s k).length≤60:=fun k hk=>by
  obtain ⟨t,ht,rfl⟩:=fN_key hk
  rw[fN_mem hLab ht];exact (hLab.nl t ht).2
 have hM1:∀w',Fm.ok ⟨w,0,[]⟩ w'→MapAt w' m1 es1 ck1:=fun w' hf=>hT.at_.keep fun b es ck h=>fr_map hf rfl _ _ h
 have hM2:∀w',Fm.ok ⟨w,0,[]⟩ w'→MapAt w' m2 es2 ck2:=fun w' hf=>hN.at_.keep fun b es ck h=>fr_map hf rfl _ _ h
 have hc0:=mc (f:=⟨w,0,[]⟩) hb rfl
 refine startJ (args:=[_]) [(0,_)] 0 [] [] func69 rfl ntmps69 rfl rfl .nil ?_
 refine cj_seqF fun K1 hK1=>cj_reg (jA (k:=jA (k:=j_nil (ej_then (hK1 _ _ _ ?_)))))
 refine cj_seqF fun K2 hK2=>cj_reg (jA (k:=j_nil (ej_then (hK2 _ _ _ (sQ fun K3=>cj_reg (jA (k:=K3 (sQ fun K4=>sQ fun K5=>cj_reg (jM (k:=jN (k:=?_)))))))))))
 refine jF 2 ru147 so143 (k:=jL ag143 hc0 2 (k:=?_))
 refine j_rangeM ru143 (fun w' hH hf=>hM1 w' hf) rfl rfl fun it1=>?_
 refine K5 (cj_block ?_)
 refine cj_loop (σ:=List Nat×List MapEntry×List LbE×Ent×Option Addr×Nat×Heap) (fun s=>[(0,ptr b),(4,.slice s.2.2.2.2.1 s.2.2.1.length s.2.2.2.2.2.1),(5,.slice none 0 0),(14,ptr it1)])
  (fun s=>s.2.2.2.1::itM it1 m1 ck1 s.1 ck1::s.2.2.2.2.2.2) (fun s' _=>Vis es1 s'.2.1 s'.1∧s'.2.1.map (·.key)=(s'.2.2.1.map fun q=>Value.string q.1)∧Own tTx 2 s'.2.2.2.1 s'.2.2.2.2.1 s'.2.2.1.length s'.2.2.2.2.2.1 (s'.2.2.1.flatMap encL)∧Clo tStr .string (fT s) s'.2.2.1 s'.2.2.2.2.2.2) (fun s=>es1.length - s.1.length)
  ([],[],[],nilE tTx,none,0,[]) sR (fun w' hH hf=>⟨hH.off,Vis.nil,rfl,Own.nil,Clo.nil⟩) ?_
 rintro ⟨seen,xs,qs,y,p,c,R⟩ wA ⟨hV,hK,hO,hC⟩ hfA hHA KLA hKLA
 try dsimp only at hV hK hO hC
 have hql:qs.length=seen.length:=by
  have h1:=congrArg List.length hV.sn
  have h2:=congrArg List.length hK
  simp at h1 h2;omega
 have hsl:=hV.len hT.menc.born
 refine C.begin _ _ hfA hHA ?_
 try dsimp only
 refine sQ fun K6=>cj_reg ?_
 refine j_nextM 1 rfl (fun w' hH hf=>hM1 w' hf) hT.menc.lt (Nat.le_refl _) rfl rfl (fun hall=>?_) (fun xe hxe hns=>?_)
 ·refine jX (k:=K6 (sQ fun K7=>?_))
  refine cj_if_f rfl (cj_exit (K4 (sQ fun K8=>sQ fun K9=>cj_reg (jM (k:=jN (k:=jF 3 ru147 so144 (k:=jL ag144 hc0 3 (k:=?_))))))))
  have hV1:=hV
  have hK1:=hK
  have hO1:=hO
  have hC1:=hC
  have hall1:=hall
  obtain ⟨ks1,hks1,hkn1,hkm1⟩:=hV.keys hT.menc hall
  have hqk1:=keys_of hK hks1
  refine j_rangeM ru144 (fun w' hH hf=>hM2 w' hf) rfl rfl fun it2=>?_
  refine K9 (cj_block ?_)
  refine cj_loop (σ:=List Nat×List MapEntry×List LbE×Ent×Option Addr×Nat×Heap) (fun s=>[(4,.slice p qs.length c),(5,.slice s.2.2.2.2.1 s.2.2.1.length s.2.2.2.2.2.1),(32,ptr it2)])
   (fun s=>s.2.2.2.1::itM it2 m2 ck2 s.1 ck2::y::s.2.2.2.2.2.2) (fun s' _=>Vis es2 s'.2.1 s'.1∧s'.2.1.map (·.key)=(s'.2.2.1.map fun q=>Value.string q.1)∧Own tNu 2 s'.2.2.2.1 s'.2.2.2.2.1 s'.2.2.1.length s'.2.2.2.2.2.1 (s'.2.2.1.flatMap encL)∧Clo tI64 (.int .i64) (fN s) s'.2.2.1 s'.2.2.2.2.2.2∧∀z∈R,z∈s'.2.2.2.2.2.2) (fun s=>es2.length - s.1.length)
   ([],[],[],nilE tNu,none,0,itM it1 m1 ck1 seen ck1::R) sR (fun w' hH hf=>⟨hH.off,Vis.nil,rfl,Own.nil,Clo.nil,fun z hz=>List.mem_cons_of_mem _ hz⟩) ?_
  rintro ⟨seen2,xs2,qs2,y2,p2,c2,R2⟩ wB ⟨hV2,hK2,hO2,hC2,hR2⟩ hfB hHB KLB hKLB
  try dsimp only at hV2 hK2 hO2 hC2 hR2
  have hql2:qs2.length=seen2.length:=by
   have h1:=congrArg List.length hV2.sn
   have h2:=congrArg List.length hK2
   simp at h1 h2;omega
  have hsl2:=hV2.len hN.menc.born
  refine C.begin _ _ hfB hHB ?_
  try dsimp only
  refine sQ fun K10=>cj_reg ?_
  refine j_nextM 1 rfl (fun w' hH hf=>hM2 w' hf) hN.menc.lt (Nat.le_refl _) rfl rfl (fun hall=>?_) (fun xe hxe hns=>?_)
  ·refine jX (k:=K10 (sQ fun K11=>?_))
   refine cj_if_f rfl (cj_exit (K8 (sQ fun K12=>cj_reg (jM (k:=?_)))))
   obtain ⟨ks2,hks2,hkn2,hkm2⟩:=hV2.keys hN.menc hall
   have hqk2:=keys_of hK2 hks2
   refine j_sorted (F:=98) 2 rfl hO1 call98 (fun w hb=>sortL_c Tryz.sortTx ag109 so109 call99 (fun x y W=>clo1_c x.1 y.1 _ _ _ _ _ _ W) w y p qs.length c qs hO1 hb (by rw[hqk1];exact hkn1) (by omega)) rfl rfl fun v1 y1 ys1 hp1 hpw1 hOs1=>?_
   refine K12 (sQ fun K13=>cj_reg (jM (k:=?_)))
   refine j_sorted (F:=101) 0 rfl hO2 call101 (fun w hb=>sortL_c Tryz.sortNu ag112 so112 call102 (fun x y W=>clo2_c x.1 y.1 _ _ _ _ _ _ W) w y2 p2 qs2.length c2 qs2 hO2 hb (by rw[hqk2];exact hkn2) (by omega)) rfl rfl fun v2 y3 ys2 hp2 hpw2 hOs2=>?_
   refine K13 (sQ fun K14=>cj_reg (jM (k:=jM (k:=jA (k:=jA (k:=K14 (CJ.t [(2,_),(3,_)] (k:=cj_ret ?_))))))))
   exact ej_ret2 results69 rfl rfl fun w' hH hf=>⟨⟨_,_,rfl,⟨ys1,hOs1.os hH (i:=2) rfl,hpw1,fun k=>by rw[(hp1.map _).mem_iff,hqk1,hkm1,hT.keys],clo_fin hC1 (fun z hz=>by simp[putH];exact .inr (.inr (.inr (hR2 z hz)))) hH hp1⟩,⟨ys2,hOs2.os hH (i:=0) rfl,hpw2,fun k=>by rw[(hp2.map _).mem_iff,hqk2,hkm2,hN.keys],clo_fin hC2 (fun z hz=>by simp[putH];exact .inr (.inr (.inr hz))) hH hp2⟩⟩,hf⟩
  ·refine jX (k:=K10 (sQ fun K15=>?_))
   refine cj_if_t rfl (cj_skip (K15 (cj_block (sQ fun K16=>cj_reg (j_valw rfl (fun a w ha hH hf=>r_entryM 1 rfl (fun w' hH hf=>hM2 w' hf) rfl hxe hN.menc.born ha hH hf) (jX (k:=?_)))))))
   obtain ⟨k,pv,cv,hxk,hfk,hxv,hov⟩:=hN.entry hxe
   refine j_eqv hxk ?_
   refine jX (k:=?_)
   refine j_eqv hxv ?_
   refine jA (k:=jA (k:=K16 (cj_reg (jM (k:=jM (k:=?_))))))
   refine j_bslice0 ru53 so2 rfl fun b40=>jM (k:=?_)
   refine j_appS 0 rfl Own.empty ru53 el2 rfl rfl rfl hov rfl (fun z hz=>by obtain ⟨u, -,rfl⟩:=List.mem_map.1 hz;rfl) (by have:=hbn k hfk;omega) rfl fun y42 p42 c42 hO42=>?_
   refine j_val rfl (fun _ _ h=>r_build (cs:=[_,_]) bt112 rfl rfl h) (j_bslice1 ru55 so112 zv112 rfl rfl rfl rfl rfl fun b44=>?_)
   refine j_appO 1 rfl hO2 ru55 el112 rfl rfl rfl rfl rfl (by omega) rfl fun y45 p45 c45 hO45=>?_
   refine jA (k:=j_nil (ej_blk (ej_then ?_)))
   have hlt:seen2.length<es2.length:=by
    have:=(hV2.push hxe hns).len hN.menc.born
    simp at this;omega
   exact fun w' hH hf=>hKLB (seen2++[xe.born],xs2++[xe],qs2++[(k,p42,0+(fN s k).length,c42)],y45,p45,c45,y42::R2) _ w' ⟨hV2.push hxe hns,by simp[hK2,hxk],by simpa[encL,Value.cells]using hO45,by rw[Nat.zero_add]at hO42⊢;exact hC2.push (fun z hz=>List.mem_cons_of_mem _ hz) (List.Mem.head _) (by simpa using hO42),fun z hz=>List.mem_cons_of_mem _ (hR2 z hz)⟩ hf (Hp.rot4 hH) (by simp only[List.length_append,List.length_singleton];omega) ⟨rfl,by simp only[List.length_append,List.length_singleton];rfl,rfl,trivial⟩
 ·refine jX (k:=K6 (CJ.t [(0,_),(4,_),(5,_),(14,_),(16,_)] (k:=sQ fun K17=>?_)))
  refine cj_if_t rfl (cj_skip (K17 (cj_block (sQ fun K18=>cj_reg (j_valw rfl (fun a w ha hH hf=>r_entryM 1 rfl (fun w' hH hf=>hM1 w' hf) rfl hxe hT.menc.born ha hH hf) (jX (k:=?_)))))))
  obtain ⟨k,pv,cv,hxk,hfk,hxv,hov⟩:=hT.entry hxe
  refine j_eqv hxk ?_
  refine jX (k:=?_)
  refine j_eqv hxv ?_
  refine jA (k:=jA (k:=K18 (cj_reg (jM (k:=jM (k:=?_))))))
  refine j_bslice0 ru27 so9 rfl fun b22=>jM (k:=?_)
  refine j_appS 0 rfl Own.empty ru27 el9 rfl rfl rfl hov rfl (fun z hz=>by obtain ⟨u, -,rfl⟩:=List.mem_map.1 hz;rfl) (by have:=hbt k hfk;omega) rfl fun y24 p24 c24 hO24=>?_
  refine j_val rfl (fun _ _ h=>r_build (cs:=[_,_]) bt109 rfl rfl h) (j_bslice1 ru54 so109 zv109 rfl rfl rfl rfl rfl fun b26=>?_)
  refine j_appO 1 rfl hO ru54 el109 rfl rfl rfl rfl rfl (by omega) rfl fun y27 p27 c27 hO27=>?_
  refine jA (k:=j_nil (ej_blk (ej_then ?_)))
  have hlt:seen.length<es1.length:=by
   have:=(hV.push hxe hns).len hT.menc.born
   simp at this;omega
  exact fun w' hH hf=>hKLA (seen++[xe.born],xs++[xe],qs++[(k,p24,0+(fT s k).length,c24)],y27,p27,c27,y24::R) _ w' ⟨hV.push hxe hns,by simp[hK,hxk],by simpa[encL,Value.cells]using hO27,by rw[Nat.zero_add]at hO24⊢;exact hC.push (fun z hz=>List.mem_cons_of_mem _ hz) (List.Mem.head _) (by simpa using hO24)⟩ hf (Hp.rot3 hH) (by simp only[List.length_append,List.length_singleton];omega) ⟨rfl,by simp only[List.length_append,List.length_singleton];rfl,rfl,rfl,trivial⟩
end Go.Proofs.YtifdadlhmlhfiaaGreatDoor
namespace Go.Fw
open Go
section
variable {P:Program} {n:Nat} {e:Env} {d ty:Nat} {pos:String} {af:Array Edge}
theorem run_eqIn_np (dd t:Nat) (q:Addr) {te:TypeId} (hu:P.underlying t=some (.pointer te)) (w:World):(Op.equalIn (dd+1) t (.pointer none) (.pointer (some q))).run P w=.ok false w:=by
 simp[Op.equalIn,run_underlying hu]
theorem r_peqN {t t':Nat} {x y:Operand} {q:Addr} {te:TypeId} (hu:P.underlying t=some (.pointer te)) (hx:ev e x=some (.pointer none)) (hy:ev e y=some (.pointer (some q))) {a:Act} {w:World} (ha:Sat n e a):
  (execOp a.eval ⟨some d,.binOp .eql t x y t',ty,pos,af,none⟩).run P w=.ok (.value (.bool false)) w:=by
 have h:(binOp .eql t (.pointer none) (.pointer (some q))).run P w=.ok (.bool false) w:=by
  simp only[binOp]
  simp[Op.equal,Op.maxDepth,run_eqIn_np 9999 t q hu]
 simp only[execOp,ha.ev hx,ha.ev hy]
 simp[eqGuard,h]
end
end Go.Fw
namespace Go.Proofs.YtifdadlhmlhfiaaGreatDoor
open Go Go.Fw Go.Proofs Go.Proofs.Tryz
section
variable {P:Program} {n:Nat} {e:Env} {d ty:Nat} {pos:String} {af:Array Edge}
theorem r_peqAt {t t' T i b:Nat} {x y:Operand} {te:TypeId} {j:TypeInfo} {bs:List Nat} {z:Int} (hu:P.underlying t=some (.pointer te)) (hj:P.info? te=some j) (hs:j.size≠0) (hx:ev e x=some (ptrAt bs z)) (hy:ev e y=some (ptr b)) (hb:bs[i]? =some b) (hn:bs.Nodup) (hz:z<bs.length) {a:Act} {w:World} (hB:∀c∈bs,∃cs,Blk w c T cs) (ha:Sat n e a):
  (execOp a.eval ⟨some d,.binOp .eql t x y t',ty,pos,af,none⟩).run P w=.ok (.value (.bool (decide (z=i)))) w:=by
 have hi:=(List.getElem?_eq_some_iff.1 hb).1
 by_cases h:0≤z
 ·have hzl:z.toNat<bs.length:=by omega
  have e1:ptrAt bs z=ptr bs[z.toNat]:=by unfold ptrAt;rw[if_pos h,List.getElem?_eq_getElem hzl];rfl
  rw[e1]at hx
  obtain ⟨cs1,h1⟩:=hB _ (List.getElem_mem hzl)
  obtain ⟨cs2,h2⟩:=hB _ (List.mem_of_getElem? hb)
  rw[r_peql hu hj hs hx hy h1 h2 ha]
  have e2:b=bs[i]:=(List.getElem?_eq_some_iff.1 hb).2.symm
  congr 3
  rw[Bool.eq_iff_iff,decide_eq_true_eq,decide_eq_true_eq,e2]
  constructor
  ·intro e3;have:=nodup_ix hn hzl hi e3;omega
  ·intro e3;subst e3;congr 1
 ·have e1:ptrAt bs z=.pointer none:=by unfold ptrAt;rw[if_neg h]
  rw[e1]at hx
  rw[r_peqN hu hx hy ha]
  congr 3
  rw[eq_comm,decide_eq_false_iff_not]
  omega
end
set_option maxHeartbeats 1000000 in
theorem idxM_c (w:World) (bs:List Nat) (tv:Value) (z:Int) (hO:OS pMap 1 w tv (bs.map ptr)) (hB:∀b∈bs,∃cs,Blk w b tMap cs) (hn:bs.Nodup) (h1: -1≤z) (h2:z<bs.length) (hl:bs.length≤1000000):
  Calls Tryz.prog 66 #[tv,ptrAt bs z] w (Ret fun v w'=>v=.int .i64 z∧Fr 0 [] w w'):=by
 obtain ⟨p,l,c,rfl,hll, -,hx⟩:=hO.openF
 obtain rfl:l=bs.length:=by simpa using hll.symm
 refine startJ (args:=[_,_]) [(0,_),(1,_)] 0 [] [] Tryz.func66 rfl Tryz.ntmps66 rfl rfl .nil ?_
 refine sQ fun K1=>cj_reg (jA (k:=K1 (sQ fun K2=>sQ fun K3=>cj_reg (jM (k:=jE ru120 (k:=jM (k:=K3 (cj_block ?_))))))))
 refine cj_loop (σ:=Nat) (fun s=>[(0,.slice p bs.length c),(1,ptrAt bs z),(7,.int .i64 (bs.length:Nat)),(8,.int .i64 (s:Nat))]) (fun _=>[]) (fun s _=>s≤bs.length∧(z<0∨(s:Int)≤z)) (fun s=>bs.length - s) 0 sR (fun w' hH hf=>⟨hH,Nat.zero_le _,by omega⟩) ?_
 rintro k wk ⟨hk,hkz⟩ hfk hHk KL hKL
 try dsimp only at hk hkz
 refine C.begin _ _ hfk hHk ?_
 try dsimp only
 refine sQ fun K4=>cj_reg (jS (k:=K4 (sQ fun K5=>?_)))
 refine cj_dec rfl (fun h9=>?_) (fun h9=>?_)
 ·have hk':k<bs.length:=by omega
  obtain ⟨bq,rfl,hsq⟩:=hx (by omega)
  have hcell:∀w',Fm.ok ⟨w,0,[]⟩ w'→w'.cell? ⟨bq,0+k*1,none⟩=some (ptr bs[k]):=fun w' hf=>by
   have h:=hsq ⟨w,0,[]⟩ rfl rfl w' hf k (ptr bs[k]) (by rw[List.getElem?_map,List.getElem?_eq_getElem hk'];rfl)
   simpa using h
  refine cj_skip (K5 (sQ fun K6=>cj_block (sQ fun K7=>cj_reg (jM (k:=jA (k:=K7 (sQ fun K8=>cj_reg (jM (k:=jM (k:=jM (k:=jJ ru120 so128 (k:=?_))))))))))))
  refine j_valw rfl (fun a w ha hH hf=>r_load ag128 rfl (hcell w hf) ha) ?_
  refine j_valw rfl (fun a w ha hH hf=>r_peqAt (i:=k) (T:=tMap) ud128 nf130 ns130 rfl rfl (List.getElem?_eq_getElem hk') hn h2 (fun c hc=>by obtain ⟨cs,h⟩:=hB c hc;exact ⟨cs,fr_row hf rfl _ _ h⟩) ha) ?_
  refine K8 ?_
  refine cj_dec rfl (fun hq=>?_) (fun hq=>?_)
  ·refine sQ fun K9=>cj_reg (jM (k:=jA (k:=K9 (CJ.t [(4,_)] (k:=cj_ret ?_)))))
   first
    |exact ej_ret1 Tryz.results66 rfl fun w' hH hf=>⟨by rw[hq],hf⟩
    |exact ej_ret1 Tryz.results66 rfl fun w' hH hf=>⟨by rw[hz],hf⟩
  ·refine cj_skip (K6 (cj_reg (jI (k:=jM (k:=j_nil (ej_then ?_))))))
   exact fun w' hH hf=>hKL (k+1) _ w' ⟨hk',by omega⟩ hf hH (by first|omega|(simp only;omega)) sR
 ·have hz:z= -1:=by omega
  refine cj_exit (K2 (sQ fun K10=>cj_reg (jA (k:=K10 (cj_ret ?_)))))
  first
   |exact ej_ret1 Tryz.results66 rfl fun w' hH hf=>⟨by rw[hq],hf⟩
   |exact ej_ret1 Tryz.results66 rfl fun w' hH hf=>⟨by rw[hz],hf⟩
set_option maxHeartbeats 1000000 in
theorem idxF_c (w:World) (bs:List Nat) (tv:Value) (z:Int) (hO:OS pFun 1 w tv (bs.map ptr)) (hB:∀b∈bs,∃cs,Blk w b tFun cs) (hn:bs.Nodup) (h1: -1≤z) (h2:z<bs.length) (hl:bs.length≤1000000):
  Calls Tryz.prog 67 #[tv,ptrAt bs z] w (Ret fun v w'=>v=.int .i64 z∧Fr 0 [] w w'):=by
 obtain ⟨p,l,c,rfl,hll, -,hx⟩:=hO.openF
 obtain rfl:l=bs.length:=by simpa using hll.symm
 refine startJ (args:=[_,_]) [(0,_),(1,_)] 0 [] [] Tryz.func67 rfl Tryz.ntmps67 rfl rfl .nil ?_
 refine sQ fun K1=>cj_reg (jA (k:=K1 (sQ fun K2=>sQ fun K3=>cj_reg (jM (k:=jE ru122 (k:=jM (k:=K3 (cj_block ?_))))))))
 refine cj_loop (σ:=Nat) (fun s=>[(0,.slice p bs.length c),(1,ptrAt bs z),(7,.int .i64 (bs.length:Nat)),(8,.int .i64 (s:Nat))]) (fun _=>[]) (fun s _=>s≤bs.length∧(z<0∨(s:Int)≤z)) (fun s=>bs.length - s) 0 sR (fun w' hH hf=>⟨hH,Nat.zero_le _,by omega⟩) ?_
 rintro k wk ⟨hk,hkz⟩ hfk hHk KL hKL
 try dsimp only at hk hkz
 refine C.begin _ _ hfk hHk ?_
 try dsimp only
 refine sQ fun K4=>cj_reg (jS (k:=K4 (sQ fun K5=>?_)))
 refine cj_dec rfl (fun h9=>?_) (fun h9=>?_)
 ·have hk':k<bs.length:=by omega
  obtain ⟨bq,rfl,hsq⟩:=hx (by omega)
  have hcell:∀w',Fm.ok ⟨w,0,[]⟩ w'→w'.cell? ⟨bq,0+k*1,none⟩=some (ptr bs[k]):=fun w' hf=>by
   have h:=hsq ⟨w,0,[]⟩ rfl rfl w' hf k (ptr bs[k]) (by rw[List.getElem?_map,List.getElem?_eq_getElem hk'];rfl)
   simpa using h
  refine cj_skip (K5 (sQ fun K6=>cj_block (sQ fun K7=>cj_reg (jM (k:=jA (k:=K7 (sQ fun K8=>cj_reg (jM (k:=jM (k:=jM (k:=jJ ru122 so131 (k:=?_))))))))))))
  refine j_valw rfl (fun a w ha hH hf=>r_load ag131 rfl (hcell w hf) ha) ?_
  refine j_valw rfl (fun a w ha hH hf=>r_peqAt (i:=k) (T:=tFun) ud131 nf133 ns133 rfl rfl (List.getElem?_eq_getElem hk') hn h2 (fun c hc=>by obtain ⟨cs,h⟩:=hB c hc;exact ⟨cs,fr_row hf rfl _ _ h⟩) ha) ?_
  refine K8 ?_
  refine cj_dec rfl (fun hq=>?_) (fun hq=>?_)
  ·refine sQ fun K9=>cj_reg (jM (k:=jA (k:=K9 (CJ.t [(4,_)] (k:=cj_ret ?_)))))
   first
    |exact ej_ret1 Tryz.results67 rfl fun w' hH hf=>⟨by rw[hq],hf⟩
    |exact ej_ret1 Tryz.results67 rfl fun w' hH hf=>⟨by rw[hz],hf⟩
  ·refine cj_skip (K6 (cj_reg (jI (k:=jM (k:=j_nil (ej_then ?_))))))
   exact fun w' hH hf=>hKL (k+1) _ w' ⟨hk',by omega⟩ hf hH (by first|omega|(simp only;omega)) sR
 ·have hz:z= -1:=by omega
  refine cj_exit (K2 (sQ fun K10=>cj_reg (jA (k:=K10 (cj_ret ?_)))))
  first
   |exact ej_ret1 Tryz.results67 rfl fun w' hH hf=>⟨by rw[hq],hf⟩
   |exact ej_ret1 Tryz.results67 rfl fun w' hH hf=>⟨by rw[hz],hf⟩
set_option maxHeartbeats 1000000 in
theorem idxL_c (w:World) (bs:List Nat) (tv:Value) (z:Int) (hO:OS pLoc 1 w tv (bs.map ptr)) (hB:∀b∈bs,∃cs,Blk w b tLoc cs) (hn:bs.Nodup) (h1: -1≤z) (h2:z<bs.length) (hl:bs.length≤1000000):
  Calls Tryz.prog 68 #[tv,ptrAt bs z] w (Ret fun v w'=>v=.int .i64 z∧Fr 0 [] w w'):=by
 obtain ⟨p,l,c,rfl,hll, -,hx⟩:=hO.openF
 obtain rfl:l=bs.length:=by simpa using hll.symm
 refine startJ (args:=[_,_]) [(0,_),(1,_)] 0 [] [] Tryz.func68 rfl Tryz.ntmps68 rfl rfl .nil ?_
 refine sQ fun K1=>cj_reg (jA (k:=K1 (sQ fun K2=>sQ fun K3=>cj_reg (jM (k:=jE ru121 (k:=jM (k:=K3 (cj_block ?_))))))))
 refine cj_loop (σ:=Nat) (fun s=>[(0,.slice p bs.length c),(1,ptrAt bs z),(7,.int .i64 (bs.length:Nat)),(8,.int .i64 (s:Nat))]) (fun _=>[]) (fun s _=>s≤bs.length∧(z<0∨(s:Int)≤z)) (fun s=>bs.length - s) 0 sR (fun w' hH hf=>⟨hH,Nat.zero_le _,by omega⟩) ?_
 rintro k wk ⟨hk,hkz⟩ hfk hHk KL hKL
 try dsimp only at hk hkz
 refine C.begin _ _ hfk hHk ?_
 try dsimp only
 refine sQ fun K4=>cj_reg (jS (k:=K4 (sQ fun K5=>?_)))
 refine cj_dec rfl (fun h9=>?_) (fun h9=>?_)
 ·have hk':k<bs.length:=by omega
  obtain ⟨bq,rfl,hsq⟩:=hx (by omega)
  have hcell:∀w',Fm.ok ⟨w,0,[]⟩ w'→w'.cell? ⟨bq,0+k*1,none⟩=some (ptr bs[k]):=fun w' hf=>by
   have h:=hsq ⟨w,0,[]⟩ rfl rfl w' hf k (ptr bs[k]) (by rw[List.getElem?_map,List.getElem?_eq_getElem hk'];rfl)
   simpa using h
  refine cj_skip (K5 (sQ fun K6=>cj_block (sQ fun K7=>cj_reg (jM (k:=jA (k:=K7 (sQ fun K8=>cj_reg (jM (k:=jM (k:=jM (k:=jJ ru121 so134 (k:=?_))))))))))))
  refine j_valw rfl (fun a w ha hH hf=>r_load ag134 rfl (hcell w hf) ha) ?_
  refine j_valw rfl (fun a w ha hH hf=>r_peqAt (i:=k) (T:=tLoc) ud134 nf137 ns137 rfl rfl (List.getElem?_eq_getElem hk') hn h2 (fun c hc=>by obtain ⟨cs,h⟩:=hB c hc;exact ⟨cs,fr_row hf rfl _ _ h⟩) ha) ?_
  refine K8 ?_
  refine cj_dec rfl (fun hq=>?_) (fun hq=>?_)
  ·refine sQ fun K9=>cj_reg (jM (k:=jA (k:=K9 (CJ.t [(4,_)] (k:=cj_ret ?_)))))
   first
    |exact ej_ret1 Tryz.results68 rfl fun w' hH hf=>⟨by rw[hq],hf⟩
    |exact ej_ret1 Tryz.results68 rfl fun w' hH hf=>⟨by rw[hz],hf⟩
  ·refine cj_skip (K6 (cj_reg (jI (k:=jM (k:=j_nil (ej_then ?_))))))
   exact fun w' hH hf=>hKL (k+1) _ w' ⟨hk',by omega⟩ hf hH (by first|omega|(simp only;omega)) sR
 ·have hz:z= -1:=by omega
  refine cj_exit (K2 (sQ fun K10=>cj_reg (jA (k:=K10 (cj_ret ?_)))))
  first
   |exact ej_ret1 Tryz.results68 rfl fun w' hH hf=>⟨by rw[hq],hf⟩
   |exact ej_ret1 Tryz.results68 rfl fun w' hH hf=>⟨by rw[hz],hf⟩
end Go.Proofs.YtifdadlhmlhfiaaGreatDoor
namespace Go.Fw
open Go
variable {w:World}
section
variable {P:Program} {Q:Exit→Act→World→Prop} {n:Nat} {f:Fm} {e:Env} {H:Heap}
theorem ej_ret1C {fn:Func} {R:Value→World→Prop} {s T m:Nat} {b:Nat} {vs:List Value} (hres:fn.results= #[.cell s T]) (hag:∀w,(isAgg T).run P w=.ok true w) (hsz:∀w,(sizeOf T).run P w=.ok m w) (hvm:vs.length=m)
  (hs:look e s=some (.pointer (some ⟨b,0,none⟩))) (hb:∀w,Hp f w H→f.ok w→∃U,Blk w b U vs) (h:∀w,Hp f w H→f.ok w→R (.agg vs.toArray) w):
  EJ (bodyPost P fn (Ret R)) .ret n f e H:=fun w hH hf a ha=>by
 refine ⟨ha.defs,_,?_,h w hH hf⟩
 have h2:=ha.has s _ hs
 obtain ⟨U,hbk⟩:=hb w hH hf
 have h3:=run_loadCells (P:=P) (b:=b) w vs 0 hbk.cells
 simp only[results,hres]
 simp[Array.getD_eq_getD_getElem?,h2,asAddr,loadVar,hag,hsz, ← hvm,h3]
end
theorem Hp.sw2 {f:Fm} {a b c:Ent} {R:Heap} (h:Hp f w (a::b::c::R)):Hp f w (a::c::b::R):=Go.Proofs.YtifdadlhmlhfiaaGreatDoor.Hp.rot3 (Hp.swap h)
theorem Hp.head2 {f:Fm} {a b:Ent} {R:Heap} (h:Hp f w (a::b::R)):Hp f w [a,b]:=⟨h.1,h.2.1,fun he z hz hze=>h.2.2.1 he z (by simp at hz;subst hz;simp) hze,h.2.2.2.1,h.2.2.2.2.1,fun _ z hz=>(by cases hz),trivial⟩
theorem fr_all {B:Nat} {w':World} (h:Fr B [] w w'):Fr 0 [] w w':=⟨h.os,h.tape,h.output,h.size,fun b o hb _=>h.keep b o hb (.inr (by simp))⟩
theorem take_flat {α:Type} {xs:List α} {c:α→List Value} {k:Nat} (hk:k<xs.length):(xs.take (k+1)).flatMap c=(xs.take k).flatMap c++c xs[k]:=by
 rw[← List.take_append_getElem hk,List.flatMap_append];simp
end Go.Fw
namespace Go.Proofs.YtifdadlhmlhfiaaGreatDoor
open Go Go.Fw Go.Proofs Go.Proofs.Tryz
variable {g:G} {fs:List Fld} {W:List Nat} {B j k n:Nat} {s:PSample} {w w':World}
abbrev tIP:Nat:=31
abbrev tTy:Nat:=29
abbrev tMp:Nat:=73
abbrev tFn:Nat:=80
abbrev tLc:Nat:=77
abbrev tLn:Nat:=114
abbrev tInt:Nat:=3
abbrev tSm:Nat:=57
def cTyI (t:PType):List Value:=[.string t.ty,.string t.unit]
def cMpI (m:PMapping):List Value:=[.int .u64 m.id,.int .u64 m.start,.int .u64 m.limit,.int .u64 m.offset,.string m.file,.string m.build,.bool m.fu,.bool m.fi,.bool m.li,.bool m.inl]
def cFnI (f:PFunc):List Value:=[.int .u64 f.id,.string f.name,.string f.system,.string f.file,.int .i64 f.start]
def cLnI (n:PLine):List Value:=[.int .i64 n.fn,.int .i64 n.line]
def cLcI (q:PLoc×Value):List Value:=[.int .u64 q.1.id,.int .i64 q.1.mapping,.int .u64 q.1.addr,q.2]
structure SV where (st vs tx nu:Value)
def cSmI (q:PSample×SV):List Value:=[q.2.st,q.2.vs,q.2.tx,q.2.nu]
structure SmV (w:World) (q:PSample×SV):Prop where
 st:OS tInt 1 w q.2.st (q.1.stack.map (.int .i64))
 vs:OS tI64 1 w q.2.vs (q.1.values.map (.int .i64))
 tx:TxV w q.2.tx q.1
 nu:NuV w q.2.nu q.1
def LcsV (w:World) (qs:List (PLoc×Value)):Prop:=∀q∈qs,OS tLn 2 w q.2 (q.1.lines.flatMap cLnI)
def SmsV (w:World) (qs:List (PSample×SV)):Prop:=∀q∈qs,SmV w q
theorem SmV.mono {q:PSample×SV} (h:SmV w q) (k1:∀b cs,Blk w b tInt cs→Blk w' b tInt cs) (k2:∀b cs,Blk w b tI64 cs→Blk w' b tI64 cs) (k3:∀b cs,Blk w b tTx cs→Blk w' b tTx cs) (k4:∀b cs,Blk w b tStr cs→Blk w' b tStr cs) (k5:∀b cs,Blk w b tNu cs→Blk w' b tNu cs):SmV w' q:=
 ⟨h.st.mono k1,h.vs.mono k2,h.tx.mono k3 k4,h.nu.mono k5 k2⟩
def cOP (x:PProf) (vT vS vM vL vF vC:Value) (p:PType):List Value:=[vT,.string x.deflt,vS,vM,vL,vF,vC,.string x.drop,.string x.keep,.int .i64 x.time,.int .i64 x.dur,.int .i64 x.period,.string p.ty,.string p.unit]
abbrev vN:Value:=.slice none 0 0
abbrev zIP:List Value:=[.slice none 0 0,.string ⟨#[]⟩,.slice none 0 0,.slice none 0 0,.slice none 0 0,.slice none 0 0,.slice none 0 0,.string ⟨#[]⟩,.string ⟨#[]⟩,.int .i64 0,.int .i64 0,.int .i64 0,.string ⟨#[]⟩,.string ⟨#[]⟩]
abbrev eI (b T:Nat) (cs:List Value):Ent:=⟨b,T,cs,true,true,none⟩
structure PV (w:World) (x:PProf) (vT vM vF vL vC:Value):Prop where
 ty:OS tTy 2 w vT (x.types.flatMap cTyI)
 mp:OS tMp 10 w vM (x.mappings.flatMap cMpI)
 fn:OS tFn 5 w vF (x.funcs.flatMap cFnI)
 lc:∃lq:List (PLoc×Value),lq.map (·.1)=x.locs∧OS tLc 4 w vL (lq.flatMap cLcI)∧LcsV w lq
 co:OS tStr 1 w vC (x.comments.map .string)
theorem PV.fr {x:PProf} {vT vM vF vL vC:Value} (h:PV w x vT vM vF vL vC) (k:Fr B W w w') (hW:([tTy,tMp,tFn,tLc,tLn,tStr].all fun T=>W.all fun t=> !Nat.beq t T)=true):PV w' x vT vM vF vL vC:=by
 simp only[List.all_cons,List.all_nil,Bool.and_true,Bool.and_eq_true]at hW
 obtain ⟨h1,h2,h3,h4,h5,h6⟩:=hW
 obtain ⟨lq,e,h7,h8⟩:=h.lc
 exact ⟨h.ty.mono (fr_row k h1),h.mp.mono (fr_row k h2),h.fn.mono (fr_row k h3),⟨lq,e,h7.mono (fr_row k h4),fun q hq=>(h8 q hq).mono (fr_row k h5)⟩,h.co.mono (fr_row k h6)⟩
theorem SmsV.fr {qs:List (PSample×SV)} (h:SmsV w qs) (k:Fr B W w w') (hW:([tInt,tI64,tTx,tStr,tNu].all fun T=>W.all fun t=> !Nat.beq t T)=true):SmsV w' qs:=fun q hq=>by
 simp only[List.all_cons,List.all_nil,Bool.and_true,Bool.and_eq_true]at hW
 obtain ⟨h1,h2,h3,h4,h5⟩:=hW
 exact (h q hq).mono (fr_row k h1) (fr_row k h2) (fr_row k h3) (fr_row k h4) (fr_row k h5)
theorem Own.osM {T sz l c:Nat} {y:Ent} {p:Option Addr} {xs:List Value} {f:Fm} {H:Heap} (h:Own T sz y p l c xs) (hH:Hp f w H) (hy:y∈H):OS T sz w (.slice p l c) xs:=
 ⟨y,p,l,c,rfl,h,fun ho=>by have:=hH.blk hy ho;rw[h.hT]at this;exact this⟩
def GotP (w:World) (cs:List Value) (x:PProf):Prop:=∃vT vS vM vL vF vC sq,cs=cOP x vT vS vM vL vF vC x.per∧PV w x vT vM vF vL vC∧(sq:List (PSample×SV)).map (·.1)=x.samples∧OS tSm 4 w vS (sq.flatMap cSmI)∧SmsV w sq
set_option maxHeartbeats 4000000 in
theorem plain_c (B:Nat) (w:World) (x:PProf) (g:G) (hQ:OfQ B w x g) (hx:WellP x):Calls Tryz.prog 28 #[ptr g.pb] w (Ret fun v w'=>(∃cs,v=.agg (List.toArray cs)∧GotP w' cs x)∧Fr 0 [] w w'):=by
 obtain ⟨tyv,sav,mav,lov,fuv,cov,hpf,hty,hsa,hma,hlo,hfu,hco⟩:=hQ.prof
 obtain ⟨p1,l1,c1,rfl,hl1, -,hx1⟩:=hty.openF
 obtain ⟨p2,l2,c2,rfl,hl2, -,hx2⟩:=hsa.openF
 obtain ⟨p3,l3,c3,rfl,hl3, -,hx3⟩:=hma.openF
 obtain ⟨p4,l4,c4,rfl,hl4, -,hx4⟩:=hlo.openF
 obtain ⟨p5,l5,c5,rfl,hl5, -,hx5⟩:=hfu.openF
 obtain ⟨p6,l6,c6,rfl,hl6, -, -⟩:=hco.openF
 obtain rfl:l1=x.types.length:=by have:=hQ.types.1;simp at hl1;omega
 obtain rfl:l2=x.samples.length:=by have:=hQ.sams.1;simp at hl2;omega
 obtain rfl:l3=x.mappings.length:=by have:=hQ.maps.1;simp at hl3;omega
 obtain rfl:l4=x.locs.length:=by have:=hQ.locs.1;simp at hl4;omega
 obtain rfl:l5=x.funcs.length:=by have:=hQ.funs.1;simp at hl5;omega
 obtain rfl:l6=x.comments.length:=by simp at hl6;omega
 have hc0:=mc (f:=⟨w,w.heap.size,[]⟩) hpf rfl
 have hcp:=mc (f:=⟨w,w.heap.size,[]⟩) hQ.per rfl
 have hn1:=hx.ntyp
 have hn2:=hx.nsam
 have hn6:=hx.ncom
 have hn3:=hx.tab.m.2.2
 have hn5:=hx.tab.f.2.2
 have hn4:=hx.tab.l.2.2
 simp only[List.length_map]at hn3 hn4 hn5
 have hBm:∀b∈g.maps,∃cs,Blk w b tMap cs:=Each.all (hQ.maps.mono (ψ:=fun b _=>∃cs,Blk w b tMap cs) fun b m h=>⟨_,h⟩)
 have hBf:∀b∈g.funs,∃cs,Blk w b tFun cs:=Each.all (hQ.funs.mono (ψ:=fun b _=>∃cs,Blk w b tFun cs) fun b m h=>⟨_,h⟩)
 have hBl:∀b∈g.locs,∃cs,Blk w b tLoc cs:=Each.all (hQ.locs.mono (ψ:=fun b _=>∃cs,Blk w b tLoc cs) fun b m h=>by obtain ⟨ls,h1, -⟩:=h.ex;exact ⟨_,h1⟩)
 refine startJ (args:=[_]) [(0,_)] w.heap.size [] [] Tryz.func28 rfl Tryz.ntmps28 rfl rfl .nil ?_
 refine sQ fun K1=>cj_reg (j_allocA (zs:=[(.slice none 0 0),(.string ⟨#[]⟩),(.slice none 0 0),(.slice none 0 0),(.slice none 0 0),(.slice none 0 0),(.slice none 0 0),(.string ⟨#[]⟩),(.string ⟨#[]⟩),(.int .i64 0),(.int .i64 0),(.int .i64 0),(.string ⟨#[]⟩),(.string ⟨#[]⟩)]) zv31 rfl fun b2=>K1 ?_)
 refine cj_seqJ ((fun s:{q:Nat×Ent×Option Addr×Nat//Own tStr 1 q.2.1 q.2.2.1 x.comments.length q.2.2.2 (x.comments.map .string)}=>[(0,ptr g.pb),(2,ptr b2),(3,ptr s.1.1)])) ((fun s=>[eI s.1.1 tIP (cOP x vN vN vN vN vN (.slice s.1.2.2.1 x.comments.length s.1.2.2.2) ⟨eB,eB⟩),eI b2 tIP zIP,s.1.2.1])) (fun KJ hKJ=>?_) (fun b3=>?_)
 ·refine cj_drawF 33 31 (lts [0,1,2,3,5,6,7,8,10,11,12,13,14,15,16,17,18,19,20,21,22,23,24,25,26,27,28,29]++(4,false)::((9,false)::(lts [30]++(31,false)::(32,false)::[]))) [] rfl (by kernel_rfl) (by kernel_rfl) ?_
  refine df_val rfl rfl (sub_of [] rfl) (fun _ _ h=>r_move rfl h) (df_val rfl rfl (sub_of [] rfl) (fun _ _ h=>r_nil rfl h) (df_val rfl rfl (sub_of [] rfl) (fun _ _ h=>r_fl (q:=1) (ft:=9) ru125 rfl so9 rfl h) (df_ld rfl rfl (sub_of [] rfl) (fun a w ha hS=>r_load ag9 rfl (hc0 w (hS.2) 1 _ rfl) ha) (df_val rfl rfl (sub_of [] rfl) (fun _ _ h=>r_move rfl h) (df_val rfl rfl (sub_of [] rfl) (fun _ _ h=>r_nil rfl h) (df_val rfl rfl (sub_of [] rfl) (fun _ _ h=>r_fl (q:=6) (ft:=27) ru125 rfl so27 rfl h) (df_ld rfl rfl (sub_of [] rfl) (fun a w ha hS=>r_load ag27 rfl (hc0 w (hS.2) 6 _ rfl) ha) (df_val rfl rfl (sub_of [] rfl) (fun _ _ h=>r_move rfl h) (df_val rfl rfl (sub_of [] rfl) (fun _ _ h=>r_nil rfl h) (df_val rfl rfl (sub_of [] rfl) (fun _ _ h=>r_fl (q:=7) (ft:=9) ru125 rfl so9 rfl h) (df_ld rfl rfl (sub_of [] rfl) (fun a w ha hS=>r_load ag9 rfl (hc0 w (hS.2) 7 _ rfl) ha) (df_val rfl rfl (sub_of [] rfl) (fun _ _ h=>r_move rfl h) (df_val rfl rfl (sub_of [] rfl) (fun _ _ h=>r_nil rfl h) ?_)))))))))))))
  refine df_val rfl rfl (sub_of [] rfl) (fun _ _ h=>r_fl (q:=8) (ft:=9) ru125 rfl so9 rfl h) (df_ld rfl rfl (sub_of [] rfl) (fun a w ha hS=>r_load ag9 rfl (hc0 w (hS.2) 8 _ rfl) ha) (df_val rfl rfl (sub_of [] rfl) (fun _ _ h=>r_move rfl h) (df_val rfl rfl (sub_of [] rfl) (fun _ _ h=>r_nil rfl h) (df_val rfl rfl (sub_of [] rfl) (fun _ _ h=>r_fl (q:=9) (ft:=2) ru125 rfl so2 rfl h) (df_ld rfl rfl (sub_of [] rfl) (fun a w ha hS=>r_load ag2 rfl (hc0 w (hS.2) 9 _ rfl) ha) (df_val rfl rfl (sub_of [] rfl) (fun _ _ h=>r_move rfl h) (df_val rfl rfl (sub_of [] rfl) (fun _ _ h=>r_nil rfl h) (df_val rfl rfl (sub_of [] rfl) (fun _ _ h=>r_fl (q:=10) (ft:=2) ru125 rfl so2 rfl h) (df_ld rfl rfl (sub_of [] rfl) (fun a w ha hS=>r_load ag2 rfl (hc0 w (hS.2) 10 _ rfl) ha) (df_val rfl rfl (sub_of [] rfl) (fun _ _ h=>r_move rfl h) (df_val rfl rfl (sub_of [] rfl) (fun _ _ h=>r_nil rfl h) (df_val rfl rfl (sub_of [] rfl) (fun _ _ h=>r_fl (q:=12) (ft:=2) ru125 rfl so2 rfl h) (df_ld rfl rfl (sub_of [] rfl) (fun a w ha hS=>r_load ag2 rfl (hc0 w (hS.2) 12 _ rfl) ha) ?_)))))))))))))
  refine df_fork rfl rfl rfl (fun K2 hK2=>?_) (fun K2 hK2=>?_)
  ·refine j_allocA (zs:=[(.slice none 0 0),(.string ⟨#[]⟩),(.slice none 0 0),(.slice none 0 0),(.slice none 0 0),(.slice none 0 0),(.slice none 0 0),(.string ⟨#[]⟩),(.string ⟨#[]⟩),(.int .i64 0),(.int .i64 0),(.int .i64 0),(.string ⟨#[]⟩),(.string ⟨#[]⟩)]) zv31 rfl fun b3=>j_nil (ej_then (hK2 _ _ (sub_of [] rfl) ?_));clear hK2 K2
   refine dE (h:=fun Kd=>j_bslice0 ru27 so9 rfl fun b24=>Kd (sb []) (dE (h:=fun Kd=>?_)))
   first|refine j_appS 0 rfl Own.empty ru27 el9 rfl rfl rfl hco rfl (fun z hz=>by obtain ⟨u, -,rfl⟩:=List.mem_map.1 hz;rfl) (by omega) rfl fun y29 p29 c29 hO29=>?_|refine j_appS 1 rfl Own.empty ru27 el9 rfl rfl rfl hco rfl (fun z hz=>by obtain ⟨u, -,rfl⟩:=List.mem_map.1 hz;rfl) (by omega) rfl fun y29 p29 c29 hO29=>?_
   refine Kd (sb []) ?_
   rw[Nat.zero_add,List.nil_append]at hO29
   first|refine dj_eqv (u:=.slice p29 x.comments.length c29) (by rw[Nat.zero_add]) ?_|refine df_eqv (u:=.slice p29 x.comments.length c29) (by rw[Nat.zero_add]) ?_
   refine dj_val rfl rfl (sub_of [] rfl) (fun _ _ h=>r_build (cs:=[(.slice none 0 0),_,(.slice none 0 0),(.slice none 0 0),(.slice none 0 0),(.slice none 0 0),_,_,_,_,_,_,(.string ⟨#[]⟩),(.string ⟨#[]⟩)]) bt31 rfl rfl h) (dE (h:=fun Kd=>jB [_,_,_,_,_,_,_,_,_,_,_,_,_,_] (_::_::_::_) 1 so31 (k:=Kd (sb []) (dj_end ?_))))
   first
    |exact ej_then (hKJ ⟨(b3,y29,p29,c29),hO29⟩ _ _ ⟨rfl,rfl,rfl,trivial⟩ fun w h=>Hp.sw2 h)
    |exact ej_then (hKJ ⟨(b3,y29,p29,c29),hO29⟩ _ _ ⟨rfl,rfl,rfl,trivial⟩ fun w h=>Hp.rot3 h)
  ·refine j_bslice0 ru27 so9 rfl fun b24=>j_nil (ej_then (hK2 _ _ (sub_of [] rfl) ?_));clear hK2 K2
   refine df_fork rfl rfl rfl (fun K2 hK2=>?_) (fun K2 hK2=>?_)
   ·refine j_allocA (zs:=[(.slice none 0 0),(.string ⟨#[]⟩),(.slice none 0 0),(.slice none 0 0),(.slice none 0 0),(.slice none 0 0),(.slice none 0 0),(.string ⟨#[]⟩),(.string ⟨#[]⟩),(.int .i64 0),(.int .i64 0),(.int .i64 0),(.string ⟨#[]⟩),(.string ⟨#[]⟩)]) zv31 rfl fun b3=>j_nil (ej_then (hK2 _ _ (sub_of [] rfl) ?_));clear hK2 K2
    refine dE (h:=fun Kd=>?_)
    first|refine j_appS 0 rfl Own.empty ru27 el9 rfl rfl rfl hco rfl (fun z hz=>by obtain ⟨u, -,rfl⟩:=List.mem_map.1 hz;rfl) (by omega) rfl fun y29 p29 c29 hO29=>?_|refine j_appS 1 rfl Own.empty ru27 el9 rfl rfl rfl hco rfl (fun z hz=>by obtain ⟨u, -,rfl⟩:=List.mem_map.1 hz;rfl) (by omega) rfl fun y29 p29 c29 hO29=>?_
    refine Kd (sb []) ?_
    rw[Nat.zero_add,List.nil_append]at hO29
    first|refine dj_eqv (u:=.slice p29 x.comments.length c29) (by rw[Nat.zero_add]) ?_|refine df_eqv (u:=.slice p29 x.comments.length c29) (by rw[Nat.zero_add]) ?_
    refine dj_val rfl rfl (sub_of [] rfl) (fun _ _ h=>r_build (cs:=[(.slice none 0 0),_,(.slice none 0 0),(.slice none 0 0),(.slice none 0 0),(.slice none 0 0),_,_,_,_,_,_,(.string ⟨#[]⟩),(.string ⟨#[]⟩)]) bt31 rfl rfl h) (dE (h:=fun Kd=>jB [_,_,_,_,_,_,_,_,_,_,_,_,_,_] (_::_::_::_) 0 so31 (k:=Kd (sb []) (dj_end ?_))))
    first
     |exact ej_then (hKJ ⟨(b3,y29,p29,c29),hO29⟩ _ _ ⟨rfl,rfl,rfl,trivial⟩ fun w h=>Hp.sw2 h)
     |exact ej_then (hKJ ⟨(b3,y29,p29,c29),hO29⟩ _ _ ⟨rfl,rfl,rfl,trivial⟩ fun w h=>Hp.rot3 h)
   ·first|refine j_appS 0 rfl Own.empty ru27 el9 rfl rfl rfl hco rfl (fun z hz=>by obtain ⟨u, -,rfl⟩:=List.mem_map.1 hz;rfl) (by omega) rfl fun y29 p29 c29 hO29=>?_|refine j_appS 1 rfl Own.empty ru27 el9 rfl rfl rfl hco rfl (fun z hz=>by obtain ⟨u, -,rfl⟩:=List.mem_map.1 hz;rfl) (by omega) rfl fun y29 p29 c29 hO29=>?_
    refine j_nil (ej_then (hK2 _ _ (sub_of [] rfl) ?_));clear hK2 K2
    rw[Nat.zero_add,List.nil_append]at hO29
    first|refine dj_eqv (u:=.slice p29 x.comments.length c29) (by rw[Nat.zero_add]) ?_|refine df_eqv (u:=.slice p29 x.comments.length c29) (by rw[Nat.zero_add]) ?_
    refine df_val rfl rfl (sub_of [] rfl) (fun _ _ h=>r_build (cs:=[(.slice none 0 0),_,(.slice none 0 0),(.slice none 0 0),(.slice none 0 0),(.slice none 0 0),_,_,_,_,_,_,(.string ⟨#[]⟩),(.string ⟨#[]⟩)]) bt31 rfl rfl h) ?_
    refine df_al rfl fun K2 hK2=>?_
    refine j_allocA (zs:=[(.slice none 0 0),(.string ⟨#[]⟩),(.slice none 0 0),(.slice none 0 0),(.slice none 0 0),(.slice none 0 0),(.slice none 0 0),(.string ⟨#[]⟩),(.string ⟨#[]⟩),(.int .i64 0),(.int .i64 0),(.int .i64 0),(.string ⟨#[]⟩),(.string ⟨#[]⟩)]) zv31 rfl fun b3=>j_nil (ej_then (hK2 _ _ (sub_of [] rfl) ?_));clear hK2 K2
    refine dE (h:=fun Kd=>jB [_,_,_,_,_,_,_,_,_,_,_,_,_,_] (_::_::_::_) 0 so31 (k:=Kd (sb []) (dj_end ?_)))
    first
     |exact ej_then (hKJ ⟨(b3,y29,p29,c29),hO29⟩ _ _ ⟨rfl,rfl,rfl,trivial⟩ fun w h=>Hp.sw2 h)
     |exact ej_then (hKJ ⟨(b3,y29,p29,c29),hO29⟩ _ _ ⟨rfl,rfl,rfl,trivial⟩ fun w h=>Hp.rot3 h)
 ·obtain ⟨⟨b3,yC,pC,cC⟩,hOC⟩:=b3
  replace hOC:Own tStr 1 yC pC x.comments.length cC (x.comments.map .string):=hOC
  refine cj_seqF fun K2 hK2=>sQ fun K3=>cj_reg (jM (k:=jN (k:=jF 11 ru125 so123 (k:=jL ag123 hc0 11 (k:=?_)))))
  refine j_val rfl (fun _ _ h=>r_pnneq ud123 rfl h) (K3 (CJ.t [(0,_),(2,_),(3,_),(55,_)] (k:=?_)))
  refine cj_if_t rfl (cj_drawI 17 (lts [0,1,2,3,4,5,6,7,8,9,10,11,12,13,14,15]++(16,false)::[]) [] rfl (by kernel_rfl) (by kernel_rfl) (dM [] (k:=dN [] (k:=dF [] 11 ru125 so123 (k:=dL [] ag123 hc0 11 (k:=dN [] (k:=dF [] 0 ru127 so9 (k:=dL [] ag9 hcp 0 (k:=dM [] (k:=dN [] (k:=dF [] 11 ru125 so123 (k:=dL [] ag123 hc0 11 (k:=dN [] (k:=?_))))))))))))))
  refine dF [] 1 ru127 so9 (k:=dL [] ag9 hcp 1 (k:=?_))
  refine dj_val rfl rfl (sub_of [] rfl) (fun _ _ h=>r_build (cs:=[_,_]) bt29 rfl rfl h) (dF [] 12 ru31 so29 (k:=dE (h:=fun Kd=>jB [_,_,_,_,_,_,_,_,_,_,_,_,_,_] (_::_::_::_) 0 so29 (k:=Kd (sb []) (dj_end (ej_then (hK2 _ _ _ (CJ.t [(0,_),(2,_),(3,_)] (k:=sQ fun K4=>sQ fun K5=>cj_reg (jM (k:=jN (k:=jF 0 ru125 so118 (k:=?_)))))))))))))
  refine jL ag118 hc0 0 (k:=jE ru118 (k:=jM (k:=K5 (cj_block ?_))))
  refine cj_loop (σ:=Nat×Ent×Option Addr×Nat) (fun s=>[(0,ptr g.pb),(2,ptr b2),(3,ptr b3),(75,.slice p1 x.types.length c1),(76,.int .i64 (x.types.length:Nat)),(77,.int .i64 (s.1:Nat))])
   (fun s=>s.2.1::eI b3 tIP (cOP x (.slice s.2.2.1 s.1 s.2.2.2) (vN) (vN) (vN) (vN) (.slice pC x.comments.length cC) x.per)::eI b2 tIP zIP::[yC])
   (fun s _=>s.1≤x.types.length∧Own tTy 2 s.2.1 s.2.2.1 s.1 s.2.2.2 ((x.types.take s.1).flatMap cTyI)) (fun s=>x.types.length - s.1)
   (0,nilE tTy,none,0) sR (fun w' hH hf=>⟨Hp.off hH,Nat.zero_le _,Own.nil⟩) ?_
  rintro ⟨k1,y1,q1,d1⟩ w1 ⟨hk1,hO1⟩ hf1 hH1 KL1 hKL1
  try dsimp only at hk1 hO1
  refine C.begin _ _ hf1 hH1 ?_
  try dsimp only
  refine sQ fun K6=>cj_reg (jS (k:=K6 (sQ fun K7=>?_)))
  refine cj_dec rfl (fun h78=>?_) (fun h78=>?_)
  ·have hk':k1<x.types.length:=by omega
   obtain ⟨bq,rfl,hsq⟩:=hx1 (by omega)
   have hkb:k1<g.types.length:=by rw[hQ.types.1];exact hk'
   have hst:=hQ.types.2 _ _ _ (List.getElem?_eq_getElem hkb) (List.getElem?_eq_getElem hk')
   have hcell:∀w',Fm.ok ⟨w,w.heap.size,[]⟩ w'→w'.cell? ⟨bq,0+k1*1,none⟩=some (ptr g.types[k1]):=fun w' hf=>by
    have h:=hsq ⟨w,w.heap.size,[]⟩ rfl rfl w' hf k1 (ptr g.types[k1]) (by rw[List.getElem?_map,List.getElem?_eq_getElem hkb];rfl)
    simpa using h
   have hcm:=mc (f:=⟨w,w.heap.size,[]⟩) (T:=tVT) hst rfl
   refine cj_skip (K7 (sQ fun K8=>cj_block (sQ fun K9=>cj_reg (jJ ru118 so123 (k:=?_)))))
   refine j_valw rfl (fun a w ha hH hf=>r_load ag123 rfl (hcell w hf) ha) (jA (k:=K9 ?_))
   refine cj_drawI 14 (lts [0,1,2,3,4,5,6,7,8,9,10]++(11,false)::((12,false)::(lts [13]++(14,false)::[]))) [1] rfl (by kernel_rfl) (by kernel_rfl) (dF [1] 0 ru31 so22 (k:=dH [1] 0 ag22 (k:=dM [1] (k:=dN [1] (k:=dF [1] 0 ru127 so9 (k:=dL [1] ag9 hcm 0 (k:=dM [1] (k:=dN [1] (k:=dF [1] 1 ru127 so9 (k:=dL [1] ag9 hcm 1 (k:=?_)))))))))))
   refine dj_val rfl rfl (sub_of [1] rfl) (fun _ _ h=>r_build (cs:=[_,_]) bt29 rfl rfl h) (dE (h:=fun Kd=>j_bslice1 ru22 so29 zv29 rfl rfl rfl rfl rfl fun b92=>Kd (sb [2]) (dE (h:=fun Kd=>?_))))
   refine j_appO 0 rfl hO1 ru22 el29 rfl rfl rfl rfl rfl (by omega) rfl fun y93 p93 c93 hO93=>?_
   refine Kd (sb [1]) (dF [1] 0 ru31 so22 (k:=dE (h:=fun Kd=>jB [_,_,_,_,_,_,_,_,_,_,_,_,_,_] (_::_::_) 1 so22 (k:=Kd (.inl rfl) (K8 (CJ.t [(0,_),(2,_),(3,_),(75,_),(76,_),(77,_)] (k:=cj_reg (jI (k:=jM (k:=j_nil (ej_then ?_)))))))))))
   exact fun w' hH hf=>hKL1 (k1+1,y93,p93,c93) _ w' ⟨hk',by rw[take_flat hk'];exact hO93⟩ hf hH (by simp only;omega) sR
  ·have hke1:k1=x.types.length:=by omega
   rw[List.take_of_length_le (by omega)]at hO1
   refine cj_exit (K4 (sQ fun K10=>sQ fun K11=>cj_reg (jM (k:=jN (k:=jF 3 ru125 so120 (k:=jL ag120 hc0 3 (k:=jE ru120 (k:=jM (k:=K11 (cj_block ?_))))))))))
   refine cj_loop (σ:=Nat×Ent×Option Addr×Nat) (fun s=>[(0,ptr g.pb),(2,ptr b2),(3,ptr b3),(99,.slice p3 x.mappings.length c3),(100,.int .i64 (x.mappings.length:Nat)),(101,.int .i64 (s.1:Nat))])
    (fun s=>s.2.1::eI b3 tIP (cOP x (.slice q1 k1 d1) (vN) (.slice s.2.2.1 s.1 s.2.2.2) (vN) (vN) (.slice pC x.comments.length cC) x.per)::eI b2 tIP zIP::y1::[yC])
    (fun s _=>s.1≤x.mappings.length∧Own tMp 10 s.2.1 s.2.2.1 s.1 s.2.2.2 ((x.mappings.take s.1).flatMap cMpI)) (fun s=>x.mappings.length - s.1)
    (0,nilE tMp,none,0) sR (fun w' hH hf=>⟨Hp.off (Hp.rot3 hH),Nat.zero_le _,Own.nil⟩) ?_
   rintro ⟨k3,y3,q3,d3⟩ w3 ⟨hk3,hO3⟩ hf3 hH3 KL3 hKL3
   try dsimp only at hk3 hO3
   refine C.begin _ _ hf3 hH3 ?_
   try dsimp only
   refine sQ fun K12=>cj_reg (jS (k:=K12 (sQ fun K13=>?_)))
   refine cj_dec rfl (fun h102=>?_) (fun h102=>?_)
   ·have hk':k3<x.mappings.length:=by omega
    obtain ⟨bq,rfl,hsq⟩:=hx3 (by omega)
    have hkb:k3<g.maps.length:=by rw[hQ.maps.1];exact hk'
    have hst:=hQ.maps.2 _ _ _ (List.getElem?_eq_getElem hkb) (List.getElem?_eq_getElem hk')
    have hcell:∀w',Fm.ok ⟨w,w.heap.size,[]⟩ w'→w'.cell? ⟨bq,0+k3*1,none⟩=some (ptr g.maps[k3]):=fun w' hf=>by
     have h:=hsq ⟨w,w.heap.size,[]⟩ rfl rfl w' hf k3 (ptr g.maps[k3]) (by rw[List.getElem?_map,List.getElem?_eq_getElem hkb];rfl)
     simpa using h
    have hcm:=mc (f:=⟨w,w.heap.size,[]⟩) (T:=tMap) hst rfl
    refine cj_skip (K13 (sQ fun K14=>cj_block (sQ fun K15=>cj_reg (jJ ru120 so128 (k:=?_)))))
    refine j_valw rfl (fun a w ha hH hf=>r_load ag128 rfl (hcell w hf) ha) (jA (k:=K15 ?_))
    refine cj_drawI 46 (lts [0,1,2,3,4,5,6,7,8,9,10,11,12,13,14,15,16,17,18,19,20,21,22,23,24,25,26,27,28,29,30,31,32,33,34,35,36,37,38,39,40,41,42]++(43,false)::((44,false)::(lts [45]++(46,false)::[]))) [1] rfl (by kernel_rfl) (by kernel_rfl) (dF [1] 3 ru31 so24 (k:=dH [1] 0 ag24 (k:=dM [1] (k:=dN [1] (k:=dF [1] 0 ru130 so71 (k:=dL [1] ag71 hcm 0 (k:=dM [1] (k:=dN [1] (k:=dF [1] 1 ru130 so71 (k:=dL [1] ag71 hcm 1 (k:=dM [1] (k:=dN [1] (k:=dF [1] 2 ru130 so71 (k:=?_))))))))))))))
    refine dL [1] ag71 hcm 2 (k:=dM [1] (k:=dN [1] (k:=dF [1] 3 ru130 so71 (k:=dL [1] ag71 hcm 3 (k:=dM [1] (k:=dN [1] (k:=dF [1] 4 ru130 so9 (k:=dL [1] ag9 hcm 4 (k:=dM [1] (k:=dN [1] (k:=dF [1] 5 ru130 so9 (k:=dL [1] ag9 hcm 5 (k:=dM [1] (k:=?_))))))))))))))
    refine dN [1] (k:=dF [1] 6 ru130 so4 (k:=dL [1] ag4 hcm 6 (k:=dM [1] (k:=dN [1] (k:=dF [1] 7 ru130 so4 (k:=dL [1] ag4 hcm 7 (k:=dM [1] (k:=dN [1] (k:=dF [1] 8 ru130 so4 (k:=dL [1] ag4 hcm 8 (k:=dM [1] (k:=dN [1] (k:=dF [1] 9 ru130 so4 (k:=?_))))))))))))))
    refine dL [1] ag4 hcm 9 (k:=?_)
    refine dj_val rfl rfl (sub_of [1] rfl) (fun _ _ h=>r_build (cs:=[_,_,_,_,_,_,_,_,_,_]) bt73 rfl rfl h) (dE (h:=fun Kd=>j_bslice1 ru24 so73 zv73 rfl rfl rfl rfl rfl fun b148=>Kd (sb [2]) (dE (h:=fun Kd=>?_))))
    refine j_appO 0 rfl hO3 ru24 el73 rfl rfl rfl rfl rfl (by omega) rfl fun y149 p149 c149 hO149=>?_
    refine Kd (sb [1]) (dF [1] 3 ru31 so24 (k:=dE (h:=fun Kd=>jB [_,_,_,_,_,_,_,_,_,_,_,_,_,_] (_::_::_) 1 so24 (k:=Kd (.inl rfl) (K14 (CJ.t [(0,_),(2,_),(3,_),(99,_),(100,_),(101,_)] (k:=cj_reg (jI (k:=jM (k:=j_nil (ej_then ?_)))))))))))
    exact fun w' hH hf=>hKL3 (k3+1,y149,p149,c149) _ w' ⟨hk',by rw[take_flat hk'];exact hO149⟩ hf hH (by simp only;omega) sR
   ·have hke3:k3=x.mappings.length:=by omega
    rw[List.take_of_length_le (by omega)]at hO3
    refine cj_exit (K10 (sQ fun K16=>sQ fun K17=>cj_reg (jM (k:=jN (k:=jF 5 ru125 so122 (k:=jL ag122 hc0 5 (k:=jE ru122 (k:=jM (k:=K17 (cj_block ?_))))))))))
    refine cj_loop (σ:=Nat×Ent×Option Addr×Nat) (fun s=>[(0,ptr g.pb),(2,ptr b2),(3,ptr b3),(155,.slice p5 x.funcs.length c5),(156,.int .i64 (x.funcs.length:Nat)),(157,.int .i64 (s.1:Nat))])
     (fun s=>s.2.1::eI b3 tIP (cOP x (.slice q1 k1 d1) (vN) (.slice q3 k3 d3) (vN) (.slice s.2.2.1 s.1 s.2.2.2) (.slice pC x.comments.length cC) x.per)::eI b2 tIP zIP::y3::y1::[yC])
     (fun s _=>s.1≤x.funcs.length∧Own tFn 5 s.2.1 s.2.2.1 s.1 s.2.2.2 ((x.funcs.take s.1).flatMap cFnI)) (fun s=>x.funcs.length - s.1)
     (0,nilE tFn,none,0) sR (fun w' hH hf=>⟨Hp.off (Hp.rot3 hH),Nat.zero_le _,Own.nil⟩) ?_
    rintro ⟨k5,y5,q5,d5⟩ w5 ⟨hk5,hO5⟩ hf5 hH5 KL5 hKL5
    try dsimp only at hk5 hO5
    refine C.begin _ _ hf5 hH5 ?_
    try dsimp only
    refine sQ fun K18=>cj_reg (jS (k:=K18 (sQ fun K19=>?_)))
    refine cj_dec rfl (fun h158=>?_) (fun h158=>?_)
    ·have hk':k5<x.funcs.length:=by omega
     obtain ⟨bq,rfl,hsq⟩:=hx5 (by omega)
     have hkb:k5<g.funs.length:=by rw[hQ.funs.1];exact hk'
     have hst:=hQ.funs.2 _ _ _ (List.getElem?_eq_getElem hkb) (List.getElem?_eq_getElem hk')
     have hcell:∀w',Fm.ok ⟨w,w.heap.size,[]⟩ w'→w'.cell? ⟨bq,0+k5*1,none⟩=some (ptr g.funs[k5]):=fun w' hf=>by
      have h:=hsq ⟨w,w.heap.size,[]⟩ rfl rfl w' hf k5 (ptr g.funs[k5]) (by rw[List.getElem?_map,List.getElem?_eq_getElem hkb];rfl)
      simpa using h
     have hcm:=mc (f:=⟨w,w.heap.size,[]⟩) (T:=tFun) hst rfl
     refine cj_skip (K19 (sQ fun K20=>cj_block (sQ fun K21=>cj_reg (jJ ru122 so131 (k:=?_)))))
     refine j_valw rfl (fun a w ha hH hf=>r_load ag131 rfl (hcell w hf) ha) (jA (k:=K21 ?_))
     refine cj_drawI 26 (lts [0,1,2,3,4,5,6,7,8,9,10,11,12,13,14,15,16,17,18,19,20,21,22]++(23,false)::((24,false)::(lts [25]++(26,false)::[]))) [1] rfl (by kernel_rfl) (by kernel_rfl) (dF [1] 5 ru31 so26 (k:=dH [1] 0 ag26 (k:=dM [1] (k:=dN [1] (k:=dF [1] 0 ru133 so71 (k:=dL [1] ag71 hcm 0 (k:=dM [1] (k:=dN [1] (k:=dF [1] 1 ru133 so9 (k:=dL [1] ag9 hcm 1 (k:=dM [1] (k:=dN [1] (k:=dF [1] 2 ru133 so9 (k:=?_))))))))))))))
     refine dL [1] ag9 hcm 2 (k:=dM [1] (k:=dN [1] (k:=dF [1] 3 ru133 so9 (k:=dL [1] ag9 hcm 3 (k:=dM [1] (k:=dN [1] (k:=dF [1] 4 ru133 so2 (k:=dL [1] ag2 hcm 4 (k:=?_)))))))))
     refine dj_val rfl rfl (sub_of [1] rfl) (fun _ _ h=>r_build (cs:=[_,_,_,_,_]) bt80 rfl rfl h) (dE (h:=fun Kd=>j_bslice1 ru26 so80 zv80 rfl rfl rfl rfl rfl fun b184=>Kd (sb [2]) (dE (h:=fun Kd=>?_))))
     refine j_appO 0 rfl hO5 ru26 el80 rfl rfl rfl rfl rfl (by omega) rfl fun y185 p185 c185 hO185=>?_
     refine Kd (sb [1]) (dF [1] 5 ru31 so26 (k:=dE (h:=fun Kd=>jB [_,_,_,_,_,_,_,_,_,_,_,_,_,_] (_::_::_) 1 so26 (k:=Kd (.inl rfl) (K20 (CJ.t [(0,_),(2,_),(3,_),(155,_),(156,_),(157,_)] (k:=cj_reg (jI (k:=jM (k:=j_nil (ej_then ?_)))))))))))
     exact fun w' hH hf=>hKL5 (k5+1,y185,p185,c185) _ w' ⟨hk',by rw[take_flat hk'];exact hO185⟩ hf hH (by simp only;omega) sR
    ·have hke5:k5=x.funcs.length:=by omega
     rw[List.take_of_length_le (by omega)]at hO5
     refine cj_exit (K16 (sQ fun K22=>sQ fun K23=>cj_reg (jM (k:=jN (k:=jF 4 ru125 so121 (k:=jL ag121 hc0 4 (k:=jE ru121 (k:=jM (k:=K23 (cj_block ?_))))))))))
     refine cj_loop (σ:=Nat×Ent×Option Addr×Nat×List (PLoc×Value)×Heap) (fun s=>[(0,ptr g.pb),(2,ptr b2),(3,ptr b3),(191,.slice p4 x.locs.length c4),(192,.int .i64 (x.locs.length:Nat)),(193,.int .i64 (s.1:Nat))])
      (fun s=>s.2.1::eI b3 tIP (cOP x (.slice q1 k1 d1) (vN) (.slice q3 k3 d3) (.slice s.2.2.1 s.1 s.2.2.2.1) (.slice q5 k5 d5) (.slice pC x.comments.length cC) x.per)::eI b2 tIP zIP::s.2.2.2.2.2)
      (fun s _=>s.1≤x.locs.length∧s.2.2.2.2.1.map (·.1)=x.locs.take s.1∧Own tLc 4 s.2.1 s.2.2.1 s.1 s.2.2.2.1 (s.2.2.2.2.1.flatMap cLcI)∧(∀q∈s.2.2.2.2.1,∃z∈s.2.2.2.2.2,∃p c,q.2=.slice p q.1.lines.length c∧Own tLn 2 z p q.1.lines.length c (q.1.lines.flatMap cLnI))∧∀z∈[y5,y3,y1,yC],z∈s.2.2.2.2.2) (fun s=>x.locs.length - s.1)
      (0,nilE tLc,none,0,[],[y5,y3,y1,yC]) sR (fun w' hH hf=>⟨Hp.off (Hp.rot3 hH),Nat.zero_le _,rfl,Own.nil,fun q hq=>(by cases hq),fun z hz=>hz⟩) ?_
     rintro ⟨k4,y4,q4,d4,lq,RL⟩ w4 ⟨hk4,hlq,hO4,hLQ,hRL⟩ hf4 hH4 KL4 hKL4
     try dsimp only at hk4 hlq hO4 hLQ hRL
     refine C.begin _ _ hf4 hH4 ?_
     try dsimp only
     refine sQ fun K24=>cj_reg (jS (k:=K24 (sQ fun K25=>?_)))
     refine cj_dec rfl (fun h194=>?_) (fun h194=>?_)
     ·have hk':k4<x.locs.length:=by omega
      obtain ⟨bq,rfl,hsq⟩:=hx4 (by omega)
      have hkb:k4<g.locs.length:=by rw[hQ.locs.1];exact hk'
      obtain ⟨lsv,hst,hls⟩:=(hQ.locs.2 _ _ _ (List.getElem?_eq_getElem hkb) (List.getElem?_eq_getElem hk')).ex
      obtain ⟨pL,lL,cL,rfl,hlL, -,hLx⟩:=hls.openF
      obtain rfl:lL=x.locs[k4].lines.length:=by rw[flatMap_len (c:=cLine g.funs) (sz:=3) (fun _=>rfl)]at hlL;omega
      have hcell:∀w',Fm.ok ⟨w,w.heap.size,[]⟩ w'→w'.cell? ⟨bq,0+k4*1,none⟩=some (ptr g.locs[k4]):=fun w' hf=>by
       have h:=hsq ⟨w,w.heap.size,[]⟩ rfl rfl w' hf k4 (ptr g.locs[k4]) (by rw[List.getElem?_map,List.getElem?_eq_getElem hkb];rfl)
       simpa using h
      have hcl:=mc (f:=⟨w,w.heap.size,[]⟩) (T:=tLoc) hst rfl
      obtain ⟨⟨hm1,hm2⟩,hl60,hln⟩:=hx.tab.locs _ (List.getElem_mem hk')
      refine cj_skip (K25 (sQ fun K26=>cj_block (sQ fun K27=>cj_reg (jJ ru121 so134 (k:=?_)))))
      refine j_valw rfl (fun a w ha hH hf=>r_load ag134 rfl (hcell w hf) ha) (jA (k:=K27 ?_))
      refine cj_seqJ ((fun b12:Nat=>[(0,ptr g.pb),(2,ptr b2),(3,ptr b3),(11,ptr g.locs[k4]),(12,ptr b12),(191,.slice (some ⟨bq,0,none⟩) x.locs.length c4),(192,.int .i64 (x.locs.length:Nat)),(193,.int .i64 (k4:Nat))])) ((fun b12:Nat=>eI b12 tLc [.int .u64 x.locs[k4].id,.int .i64 x.locs[k4].mapping,.int .u64 x.locs[k4].addr,vN]::y4::eI b3 tIP (cOP x (.slice q1 k1 d1) (vN) (.slice q3 k3 d3) (.slice q4 k4 d4) (.slice q5 k5 d5) (.slice pC x.comments.length cC) x.per)::eI b2 tIP zIP::RL)) (fun KJ hKJ=>?_) (fun b12=>?_)
      ·refine cj_drawF 20 18 (lts [0,1,2,3,4,5,6,7,8,9,10,11,13,14,15,16]++(12,false)::(lts [17]++(18,false)::(19,false)::[])) [] rfl (by kernel_rfl) (by kernel_rfl) ?_
       refine df_val rfl rfl (sub_of [] rfl) (fun _ _ h=>r_move rfl h) (df_val rfl rfl (sub_of [] rfl) (fun _ _ h=>r_nil rfl h) (df_val rfl rfl (sub_of [] rfl) (fun _ _ h=>r_fl (q:=0) (ft:=71) ru137 rfl so71 rfl h) (df_ld rfl rfl (sub_of [] rfl) (fun a w ha hS=>r_load ag71 rfl (hcl w (hS.2) 0 _ rfl) ha) (df_val rfl rfl (sub_of [] rfl) (fun _ _ h=>r_move rfl h) (df_val rfl rfl (sub_of [] rfl) (fun _ _ h=>r_nil rfl h) (df_val rfl rfl (sub_of [] rfl) (fun _ _ h=>r_fl (q:=3) (ft:=120) ru125 rfl so120 rfl h) (df_ld rfl rfl (sub_of [] rfl) (fun a w ha hS=>r_load ag120 rfl (hc0 w (hS.2) 3 _ rfl) ha) (df_val rfl rfl (sub_of [] rfl) (fun _ _ h=>r_move rfl h) (df_val rfl rfl (sub_of [] rfl) (fun _ _ h=>r_nil rfl h) (df_val rfl rfl (sub_of [] rfl) (fun _ _ h=>r_fl (q:=1) (ft:=128) ru137 rfl so128 rfl h) (df_ld rfl rfl (sub_of [] rfl) (fun a w ha hS=>r_load ag128 rfl (hcl w (hS.2) 1 _ rfl) ha) (df_val rfl rfl (sub_of [] rfl) (fun _ _ h=>r_move rfl h) (df_val rfl rfl (sub_of [] rfl) (fun _ _ h=>r_nil rfl h) ?_)))))))))))))
       refine df_val rfl rfl (sub_of [] rfl) (fun _ _ h=>r_fl (q:=2) (ft:=71) ru137 rfl so71 rfl h) (df_ld rfl rfl (sub_of [] rfl) (fun a w ha hS=>r_load ag71 rfl (hcl w (hS.2) 2 _ rfl) ha) ?_)
       refine df_fork rfl rfl rfl (fun K2 hK2=>?_) (fun K2 hK2=>?_)
       ·refine j_allocA (zs:=[(.int .u64 0),(.int .i64 0),(.int .u64 0),(.slice none 0 0)]) zv77 rfl fun b12=>j_nil (ej_then (hK2 _ _ (sub_of [] rfl) ?_));clear hK2 K2
        refine dE (h:=fun Kd=>?_)
        refine j_callQ (φ:=fun v=>v=.int .i64 x.locs[k4].mapping) Tryz.call66 rfl rfl (fun w3 hH hf=>idxM_c w3 g.maps _ x.locs[k4].mapping (hma.mono (fr_row hf rfl)) (fun b hb=>by obtain ⟨cs,h⟩:=hBm b hb;exact ⟨cs,fr_row hf rfl _ _ h⟩) hQ.nmaps hm1 (by rw[hQ.maps.1];exact hm2) (by rw[hQ.maps.1];omega)) fun v hv=>?_
        subst hv
        refine Kd (sb []) (dj_val rfl rfl (sub_of [] rfl) (fun _ _ h=>r_build (cs:=[_,_,_,(.slice none 0 0)]) bt77 rfl rfl h) (dE (h:=fun Kd=>jB [_,_,_,_] (_::_::_::_::_) 0 so77 (k:=Kd (sb []) (dj_end ?_)))))
        exact ej_then (hKJ b12 _ _ ⟨rfl,rfl,rfl,rfl,rfl,rfl,rfl,rfl,trivial⟩ fun w h=>h)
       ·refine j_callQ (φ:=fun v=>v=.int .i64 x.locs[k4].mapping) Tryz.call66 rfl rfl (fun w3 hH hf=>idxM_c w3 g.maps _ x.locs[k4].mapping (hma.mono (fr_row hf rfl)) (fun b hb=>by obtain ⟨cs,h⟩:=hBm b hb;exact ⟨cs,fr_row hf rfl _ _ h⟩) hQ.nmaps hm1 (by rw[hQ.maps.1];exact hm2) (by rw[hQ.maps.1];omega)) fun v hv=>?_
        subst hv
        refine j_nil (ej_then (hK2 _ _ (sub_of [] rfl) ?_));clear hK2 K2
        refine df_val rfl rfl (sub_of [] rfl) (fun _ _ h=>r_build (cs:=[_,_,_,(.slice none 0 0)]) bt77 rfl rfl h) ?_
        refine df_al rfl fun K2 hK2=>?_
        refine j_allocA (zs:=[(.int .u64 0),(.int .i64 0),(.int .u64 0),(.slice none 0 0)]) zv77 rfl fun b12=>j_nil (ej_then (hK2 _ _ (sub_of [] rfl) ?_));clear hK2 K2
        refine dE (h:=fun Kd=>jB [_,_,_,_] (_::_::_::_::_) 0 so77 (k:=Kd (sb []) (dj_end ?_)))
        exact ej_then (hKJ b12 _ _ ⟨rfl,rfl,rfl,rfl,rfl,rfl,rfl,rfl,trivial⟩ fun w h=>h)
      ·refine sQ fun K28=>sQ fun K29=>cj_reg (jM (k:=jN (k:=jF 3 ru137 so135 (k:=jL ag135 hcl 3 (k:=jE ru135 (k:=jM (k:=K29 (CJ.t [(0,_),(2,_),(3,_),(12,_),(191,_),(192,_),(193,_),(218,_),(219,_),(220,_)] (k:=cj_block ?_)))))))))
       refine cj_loop (σ:=Nat×Ent×Option Addr×Nat) (fun s=>[(0,ptr g.pb),(2,ptr b2),(3,ptr b3),(12,ptr b12),(191,.slice (some ⟨bq,0,none⟩) x.locs.length c4),(192,.int .i64 (x.locs.length:Nat)),(193,.int .i64 (k4:Nat)),(218,.slice pL x.locs[k4].lines.length cL),(219,.int .i64 (x.locs[k4].lines.length:Nat)),(220,.int .i64 (s.1:Nat))])
        (fun s=>s.2.1::eI b12 tLc [.int .u64 x.locs[k4].id,.int .i64 x.locs[k4].mapping,.int .u64 x.locs[k4].addr,.slice s.2.2.1 s.1 s.2.2.2]::y4::eI b3 tIP (cOP x (.slice q1 k1 d1) (vN) (.slice q3 k3 d3) (.slice q4 k4 d4) (.slice q5 k5 d5) (.slice pC x.comments.length cC) x.per)::eI b2 tIP zIP::RL)
        (fun s _=>s.1≤x.locs[k4].lines.length∧Own tLn 2 s.2.1 s.2.2.1 s.1 s.2.2.2 ((x.locs[k4].lines.take s.1).flatMap cLnI)) (fun s=>x.locs[k4].lines.length - s.1)
        (0,nilE tLn,none,0) sR (fun w' hH hf=>⟨Hp.off hH,Nat.zero_le _,Own.nil⟩) ?_
       rintro ⟨j,yj,qj,dj⟩ wj ⟨hj,hOj⟩ hfj hHj KLj hKLj
       try dsimp only at hj hOj
       refine C.begin _ _ hfj hHj ?_
       try dsimp only
       refine sQ fun K30=>cj_reg (jS (k:=K30 (sQ fun K31=>?_)))
       refine cj_dec rfl (fun h221=>?_) (fun h221=>?_)
       ·have hj':j<x.locs[k4].lines.length:=by omega
        obtain ⟨bl,rfl,hlc⟩:=hLx (by omega)
        obtain ⟨hfn1,hfn2⟩:=hln _ (List.getElem_mem hj')
        have hcr:∀w',Fm.ok ⟨w,w.heap.size,[]⟩ w'→∀(i:Nat) (u:Value),(cLine g.funs x.locs[k4].lines[j])[i]? =some u→w'.cell? ⟨bl,0+j*3+i,none⟩=some u:=fun w' hf i u hu=>by rw[Nat.zero_add];exact hlc ⟨w,w.heap.size,[]⟩ rfl rfl w' hf _ _ (flatMap_get (c:=cLine g.funs) (sz:=3) (fun _=>rfl) (List.getElem?_eq_getElem hj') i u hu)
        refine cj_skip (K31 (sQ fun K32=>cj_block (sQ fun K33=>cj_reg (jJ ru135 so140 (k:=?_)))))
        refine j_valw rfl (fun a w ha hH hf=>r_loadA (vs:=cLine g.funs x.locs[k4].lines[j]) ag140 so140 rfl rfl (hcr w hf) ha) (j_allocA (zs:=[(.pointer none),(.int .i64 0),(.int .u64 0)]) zv140 rfl fun b14=>jB [_,_,_] (_::_::_::_::_::_::_) 0 so140 (k:=K33 ?_))
        refine cj_drawI 15 (lts [0,1,2,3,4,5,6,7,9,10]++(8,false)::(lts [11]++(12,false)::((13,false)::(lts [14]++(15,false)::[])))) [2,0] rfl (by kernel_rfl) (by kernel_rfl) (dF [2,0] 3 ru77 so75 (k:=dH [2,0] 0 ag75 (k:=dM [2,0] (k:=dN [2,0] (k:=dF [2,0] 5 ru125 so122 (k:=dL [2,0] ag122 hc0 5 (k:=dF [2,0] 0 ru140 so131 (k:=dH [2,0] 1 ag131 (k:=dF [2,0] 1 ru140 so2 (k:=dH [2,0] 1 ag2 (k:=dE (h:=fun Kd=>?_))))))))))))
        refine j_callQ (φ:=fun v=>v=.int .i64 x.locs[k4].lines[j].fn) Tryz.call67 rfl rfl (fun w3 hH hf=>idxF_c w3 g.funs _ x.locs[k4].lines[j].fn (hfu.mono (fr_row hf rfl)) (fun b hb=>by obtain ⟨cs,h⟩:=hBf b hb;exact ⟨cs,fr_row hf rfl _ _ h⟩) hQ.nfuns hfn1 (by rw[hQ.funs.1];exact hfn2) (by rw[hQ.funs.1];omega)) fun v hv=>?_
        subst hv
        refine Kd (sb [2,0]) (dj_val rfl rfl (sub_of [2,0] rfl) (fun _ _ h=>r_build (cs:=[_,_]) bt114 rfl rfl h) (dE (h:=fun Kd=>j_bslice1 ru75 so114 zv114 rfl rfl rfl rfl rfl fun b236=>Kd (sb [3,1]) (dE (h:=fun Kd=>?_)))))
        refine j_appO 1 rfl hOj ru75 el114 rfl rfl rfl rfl rfl (by omega) rfl fun y237 p237 c237 hO237=>?_
        refine Kd (sb [2,0]) (dF [2,0] 3 ru77 so75 (k:=dE (h:=fun Kd=>jB [_,_,_,_] (_::_::_::_::_::_::_) 2 so75 (k:=Kd (.inl rfl) (K32 (CJ.t [(0,_),(2,_),(3,_),(12,_),(191,_),(192,_),(193,_),(218,_),(219,_),(220,_)] (k:=cj_reg (jI (k:=jM (k:=j_nil (ej_then ?_)))))))))))
        exact fun w' hH hf=>hKLj (j+1,y237,p237,c237) _ w' ⟨hj',by rw[take_flat hj'];exact hO237⟩ hf (hH.drop 0) (by simp only;omega) sR
       ·have hje:j=x.locs[k4].lines.length:=by omega
        subst hje
        rw[List.take_of_length_le (Nat.le_refl _)]at hOj
        clear hKLj hj h221
        refine cj_exit (K28 (cj_reg (jF 4 ru31 so25 (k:=jH 3 ag25 (k:=?_)))))
        refine j_valw rfl (fun a w ha hH hf=>r_ldA (vs:=[_,_,_,_]) 1 rfl rfl ag77 so77 rfl rfl rfl ha hH) (j_bslice1 ru25 so77 zv77 rfl rfl rfl rfl rfl fun b243=>?_)
        refine j_appO 2 rfl hO4 ru25 el77 rfl rfl rfl rfl rfl (by omega) rfl fun y244 p244 c244 hO244=>?_
        refine jF 4 ru31 so25 (k:=jB [_,_,_,_,_,_,_,_,_,_,_,_,_,_] (_::_::_::_::_::_) 3 so25 (k:=K26 (cj_reg (jI (k:=jM (k:=j_nil (ej_then ?_)))))))
        exact fun w' hH hf=>hKL4 (k4+1,y244,p244,c244,lq++[(x.locs[k4],.slice qj x.locs[k4].lines.length dj)],yj::RL) _ w' ⟨hk',by rw[List.map_append,hlq, ← List.take_append_getElem hk'];rfl,by rw[List.flatMap_append];exact hO244,fun q hq=>by
          rcases List.mem_append.1 hq with hq|hq
          ·obtain ⟨z,hz,h⟩:=hLQ q hq
           exact ⟨z,List.mem_cons_of_mem _ hz,h⟩
          ·simp at hq;subst hq
           exact ⟨yj,List.Mem.head _,qj,dj,rfl,hOj⟩,fun z hz=>List.mem_cons_of_mem _ (hRL z hz)⟩ hf (Hp.rot4 (hH.drop 1)) (by simp only;omega) ⟨rfl,rfl,rfl,rfl,rfl,rfl,trivial⟩
     ·have hke4:k4=x.locs.length:=by omega
      subst hke4
      rw[List.take_of_length_le (Nat.le_refl _)]at hlq
      clear hKL4 hk4 h194
      refine cj_exit (K22 (CJ.t [(0,_),(2,_),(3,_)] (k:=sQ fun K34=>sQ fun K35=>cj_reg (jM (k:=jN (k:=jF 2 ru125 so119 (k:=jL ag119 hc0 2 (k:=jE ru119 (k:=jM (k:=K35 (cj_block ?_)))))))))))
      intro v5 hH5' hf5'
      have hPV:PV v5 x (.slice q1 k1 d1) (.slice q3 k3 d3) (.slice q5 k5 d5) (.slice q4 x.locs.length d4) (.slice pC x.comments.length cC):=⟨?h1,?h2,?h3,⟨lq,hlq,hO4.os hH5' (i:=0) rfl,fun q hq=>?h4⟩,?h5⟩
      case h1=>exact Own.osM hO1 hH5' (by simp only[List.mem_cons];exact .inr (.inr (.inr (hRL y1 (by simp)))))
      case h2=>exact Own.osM hO3 hH5' (by simp only[List.mem_cons];exact .inr (.inr (.inr (hRL y3 (by simp)))))
      case h3=>exact Own.osM hO5 hH5' (by simp only[List.mem_cons];exact .inr (.inr (.inr (hRL y5 (by simp)))))
      case h4=>
       obtain ⟨z,hz,p,c,e,h⟩:=hLQ q hq
       rw[e]
       exact Own.osM h hH5' (by simp only[List.mem_cons];exact .inr (.inr (.inr hz)))
      case h5=>exact Own.osM hOC hH5' (by simp only[List.mem_cons];exact .inr (.inr (.inr (hRL yC (by simp)))))
      refine c_loop (σ:=Nat×List (PSample×SV)×Ent×Option Addr×Nat) (fun s=>[(0,ptr g.pb),(2,ptr b2),(3,ptr b3),(250,.slice p2 x.samples.length c2),(251,.int .i64 (x.samples.length:Nat)),(252,.int .i64 (s.1:Nat))])
       (fun s w'=>s.1≤x.samples.length∧Hp ⟨w,w.heap.size,[]⟩ w' [s.2.2.1,eI b3 tIP (cOP x (.slice q1 k1 d1) (.slice s.2.2.2.1 s.1 s.2.2.2.2) (.slice q3 k3 d3) (.slice q4 x.locs.length d4) (.slice q5 k5 d5) (.slice pC x.comments.length cC) x.per),eI b2 tIP zIP]∧Fm.ok ⟨w,w.heap.size,[]⟩ w'∧PV w' x (.slice q1 k1 d1) (.slice q3 k3 d3) (.slice q5 k5 d5) (.slice q4 x.locs.length d4) (.slice pC x.comments.length cC)∧s.2.1.map (·.1)=x.samples.take s.1∧Own tSm 4 s.2.2.1 s.2.2.2.1 s.1 s.2.2.2.2 (s.2.1.flatMap cSmI)∧SmsV w' s.2.1) (fun s=>x.samples.length - s.1)
       (0,[],nilE tSm,none,0) sR ⟨Nat.zero_le _,Hp.off (Hp.head2 (hH5'.drop 0)),hf5',hPV,rfl,Own.nil,fun q hq=>(by cases hq)⟩ ?_
      clear hPV hH5' hf5'
      rintro ⟨k2,sq,y2,q2,d2⟩ u2 ⟨hk2,hHu,hfu,hPV,hsq2,hO2,hSM⟩ KL2 hKL2
      try dsimp only at hk2 hHu hfu hPV hsq2 hO2 hSM
      have hsz:w.heap.size≤u2.heap.size:=hfu.size
      have hc0:=mc (f:=⟨u2,w.heap.size,[tSm,tIP]⟩) (fr_row hfu rfl _ _ hpf) rfl
      refine C.begin ⟨u2,w.heap.size,[tSm,tIP]⟩ [y2,eI b3 tIP (cOP x (.slice q1 k1 d1) (.slice q2 k2 d2) (.slice q3 k3 d3) (.slice q4 x.locs.length d4) (.slice q5 k5 d5) (.slice pC x.comments.length cC) x.per),eI b2 tIP zIP] ok_refl (Hp.again (Nat.le_refl _) hHu (TagOK.own (.row (.row .nil rfl) rfl) hO2 rfl)) ?_
      try dsimp only
      refine sQ fun K36=>cj_reg (jS (k:=K36 (sQ fun K37=>?_)))
      refine cj_dec rfl (fun h253=>?_) (fun h253=>?_)
      ·have hk':k2<x.samples.length:=by omega
       obtain ⟨bq,rfl,hsq⟩:=hx2 (by omega)
       have hkb:k2<g.sams.length:=by rw[hQ.sams.1];exact hk'
       have hSQ:=hQ.sams.2 _ _ _ (List.getElem?_eq_getElem hkb) (List.getElem?_eq_getElem hk')
       have hSQu:SamQ u2 g.locs g.sams[k2] x.samples[k2]:=hSQ.mono (fun cs=>fr_row hfu rfl _ cs) (fr_row hfu rfl) (fr_row hfu rfl) (fr_row hfu rfl) fun b es ck h=>fr_mapE hfu rfl es ck h
       obtain ⟨ls,vs,lm,nm,iv,xv,hst,hls,hvs, -⟩:=id hSQu
       obtain ⟨pS,lS,cS,rfl,hlS, -,hSx⟩:=hls.openF
       obtain rfl:lS=x.samples[k2].stack.length:=by simpa using hlS.symm
       obtain ⟨pV,lV,cV,rfl,hlV, -, -⟩:=hvs.openF
       obtain rfl:lV=x.samples[k2].values.length:=by simpa using hlV.symm
       obtain ⟨hval, -,hs60,hLab,hsk⟩:=hx.samples _ (List.getElem_mem hk')
       have hcell:∀w',Fm.ok ⟨u2,w.heap.size,[tSm,tIP]⟩ w'→w'.cell? ⟨bq,0+k2*1,none⟩=some (ptr g.sams[k2]):=fun w' hf=>by
        have hfw:Fm.ok ⟨w,w.heap.size,[tSm,tIP]⟩ w':=Fr.trans (hfu.mono (.inl (Nat.le_refl _))) hf (.inl (Nat.le_refl _))
        have h:=hsq ⟨w,w.heap.size,[tSm,tIP]⟩ rfl rfl w' hfw k2 (ptr g.sams[k2]) (by rw[List.getElem?_map,List.getElem?_eq_getElem hkb];rfl)
        simpa using h
       have hcs:=mc (f:=⟨u2,w.heap.size,[tSm,tIP]⟩) (T:=tSam) hst rfl
       have hloU:OS pLoc 1 u2 _ (g.locs.map ptr):=hlo.mono (fr_row hfu rfl)
       have hBlU:∀b∈g.locs,∃cs,Blk u2 b tLoc cs:=fun b hb=>by obtain ⟨cs,h⟩:=hBl b hb;exact ⟨cs,fr_row hfu rfl _ _ h⟩
       refine cj_skip (K37 (sQ fun K38=>cj_block (sQ fun K39=>cj_reg (jJ ru119 so142 (k:=?_)))))
       refine j_valw rfl (fun a w ha hH hf=>r_load ag142 rfl (hcell w hf) ha) (jA (k:=K39 (sQ fun K40=>cj_reg ?_)))
       refine j_bslice0 ru53 so2 rfl fun b256=>jM (k:=jN (k:=jF 1 ru147 so53 (k:=jL ag53 hcs 1 (k:=?_))))
       refine j_appS 0 rfl Own.empty ru53 el2 rfl rfl rfl hvs rfl (fun z hz=>by obtain ⟨u, -,rfl⟩:=List.mem_map.1 hz;rfl) (by omega) rfl fun y261 p261 c261 hO261=>?_
       rw[Nat.zero_add,List.nil_append]at hO261
       refine j_eqv (u:=.slice p261 x.samples[k2].values.length c261) (by rw[Nat.zero_add]) ?_
       refine j_val rfl (fun _ _ h=>r_build (cs:=[(.slice none 0 0),_,(.slice none 0 0),(.slice none 0 0)]) bt57 rfl rfl h) (j_allocA (zs:=[(.slice none 0 0),(.slice none 0 0),(.slice none 0 0),(.slice none 0 0)]) zv57 rfl fun b17=>jB [_,_,_,_] (_::_::_::_::_::_) 0 so57 (k:=K40 (CJ.t [(0,_),(2,_),(3,_),(16,_),(17,_),(250,_),(251,_),(252,_)] (k:=sQ fun K41=>sQ fun K42=>cj_reg (jM (k:=jN (k:=jF 0 ru147 so121 (k:=jL ag121 hcs 0 (k:=jE ru121 (k:=jM (k:=?_)))))))))))
       refine K42 (cj_block ?_)
       refine cj_loop (σ:=Nat×Ent×Option Addr×Nat) (fun s=>[(0,ptr g.pb),(2,ptr b2),(3,ptr b3),(16,ptr g.sams[k2]),(17,ptr b17),(250,.slice (some ⟨bq,0,none⟩) x.samples.length c2),(251,.int .i64 (x.samples.length:Nat)),(252,.int .i64 (k2:Nat)),(266,.slice pS x.samples[k2].stack.length cS),(267,.int .i64 (x.samples[k2].stack.length:Nat)),(268,.int .i64 (s.1:Nat))])
        (fun s=>s.2.1::eI b17 tSm [.slice s.2.2.1 s.1 s.2.2.2,.slice p261 x.samples[k2].values.length c261,vN,vN]::y261::y2::eI b3 tIP (cOP x (.slice q1 k1 d1) (.slice q2 k2 d2) (.slice q3 k3 d3) (.slice q4 x.locs.length d4) (.slice q5 k5 d5) (.slice pC x.comments.length cC) x.per)::[eI b2 tIP zIP])
        (fun s _=>s.1≤x.samples[k2].stack.length∧Own tInt 1 s.2.1 s.2.2.1 s.1 s.2.2.2 ((x.samples[k2].stack.take s.1).map (.int .i64))) (fun s=>x.samples[k2].stack.length - s.1)
        (0,nilE tInt,none,0) sR (fun w' hH hf=>⟨Hp.off hH,Nat.zero_le _,Own.nil⟩) ?_
       rintro ⟨m,ym,qm,dm⟩ wm ⟨hm,hOm⟩ hfm hHm KLm hKLm
       try dsimp only at hm hOm
       refine C.begin _ _ hfm hHm ?_
       try dsimp only
       refine sQ fun K43=>cj_reg (jS (k:=K43 (sQ fun K44=>?_)))
       refine cj_dec rfl (fun h269=>?_) (fun h269=>?_)
       ·have hm':m<x.samples[k2].stack.length:=by omega
        obtain ⟨bi,rfl,hcx⟩:=hSx (by omega)
        obtain ⟨hz0,hzl⟩:=hsk _ (List.getElem_mem hm')
        have hci1:∀w',Fm.ok ⟨u2,w.heap.size,[tSm,tIP]⟩ w'→w'.cell? ⟨bi,0+m*1,none⟩=some (ptrAt g.locs x.samples[k2].stack[m]):=fun w' hf=>by
         have h:=hcx ⟨u2,w.heap.size,[tSm,tIP]⟩ rfl rfl w' hf m (ptrAt g.locs x.samples[k2].stack[m]) (by rw[List.getElem?_map,List.getElem?_eq_getElem hm'];rfl)
         simpa using h
        refine cj_skip (K44 (sQ fun K45=>cj_block (sQ fun K46=>cj_reg (jJ ru121 so134 (k:=?_)))))
        refine j_valw rfl (fun a w ha hH hf=>r_load ag134 rfl (hci1 w hf) ha) (jA (k:=K46 ?_))
        refine cj_drawI 11 (lts [0,1,2,3,4,5,6]++(7,false)::((8,false)::((9,false)::(lts [10]++(11,false)::[])))) [1] rfl (by kernel_rfl) (by kernel_rfl) (dF [1] 0 ru57 so32 (k:=dH [1] 0 ag32 (k:=dM [1] (k:=dN [1] (k:=dF [1] 4 ru125 so121 (k:=dL [1] ag121 hc0 4 (k:=dM [1] (k:=dE (h:=fun Kd=>?_)))))))))
        refine j_callQ (φ:=fun v=>v=.int .i64 x.samples[k2].stack[m]) Tryz.call68 rfl rfl (fun w3 hH hf=>idxL_c w3 g.locs _ x.samples[k2].stack[m] (hloU.mono (fr_row hf rfl)) (fun b hb=>by obtain ⟨cs,h⟩:=hBlU b hb;exact ⟨cs,fr_row hf rfl _ _ h⟩) hQ.nlocs (by omega) (by rw[hQ.locs.1];exact hzl) (by rw[hQ.locs.1];omega)) fun v hv=>?_
        subst hv
        refine Kd (sb [1]) (dE (h:=fun Kd=>j_bslice1 ru32 so3 zv3 rfl rfl rfl rfl rfl fun b280=>Kd (sb [2]) (dE (h:=fun Kd=>?_))))
        refine j_appO 0 rfl hOm ru32 el3 rfl rfl rfl rfl rfl (by omega) rfl fun y281 p281 c281 hO281=>?_
        refine Kd (sb [1]) (dF [1] 0 ru57 so32 (k:=dE (h:=fun Kd=>jB [_,_,_,_] (_::_::_::_::_::_::_) 1 so32 (k:=Kd (.inl rfl) (K45 (CJ.t [(0,_),(2,_),(3,_),(16,_),(17,_),(250,_),(251,_),(252,_),(266,_),(267,_),(268,_)] (k:=cj_reg (jI (k:=jM (k:=j_nil (ej_then ?_)))))))))))
        exact fun w' hH hf=>hKLm (m+1,y281,p281,c281) _ w' ⟨hm',by rw[← List.take_append_getElem hm',List.map_append];exact hO281⟩ hf hH (by simp only;omega) sR
       ·have hme:m=x.samples[k2].stack.length:=by omega
        subst hme
        rw[List.take_of_length_le (Nat.le_refl _)]at hOm
        clear hKLm hm h269
        refine cj_exit (K41 (sQ fun K47=>cj_reg (jM (k:=?_))))
        refine j_callE (R:=fun w1 v w2=>(∃vt vn,v=.tuple #[vt,vn]∧TxV w2 vt x.samples[k2]∧NuV w2 vn x.samples[k2])∧Fr 0 [] w1 w2) Tryz.call69 rfl rfl (fun w1 hH hf=>labels_c w1 g.locs g.sams[k2] x.samples[k2] (hSQu.mono (fun cs=>fr_row hf rfl _ cs) (fr_row hf rfl) (fr_row hf rfl) (fr_row hf rfl) fun b es ck h=>fr_mapE hf rfl es ck h) hLab) fun w1 v w2 hH1 hf1 hR=>?_
        obtain ⟨⟨vt,vn,rfl,hTx,hNu⟩,hf12⟩:=hR
        obtain ⟨pt9,lt9,ct9,rfl⟩:∃p l c,vt=.slice p l c:=by obtain ⟨_,⟨_,p,l,c,e,_⟩,_⟩:=hTx;exact ⟨p,l,c,e⟩
        obtain ⟨pn9,ln9,cn9,rfl⟩:∃p l c,vn=.slice p l c:=by obtain ⟨_,⟨_,p,l,c,e,_⟩,_⟩:=hNu;exact ⟨p,l,c,e⟩
        have hH2:=hH1.fr hf12
        have hfu2:Fm.ok ⟨u2,w.heap.size,[tSm,tIP]⟩ w2:=hf1.fr hf12
        have hst4:OS tInt 1 w2 (.slice qm x.samples[k2].stack.length dm) (x.samples[k2].stack.map (.int .i64)):=hOm.os hH2 (i:=0) rfl
        have hvs4:OS tI64 1 w2 (.slice p261 x.samples[k2].values.length c261) (x.samples[k2].values.map (.int .i64)):=hO261.os hH2 (i:=2) rfl
        refine J.begin ⟨w2,w.heap.size,[tSm,tIP]⟩ [eI b17 tSm [.slice qm x.samples[k2].stack.length dm,.slice p261 x.samples[k2].values.length c261,vN,vN],y2,eI b3 tIP (cOP x (.slice q1 k1 d1) (.slice q2 k2 d2) (.slice q3 k3 d3) (.slice q4 x.locs.length d4) (.slice q5 k5 d5) (.slice pC x.comments.length cC) x.per),eI b2 tIP zIP] ok_refl (Hp.again hsz ((hH2.drop 0).drop 1) (TagOK.row (TagOK.own (.row (.row .nil rfl) rfl) hO2 rfl) rfl)) ?_
        refine jM (k:=jX (k:=jX (k:=jF 2 ru57 so54 (k:=jB [_,_,_,_] (_::_::_::_::_) 0 so54 (k:=jF 3 ru57 so55 (k:=jB [_,_,_,_] (_::_::_::_::_) 0 so55 (k:=K47 (cj_reg (jF 2 ru31 so23 (k:=jH 2 ag23 (k:=?_)))))))))))
        refine j_valw rfl (fun a w ha hH hf=>r_ldA (vs:=[_,_,_,_]) 0 rfl rfl ag57 so57 rfl rfl rfl ha hH) (j_bslice1 ru23 so57 zv57 rfl rfl rfl rfl rfl fun b294=>?_)
        refine j_appO 1 rfl hO2 ru23 el57 rfl rfl rfl rfl rfl (by omega) rfl fun y295 p295 c295 hO295=>?_
        refine jF 2 ru31 so23 (k:=jB [_,_,_,_,_,_,_,_,_,_,_,_,_,_] (_::_::_::_::_) 2 so23 (k:=K38 (CJ.t [(0,_),(2,_),(3,_),(250,_),(251,_),(252,_)] (k:=cj_reg (jI (k:=jM (k:=j_nil (ej_then ?_))))))))
        intro w9 hH hf
        have hsz2:w.heap.size≤w2.heap.size:=Nat.le_trans hsz hfu2.size
        have hfr29:Fr w.heap.size [tSm,tIP] u2 w9:=Fr.trans hfu2 hf (.inr ⟨Nat.le_refl _,fun _ h=>h⟩)
        have hfw:Fm.ok ⟨w,w.heap.size,[]⟩ w9:=ok_back (W0:=[]) hfu (.inl (Nat.le_refl _)) hfr29
        exact hKL2 (k2+1,sq++[(x.samples[k2],⟨.slice qm x.samples[k2].stack.length dm,.slice p261 x.samples[k2].values.length c261,.slice pt9 lt9 ct9,.slice pn9 ln9 cn9⟩)],y295,p295,c295) _ w9 ⟨hk',Hp.back hsz2 (.inl (Nat.le_refl _)) (hH.drop 0),hfw,hPV.fr hfr29 rfl,by rw[List.map_append,hsq2, ← List.take_append_getElem hk'];rfl,by rw[List.flatMap_append];exact hO295,fun q hq=>by
          rcases List.mem_append.1 hq with hq|hq
          ·exact hSM.fr hfr29 rfl q hq
          ·simp at hq;subst hq
           exact ⟨hst4.mono (fr_row hf rfl),hvs4.mono (fr_row hf rfl),hTx.mono (fr_row hf rfl) (fr_row hf rfl),hNu.mono (fr_row hf rfl) (fr_row hf rfl)⟩⟩ (by simp only;omega) ⟨rfl,rfl,rfl,rfl,rfl,rfl,trivial⟩
      ·have hke2:k2=x.samples.length:=by omega
       subst hke2
       rw[List.take_of_length_le (Nat.le_refl _)]at hsq2
       refine cj_exit (K34 (sQ fun K48=>cj_reg (j_valw rfl (fun a w ha hH hf=>r_ldA (vs:=[_,_,_,_,_,_,_,_,_,_,_,_,_,_]) 1 rfl rfl ag31 so31 rfl rfl rfl ha hH) ?_)))
       refine j_storeW 2 rfl rfl rfl rfl so31 rfl rfl rfl rfl rfl ?_
       refine K48 (cj_ret ?_)
       exact ej_ret1C Tryz.results28 ag31 so31 rfl rfl (fun w' hH hf=>⟨_,hH.get (i:=2) rfl rfl⟩) fun w' hH hf=>⟨⟨_,rfl,_,_,_,_,_,_,sq,rfl,hPV.fr hf rfl,hsq2,hO2.os hH (i:=0) rfl,hSM.fr hf rfl⟩,fr_all (ok_back (W0:=[]) hfu (.inl (Nat.le_refl _)) hf)⟩
theorem EncAll.mk' {α:Type} {bb:Nat} {u:World} {f:FuncId} {bs:List Nat} {xs:List α} {φ:Nat→α→Prop} {R:α→List Nat→Prop} (h:Each bs xs φ) (hn:xs.length≤60) (hp:∀b x,x∈xs→φ b x→∃M,R x M∧Enc B bb u f (ptr b) M):∃Ms,All2 xs Ms R∧EncAll B bb u f bs Ms:=by
 obtain ⟨Ms,h1,h2⟩:=h.pick (R:=fun b x M=>R x M∧Enc B bb u f (ptr b) M) hp
 refine ⟨Ms,⟨h1,fun i a M ha hM=>?_⟩,⟨by rw[h.1,h1],fun i b M hb hM=>?_,by omega⟩⟩
 ·have hl:=(List.getElem?_eq_some_iff.1 ha).1
  have hb:bs[i]? =some (bs[i]'(by rw[h.1];exact hl)):=List.getElem?_eq_getElem _
  exact (h2 i _ a M hb ha hM).1
 ·have hl:=(List.getElem?_eq_some_iff.1 hb).1
  have ha:xs[i]? =some (xs[i]'(by rw[← h.1];exact hl)):=List.getElem?_eq_getElem _
  exact (h2 i b _ M hb ha hM).2
section
variable {B B0 bb:Nat} {w0 u:World} {x:PProf} {g:G} {T:List ByteArray}
theorem enc_types (hE:PreE B0 w0 u x g T) (hl:T.length≤100000000) (hn:x.types.length≤60):∃Ms,All2 x.types Ms (MT T)∧EncAll B bb u 223 g.types Ms:=
 EncAll.mk' hE.types hn fun b t _ h=>by
  obtain ⟨n,m,hb,h1,h2⟩:=h
  exact ⟨vtB n m,⟨n,m,rfl,h1,h2⟩,fun w1 D hF hB hl'=>vtEnc_c B w1 bb D n m (h1.wrap hl) (h2.wrap hl) (fr_row hF rfl _ _ hb) hB (by omega)⟩
theorem enc_maps (hE:PreE B0 w0 u x g T) (hr:Rng x) (hl:T.length≤100000000) (hn:x.mappings.length≤60):∃Ms,All2 x.mappings Ms (MM T)∧EncAll B bb u 228 g.maps Ms:=
 EncAll.mk' hE.maps hn fun b t ht h=>by
  obtain ⟨n,k,hb,h1,h2⟩:=h
  obtain ⟨r1,r2,r3,r4⟩:=hr.maps t ht
  have q1:=u64_range r1
  have q2:=u64_range r2
  have q3:=u64_range r3
  have q4:=u64_range r4
  refine ⟨_,⟨n,k,rfl,h1,h2⟩,fun w1 D hF hB hl'=>mpEnc_c B w1 bb D t.id.toNat t.start.toNat t.limit.toNat t.offset.toNat n k t.fu t.fi t.li t.inl (by omega) (by omega) (by omega) (by omega) (h1.wrap hl) (h2.wrap hl) (b:=b) (fi:=t.file) (bu:=t.build) ?_ hB (by omega)⟩
  simp only[Int.toNat_of_nonneg q1.1,Int.toNat_of_nonneg q2.1,Int.toNat_of_nonneg q3.1,Int.toNat_of_nonneg q4.1]
  exact fr_row hF rfl _ _ hb
theorem enc_funs (hE:PreE B0 w0 u x g T) (hr:Rng x) (hl:T.length≤100000000) (hn:x.funcs.length≤60):∃Ms,All2 x.funcs Ms (MF T)∧EncAll B bb u 246 g.funs Ms:=
 EncAll.mk' hE.funs hn fun b t ht h=>by
  obtain ⟨n,k,i,hb,h1,h2,h3⟩:=h
  obtain ⟨r1,r2⟩:=hr.funs t ht
  have q1:=u64_range r1
  refine ⟨_,⟨n,k,i,rfl,h1,h2,h3⟩,fun w1 D hF hB hl'=>fnEnc_c B w1 bb D t.id.toNat n k i t.start (by omega) (h1.wrap hl) (h2.wrap hl) (h3.wrap hl) r2 (b:=b) (na:=t.name) (sy:=t.system) (fi:=t.file) ?_ hB (by omega)⟩
  simp only[Int.toNat_of_nonneg q1.1]
  exact fr_row hF rfl _ _ hb
def lnsX (x:PProf) (g:G) (l:PLoc):List (Value×Int×Nat):=l.lines.map fun n=>(ptrAt g.funs n.fn,n.line,(fnid x n.fn).toNat)
theorem os_lines (hr:Rng x) (hL:LRel (fidV x g) w0 u) {ls:Value} {l:PLoc} (hos:OS tLine 3 w0 ls (l.lines.flatMap (cLine g.funs))) (hF:Full x u ls l.lines):OS tLine 3 u ls ((lnsX x g l).flatMap cLn):=by
 obtain ⟨y,p,n,c,rfl,hO,hy⟩:=hos
 have hl1:(l.lines.flatMap (cLine g.funs)).length=l.lines.length*3:=flatMap_len (sz:=3) (fun _=>rfl) _
 have hl2:((lnsX x g l).flatMap cLn).length=l.lines.length*3:=by rw[flatMap_len (c:=cLn) (sz:=3) (fun _=>rfl)];simp[lnsX]
 obtain ⟨s1,s2,s3⟩:=hO.sl
 rcases s3 with ⟨hon,hp,⟨ex,hex⟩,hc⟩|⟨hon,hp,hc⟩
 ·obtain ⟨cs',hb,hlc⟩:=hL _ _ (hy hon)
  refine ⟨{ y with cs:=cs' },p,n,c,rfl,⟨hO.hT,hO.hw,hO.ho,by rw[hl2, ← hl1];exact s1,s2,.inl ⟨hon,hp,⟨cs'.drop (l.lines.length*3),?_⟩,by simp only;rw[hlc.1];exact hc⟩⟩,fun _=>hb⟩
  have hcl:l.lines.length*3≤cs'.length:=by rw[hlc.1,hex,List.length_append];omega
  have key:cs'.take (l.lines.length*3)=(lnsX x g l).flatMap cLn:=by
   apply List.ext_getElem?
   intro j
   by_cases hj:j<l.lines.length*3
   ·rw[List.getElem?_take_of_lt hj]
    have hi:j/3<l.lines.length:=by omega
    have hlx:(lnsX x g l)[j/3]? =some (ptrAt g.funs l.lines[j/3].fn,l.lines[j/3].line,(fnid x l.lines[j/3].fn).toNat):=by simp[lnsX,hi]
    have hg:=flatMap_get (c:=cLn) (sz:=3) (fun _=>rfl) hlx (j%3)
    have hg0:=flatMap_get (c:=cLine g.funs) (sz:=3) (fun _=>rfl) (List.getElem?_eq_getElem hi) (j%3)
    have hjj:j/3*3+j%3=j:=by omega
    rw[hjj]at hg hg0
    have h3:j%3=0∨j%3=1∨j%3=2:=by omega
    rcases h3 with h3|h3|h3
    ·rw[(hlc.2 j).1 (by omega),hex,List.getElem?_append_left (by omega),hg0 (ptrAt g.funs l.lines[j/3].fn) (by rw[h3];rfl),hg (ptrAt g.funs l.lines[j/3].fn) (by rw[h3];rfl)]
    ·rw[(hlc.2 j).1 (by omega),hex,List.getElem?_append_left (by omega),hg0 (.int .i64 l.lines[j/3].line) (by rw[h3];rfl),hg (.int .i64 l.lines[j/3].line) (by rw[h3];rfl)]
    ·have h4:=hF p n c y.b rfl hp (j/3) _ (List.getElem?_eq_getElem hi)
     rw[hb.cell,show j/3*3+2=j by omega]at h4
     rw[h4,hg (.int .u64 ((fnid x l.lines[j/3].fn).toNat:Nat)) (by rw[h3];rfl),Int.toNat_of_nonneg (hr.fnid _).1]
   ·rw[List.getElem?_eq_none (by simp;omega),List.getElem?_eq_none (by omega)]
  rw[← key,List.take_append_drop]
 ·have hn0:n=0:=by omega
  have hz:l.lines.length=0:=by omega
  refine ⟨y,p,n,c,rfl,⟨hO.hT,hO.hw,hO.ho,by rw[hl2, ← hl1];exact s1,s2,.inr ⟨hon,hp,hc⟩⟩,fun h=>by rw[hon]at h;cases h⟩
theorem enc_locs (hE:PreE B0 w0 u x g T) (hr:Rng x) (hx:WellP x) (hn:x.locs.length≤60):∃Ms,All2 x.locs Ms (ML x)∧EncAll B bb u 254 g.locs Ms:=
 EncAll.mk' hE.locs hn fun b t ht h=>by
  obtain ⟨ls,hb,hos,hF⟩:=h
  obtain ⟨r1,r2,r3⟩:=hr.locs t ht
  have q1:=u64_range r1
  have q2:=u64_range r2
  have q3:=hr.mid t.mapping
  have hlen:=(hx.tab.locs t ht).2.1
  obtain ⟨mp,hmp⟩:∃mp,ptrAt g.maps t.mapping=.pointer mp:=⟨_,rfl⟩
  rw[hmp]at hb
  have hq:LnOK (lnsX x g t):=⟨fun q hq=>by
   obtain ⟨n,hn,rfl⟩:=List.mem_map.1 hq
   have:=hr.fnid n.fn
   exact ⟨by simp only;omega,r3 n hn⟩,by simp[lnsX];omega⟩
  have:=lcEnc_c B u bb b t.id.toNat (mid x t.mapping).toNat t.addr.toNat mp ls false (lnsX x g t) (by omega) (by omega) (by omega) hq (by
   simp only[Int.toNat_of_nonneg q1.1,Int.toNat_of_nonneg q2.1,Int.toNat_of_nonneg q3.1];exact hb) (os_lines hr hE.lines hos hF)
  refine ⟨_,rfl,?_⟩
  have e:lcB t.id.toNat (mid x t.mapping).toNat t.addr.toNat (lnsX x g t)=optB 1 t.id.toNat++(optB 2 (mid x t.mapping).toNat++(optB 3 t.addr.toNat++msB 4 (t.lines.map fun n=>lnB (fnid x n.fn).toNat n.line))):=by
   unfold lcB lnsX
   rw[List.map_map];rfl
  rw[← e];exact this
theorem labE_len (h:LabP s):(labE s).length≤7200:=by
 have h0:(s.texts.flatMap labE1).length≤60*s.texts.length:=flatMap_bound fun t ht=>by
  simp only[labE1,List.length_map]
  exact (h.tl t ht).2.1
 have h1:(s.nums.flatMap labE2).length≤60*s.nums.length:=flatMap_bound fun t ht=>by
  simp only[labE2,List.length_map]
  exact (h.nl t ht).2
 have h3:=h.nlen
 have h4:=h.tlen
 simp only[labE,List.length_append]
 omega
theorem LbR.wraps {lbs:List (Int×Int×Int)} (h:LbR T lbs (labE s)) (hl:T.length≤100000000) (hz:∀t∈s.nums,∀z∈t.list,IntKind.i64.wrap z=z):∀q∈lbs,IntKind.i64.wrap q.1=q.1∧IntKind.i64.wrap q.2.1=q.2.1∧IntKind.i64.wrap q.2.2=q.2.2:=by
 intro q hq
 obtain ⟨i,hi⟩:=List.mem_iff_getElem?.1 hq
 have hil:=(List.getElem?_eq_some_iff.1 hi).1
 have he:(labE s)[i]? =some ((labE s)[i]'(by rw[← h.1];exact hil)):=List.getElem?_eq_getElem _
 obtain ⟨h1,h2⟩:=h.2 i _ _ hi he
 refine ⟨h1.wrap hl,?_⟩
 have hm:=List.mem_of_getElem? he
 generalize (labE s)[i]'(by rw[← h.1];exact hil)=e at*
 simp only[labE,List.mem_append,List.mem_flatMap]at hm
 rcases hm with ⟨t,ht,hm⟩|⟨t,ht,hm⟩
 ·obtain ⟨v,hv,rfl⟩:=List.mem_map.1 hm
  obtain ⟨h2,h3⟩:=h2
  exact ⟨h2.wrap hl,by rw[h3];rfl⟩
 ·obtain ⟨v,hv,rfl⟩:=List.mem_map.1 hm
  obtain ⟨h2,h3⟩:=h2
  simp only at h3
  exact ⟨by rw[h2];rfl,by rw[h3];exact hz t ht v hv⟩
theorem enc_sams (hE:PreE B0 w0 u x g T) (hr:Rng x) (hx:WellP x) (hl:T.length≤100000000) (hn:x.samples.length≤60):∃Ms,All2 x.samples Ms (MS T x)∧EncAll B bb u 261 g.sams Ms:=
 EncAll.mk' hE.sams hn fun b t ht h=>by
  obtain ⟨ls,vs,lm,nm,iv,xv,lbs,hb,hv,hi,hxv,hlb⟩:=h
  obtain ⟨r1,r2,r3,r4,r5⟩:=hx.samples t ht
  have hv':OS tI64 1 u vs (t.values.map (.int .i64)):=hv.mono (fr_row hE.fr rfl)
  have hi':OS tU64 1 u iv ((t.stack.map fun z=>(lid x z).toNat).map fun (n:Nat)=>Value.int .u64 (n:Int)):=by
   rw[List.map_map]
   have e:(t.stack.map fun z=>Value.int .u64 (lid x z))=t.stack.map ((fun (n:Nat)=>Value.int .u64 (n:Int))∘fun z=>(lid x z).toNat):=List.map_congr_left fun z _=>by
    simp only[Function.comp_apply,Int.toNat_of_nonneg (hr.lid z).1]
   rw[← e];exact hi
  have hlbl:lbs.length≤7200:=by rw[hlb.1];exact labE_len r4
  have hq:SmOK (t.stack.map fun z=>(lid x z).toNat) t.values lbs:=⟨fun n hn=>by
   obtain ⟨z,hz,rfl⟩:=List.mem_map.1 hn
   have:=hr.lid z
   omega,hlb.wraps hl (hr.nums t ht),by simp;omega,by have:=hx.ntyp;omega,by omega⟩
  exact ⟨_,⟨lbs,hlb,rfl⟩,smEnc_c B u bb b ls vs lm nm (.map none) iv xv _ _ lbs hq hb hi' hv' hxv⟩
end
theorem me_Prof (v a:Value) (w:World):(callMethod (.iface 59 v) encN #[a]).run Tryz.prog w=.ok (.enter 192 #[v,a]) w:=by kernel_rfl
theorem All2.all {α:Type} {xs:List α} {Ms:List (List Nat)} {R:α→List Nat→Prop} {φ:List Nat→Prop} (h:All2 xs Ms R) (hp:∀a M,a∈xs→R a M→φ M):∀M∈Ms,φ M:=by
 intro M hM
 obtain ⟨i,hi⟩:=List.mem_iff_getElem?.1 hM
 have hl:=(List.getElem?_eq_some_iff.1 hi).1
 have ha:xs[i]? =some (xs[i]'(by rw[← h.1];exact hl)):=List.getElem?_eq_getElem _
 exact hp _ M (List.mem_of_getElem? ha) (h.2 i _ M ha hi)
section
variable {B B0 bb:Nat} {w0 u:World} {x:PProf} {g:G} {T:List ByteArray} {q:PIn}
theorem pf_len (h:PR x T q) (hr:Rng x) (hx:WellP x) (hT:sumS T≤100000000):(pfB q).length≤2000000000:=by
 have hl:T.length≤100000000:=Nat.le_trans len_sumS hT
 have n1:=hx.ntyp
 have n2:=hx.nsam
 have n3:=hx.tab.m.2.2
 have n5:=hx.tab.f.2.2
 have n4:=hx.tab.l.2.2
 simp only[List.length_map]at n3 n4 n5
 have b1:=msB_len (tag:=1) (c:=40) (by omega) (by omega) (h.ts.all fun t M _ hM=>by
  obtain ⟨n,m,rfl,h1,h2⟩:=hM
  exact vtB_len n m (h1.wrap hl) (h2.wrap hl))
 have b2:=msB_len (tag:=2) (c:=600000) (by omega) (by omega) (h.ss.all fun t M ht hM=>by
  obtain ⟨lbs,hlb,rfl⟩:=hM
  obtain ⟨r1,r2,r3,r4,r5⟩:=hx.samples t ht
  have hw:=hlb.wraps hl (hr.nums t ht)
  have hll:lbs.length≤7200:=by rw[hlb.1];exact labE_len r4
  have o1:=usB_len (tag:=1) (ns:=t.stack.map fun z=>(lid x z).toNat) (by omega) (fun n hn=>by
   obtain ⟨z,hz,rfl⟩:=List.mem_map.1 hn
   have:=hr.lid z
   omega) (by simp;omega)
  have o2:=zsB_len (tag:=2) (by omega) t.values
  have o3:=msB_len (tag:=3) (c:=60) (Ms:=lbs.map fun q=>lbB q.1 q.2.1 q.2.2) (by omega) (by omega) fun M hM=>by
   obtain ⟨q,hq,rfl⟩:=List.mem_map.1 hM
   exact lbB_len _ _ _ (hw q hq).1 (hw q hq).2.1 (hw q hq).2.2
  simp only[List.length_map]at o1 o3
  have:=hx.ntyp
  simp only[smB,List.length_append]
  omega)
 have b3:=msB_len (tag:=3) (c:=200) (by omega) (by omega) (h.ms.all fun t M ht hM=>by
  obtain ⟨n,k,rfl,h1,h2⟩:=hM
  obtain ⟨r1,r2,r3,r4⟩:=hr.maps t ht
  have q1:=u64_range r1
  have q2:=u64_range r2
  have q3:=u64_range r3
  have q4:=u64_range r4
  exact mpB_len _ _ _ _ _ _ _ _ _ _ (by omega) (by omega) (by omega) (by omega) (h1.wrap hl) (h2.wrap hl))
 have b4:=msB_len (tag:=4) (c:=5000) (by omega) (by omega) (h.ls.all fun t M ht hM=>by
  unfold ML at hM
  subst hM
  obtain ⟨r1,r2,r3⟩:=hr.locs t ht
  have q1:=u64_range r1
  have q2:=u64_range r2
  have q3:=hr.mid t.mapping
  have hlen:=(hx.tab.locs t ht).2.1
  have o1:=optB_len (k:=1) (n:=t.id.toNat) (by omega) (by omega)
  have o2:=optB_len (k:=2) (n:=(mid x t.mapping).toNat) (by omega) (by omega)
  have o3:=optB_len (k:=3) (n:=t.addr.toNat) (by omega) (by omega)
  have o4:=msB_len (tag:=4) (c:=40) (Ms:=t.lines.map fun n=>lnB (fnid x n.fn).toNat n.line) (by omega) (by omega) fun M hM=>by
   obtain ⟨n,hn,rfl⟩:=List.mem_map.1 hM
   have:=hr.fnid n.fn
   exact lnB_len _ _ (by omega) (r3 n hn)
  simp only[List.length_map]at o4
  simp only[List.length_append]
  omega)
 have b5:=msB_len (tag:=5) (c:=100) (by omega) (by omega) (h.fs.all fun t M ht hM=>by
  obtain ⟨n,k,i,rfl,h1,h2,h3⟩:=hM
  obtain ⟨r1,r2⟩:=hr.funs t ht
  have q1:=u64_range r1
  exact fnB_len _ _ _ _ _ (by omega) (h1.wrap hl) (h2.wrap hl) (h3.wrap hl) r2)
 have b6:=strsB_len (tag:=6) (by omega) hT
 have o7:=optB_len (k:=7) (n:=u64 q.dx) (by omega) (u64_lt _)
 have o8:=optB_len (k:=8) (n:=u64 q.kx) (by omega) (u64_lt _)
 have o9:=optB_len (k:=9) (n:=u64 q.ti) (by omega) (u64_lt _)
 have o10:=optB_len (k:=10) (n:=u64 q.du) (by omega) (u64_lt _)
 have o12:=optB_len (k:=12) (n:=u64 q.pe) (by omega) (u64_lt _)
 have o11:(if q.tx≠0∨q.ux≠0 then encF (.bys 11 (vtB q.tx q.ux)) else []).length≤51:=by
  split
  ·have h1:=vtB_len q.tx q.ux (h.tx.wrap hl) (h.ux.wrap hl)
   have:=encF_len (tag:=11) (M:=vtB q.tx q.ux) (by omega) (by omega)
   omega
  ·simp
 have e1:=h.ts.1
 have e2:=h.ss.1
 have e3:=h.ms.1
 have e4:=h.ls.1
 have e5:=h.fs.1
 have e6:=h.tab
 rw[← e6]at b6 hT
 simp only[pfB,List.length_append]
 omega
theorem enc_prof (hE:PreE B0 w0 u x g T) (hr:Rng x) (hx:WellP x) (hT:sumS T≤100000000) (bb:Nat):∃q,PR x T q∧Enc B bb u 192 (ptr g.pb) (pfB q):=by
 have hl:T.length≤100000000:=Nat.le_trans len_sumS hT
 have n3:=hx.tab.m.2.2
 have n5:=hx.tab.f.2.2
 have n4:=hx.tab.l.2.2
 simp only[List.length_map]at n3 n4 n5
 obtain ⟨ty,sa,ma,lo,fu,co,dx,kx,sx,hb,h1,h2,h3,h4,h5,h6,hdx,hkx⟩:=hE.prof
 obtain ⟨tx,ux,hper,htx,hux⟩:=hE.per
 have f:=hE.fr
 obtain ⟨ts,a1,e1⟩:=enc_types (B:=B) (bb:=bb) hE hl hx.ntyp
 obtain ⟨ss,a2,e2⟩:=enc_sams (B:=B) (bb:=bb) hE hr hx hl hx.nsam
 obtain ⟨ms,a3,e3⟩:=enc_maps (B:=B) (bb:=bb) hE hr hl n3
 obtain ⟨ls,a4,e4⟩:=enc_locs (B:=B) (bb:=bb) hE hr hx n4
 obtain ⟨fs,a5,e5⟩:=enc_funs (B:=B) (bb:=bb) hE hr hl n5
 refine ⟨⟨ts,ss,ms,ls,fs,T,dx,kx,x.time,x.dur,x.period,tx,ux⟩,⟨a1,a2,a3,a4,a5,rfl,hE.zero,hE.sub,hE.nd,hdx,hkx,rfl,rfl,rfl,htx,hux⟩,?_⟩
 exact pfEnc_c B u bb g.pb g.per ⟨ts,ss,ms,ls,fs,T,dx,kx,x.time,x.dur,x.period,tx,ux⟩ _ _ _ _ _ _ _ _ _ _ _ _ sx 0 _ _ _ _ _ ⟨hdx.wrap hl,hkx.wrap hl,hr.time,hr.dur,hr.period,htx.wrap hl,hux.wrap hl⟩ hb hper
  (h1.mono (fr_row f rfl)) (h2.mono (fr_row f rfl)) (h3.mono (fr_row f rfl)) (h4.mono (fr_row f rfl)) (h5.mono (fr_row f rfl)) h6 e1 e2 e3 e4 e5
end
theorem OfP.keep' {x:PProf} (h:OfP B w x g) (k:Fr 0 [] w w'):OfP B w' x g:=by
 have kr:=fun (b T:Nat) (cs:List Value) (hb:Blk w b T cs)=>k.blk hb (.inr (by simp))
 have km:=fun (b:Nat) es ck (hb:w.heap[b]? =some (.map es ck))=>k.keep _ _ hb (.inr (by simp))
 obtain ⟨ty,sa,ma,lo,fu,co,h1,h2,h3,h4,h5,h6,h7⟩:=h.prof
 exact { prof:=⟨ty,sa,ma,lo,fu,co,kr _ _ _ h1,h2.mono fun b cs=>kr _ _ cs,h3.mono fun b cs=>kr _ _ cs,h4.mono fun b cs=>kr _ _ cs,h5.mono fun b cs=>kr _ _ cs,h6.mono fun b cs=>kr _ _ cs,h7.mono fun b cs=>kr _ _ cs⟩
         per:=kr _ _ _ h.per
         types:=h.types.mono fun b t=>kr _ _ _
         maps:=h.maps.mono fun b t=>kr _ _ _
         funs:=h.funs.mono fun b t=>kr _ _ _
         locs:=h.locs.mono fun b l hl=>hl.mono (fun b cs=>kr _ _ cs) (fun b cs=>kr _ _ cs)
         sams:=h.sams.mono fun b l hl=>hl.mono (fun b cs=>kr _ _ cs) (fun b cs=>kr _ _ cs) (fun b cs=>kr _ _ cs) (fun b cs=>kr _ _ cs) (fun b es ck=>km _ _ _)
         ntypes:=h.ntypes
         nmaps:=h.nmaps
         nfuns:=h.nfuns
         nlocs:=h.nlocs
         nsams:=h.nsams
         fresh:=h.fresh
         rows:=fun b hb=>(h.rows b hb).mono fun b cs=>kr _ _ cs }
theorem marshal_c (w:World) (v0:Value) (φ:List Nat→Prop) (he:∀bb,∃M,φ M∧Enc w.heap.size bb w 192 v0 M∧M.length≤2000000000):
  Calls Tryz.prog 87 #[.iface 59 v0] w (Ret fun v w'=>(∃M,φ M∧OS tU8 1 w' v (M.map bv))∧Fr 0 [] w w'):=by
 refine startJ (args:=[_]) [(0,_)] 0 [] [] func87 rfl ntmps87 rfl rfl .nil ?_
 refine sQ fun K1=>cj_reg (jA (k:=K1 (sQ fun K2=>cj_reg ?_)))
 refine j_allocA (zs:=[(.int .i64 0),(.int .i64 0),(.int .u64 0),(.slice none 0 0),(.int .u8 0),(.int .u8 0),(.int .u8 0),(.int .u8 0),(.int .u8 0),(.int .u8 0),(.int .u8 0),(.int .u8 0),(.int .u8 0),(.int .u8 0),(.int .u8 0),(.int .u8 0),(.int .u8 0),(.int .u8 0),(.int .u8 0),(.int .u8 0)]) zv198 rfl fun b3=>K2 (sQ fun K3=>cj_reg (jM (k:=?_)))
 refine j_callI (R:=fun w1 _ w2=>(∃M,φ M∧Bf w.heap.size w2 b3 M)∧Fr w.heap.size wE w1 w2) (g:=192) (as':=[v0,ptr b3]) (fun w=>me_Prof v0 (ptr b3) w) rfl rfl rfl (fun w1 hH hf=>by
   obtain ⟨M,h1,h2,h3⟩:=he b3
   refine Calls.mono (h2 w1 [] (hf.quiet _ _) ⟨hH.fresh (i:=0) rfl rfl rfl,_,_,_,_,_,_,nilE tU8,hH.get (i:=0) rfl rfl,rfl,rfl,Own.nil,fun h=>by simp[nilE]at h⟩ (by simp;omega)) fun e w2 hR=>?_
   cases e with
   |returned v=>exact ⟨⟨M,h1,by simpa using hR.1⟩,hR.2⟩
   |panicked c=>exact hR.elim
   |outgrown=>exact hR.elim) fun w1 v w2 hH1 hf1 hR=>?_
 obtain ⟨⟨M,hφ,hB2⟩,hF2⟩:=hR
 obtain ⟨f,t,u,p,c,tmp,y,hblk,htl,hts,hO,hy⟩:=hB2.ex
 have hfr:Fr 0 [] w w2:=Fr.trans hf1 hF2 (.inl (Nat.le_refl _))
 refine J.begin ⟨w2,0,[]⟩ [⟨b3,tBuf,cBuf f t u (.slice p M.length c) tmp,false,true,none⟩] ok_refl (Hp.add trivial hblk (fun h=>by cases h) (by simp)) ?_
 refine K3 (sQ fun K4=>cj_reg (jF 3 ru198 so36 (k:=jH 0 ag36 (k:=jA (k:=K4 (cj_ret ?_))))))
 exact ej_ret1 results87 rfl fun w' hH hf=>⟨⟨M,hφ,y,p,M.length,c,rfl,hO,fun ho=>hf.blk (hy ho).2 (.inr (by simp))⟩,hfr.trans hf (.inr ⟨Nat.le_refl _,fun _ h=>h⟩)⟩
theorem bytes_c (B:Nat) (w:World) (x:PProf) (g:G) (hG:OfP B w x g) (hx:WellP x) (hr:Rng x) (hS:sumS (allS x)≤100000000):
  Calls Tryz.prog 48 #[ptr g.pb] w (Ret fun v w'=>(∃T q,PR x T q∧OS tU8 1 w' v ((pfB q).map bv))∧Fr B (tProf::wP) w w'):=by
 have hSl:(allS x).length≤100000000:=Nat.le_trans len_sumS hS
 refine startJ (args:=[_]) [(0,_)] 0 [] [] func48 rfl ntmps48 rfl rfl .nil ?_
 refine sQ fun K1=>cj_reg (jA (k:=K1 (sQ fun K2=>cj_reg (jM (k:=?_)))))
 refine j_callE (R:=fun w1 _ w2=>∃T,PreE B w1 w2 x g T) call86 rfl rfl (fun w1 hH hf=>preEncode_c B w1 x g (hG.keep' hf) hx hSl) fun w1 v w2 hH1 hf1 hR=>?_
 obtain ⟨T,hE⟩:=hR
 have hT:sumS T≤100000000:=Nat.le_trans (sumS_sub hE.nd hE.sub) hS
 have hfr:Fr B (tProf::wP) w w2:=Fr.trans (hf1.quiet B (tProf::wP)) hE.fr (.inr ⟨Nat.le_refl _,fun _ h=>h⟩)
 refine J.begin ⟨w2,0,[]⟩ [] ok_refl .nil ?_
 refine K2 (sQ fun K3=>cj_reg (jM (k:=?_)))
 refine j_val rfl (fun _ _ h=>r_mki ru59 rfl rfl h) ?_
 refine j_callE (R:=fun w3 v w4=>(∃M,(∃q,PR x T q∧M=pfB q)∧OS tU8 1 w4 v (M.map bv))∧Fr 0 [] w3 w4) call87 rfl rfl (fun w3 hH hf=>marshal_c w3 (ptr g.pb) (fun M=>∃q,PR x T q∧M=pfB q) fun bb=>by
   obtain ⟨q,h1,h2⟩:=enc_prof (B:=w3.heap.size) hE hr hx hT bb
   exact ⟨_,⟨q,h1,rfl⟩,h2.later (hf.quiet _ _),pf_len h1 hr hx hT⟩) fun w3 v w4 hH3 hf3 hR=>?_
 obtain ⟨⟨_,⟨q,hq,rfl⟩,hos⟩,hf4⟩:=hR
 have hfr4:Fr B (tProf::wP) w w4:=Fr.trans (Fr.trans hfr (hf3.quiet B (tProf::wP)) (.inr ⟨Nat.le_refl _,fun _ h=>h⟩)) (hf4.quiet B (tProf::wP)) (.inr ⟨Nat.le_refl _,fun _ h=>h⟩)
 refine J.begin ⟨w4,0,[]⟩ [] ok_refl .nil ?_
 refine jA (k:=K3 (cj_ret ?_))
 exact ej_ret1 results48 rfl fun w' hH hf=>⟨⟨T,q,hq,hos.mono fun b cs h=>hf.blk h (.inr (by simp))⟩,Fr.trans hfr4 (hf.quiet B (tProf::wP)) (.inr ⟨Nat.le_refl _,fun _ h=>h⟩)⟩
theorem write_c (w:World) (cs:List Value) (x:PProf) (h:RProf w cs x) (hx:WellP x) (hS:sumS (allS x)≤100000000):
  Calls Tryz.prog 14 #[.agg cs.toArray] w (Ret fun v w'=>(∃T q,PR x T q∧OS tU8 1 w' v ((pfB q).map bv))∧Fr 0 [] w w'):=by
 have hP:=h
 obtain ⟨la,lsa,lm,ll,lf,lcm,rfl, -⟩:=h
 refine startJ (args:=[_]) [(0,_)] 0 [] [] func14 rfl ntmps14 rfl rfl .nil ?_
 refine sQ fun K1=>cj_reg (j_boxA (vs:=[_,_,_,_,_,_,_,_,_,_,_,_,_,_]) rfl rfl fun b1=>jA (k:=K1 (sQ fun K2=>cj_reg ?_)))
 refine j_valw rfl (fun a w ha hH hf=>r_ldA (vs:=[_,_,_,_,_,_,_,_,_,_,_,_,_,_]) 0 rfl rfl ag31 so31 rfl rfl rfl ha hH) ?_
 refine j_callE (R:=fun w1 v w2=>(∃g,v=ptr g.pb∧OfP w1.heap.size w2 x g)∧Fr 0 [] w1 w2) call46 rfl rfl (fun w1 hH hf=>of_c w1 _ x (RProf.keep (hf.keepAll (.inr rfl)) _ _ hP) hx) fun w1 v w2 hH1 hf1 hR=>?_
 obtain ⟨⟨g,rfl,hG⟩,hq2⟩:=hR
 have hfr:Fr 0 [] w w2:=Fr.trans hf1 hq2 (.inr ⟨Nat.le_refl _,fun _ h=>h⟩)
 refine J.begin ⟨w2,0,[]⟩ [] ok_refl .nil ?_
 refine j_callE (R:=fun w3 v w4=>(∃T q,PR x T q∧OS tU8 1 w4 v ((pfB q).map bv))∧Fr w1.heap.size (tProf::wP) w3 w4) call48 rfl rfl (fun w3 hH hf=>bytes_c w1.heap.size w3 x g (hG.keep' hf) hx (RProf.rng hP) hS) fun w3 v w4 hH3 hf3 hR=>?_
 obtain ⟨⟨T,q,hq,hos⟩,hf4⟩:=hR
 have hfr4:Fr 0 [] w w4:=Fr.trans (Fr.trans hfr hf3 (.inr ⟨Nat.le_refl _,fun _ h=>h⟩)) hf4 (.inl hf1.size)
 refine J.begin ⟨w4,0,[]⟩ [] ok_refl .nil ?_
 refine jA (k:=K2 (cj_ret ?_))
 exact ej_ret1 results14 rfl fun w' hH hf=>⟨⟨T,q,hq,hos.mono fun b cs h=>hf.blk h (.inr (by simp))⟩,Fr.trans hfr4 hf (.inr ⟨Nat.le_refl _,fun _ h=>h⟩)⟩
def cM (fs:List Fld):Msg:=fs.map fun f=>(.fld f,encF f)
theorem mB_cM (fs:List Fld):mB (cM fs)=encFs fs:=by simp[mB,cM,encFs,List.flatMap_map]
theorem flds_cM (fs:List Fld):flds (cM fs)=fs:=by
 unfold flds cM
 rw[List.filterMap_map]
 exact List.filterMap_some
def WfT (tb:Nat→Nat) (f:Fld):Prop:=match f with
 | .num k n=>k<1048576∧n<18446744073709551616∧tb k≠2
 | .bys k _=>k<1048576∧tb k≠1
abbrev Wft (tb:Nat→Nat) (gs:List Fld):Prop:=∀f∈gs,WfT tb f
theorem Wft.app {tb:Nat→Nat} {a b:List Fld} (h:Wft tb a) (k:Wft tb b):Wft tb (a++b):=fun f hf=>(List.mem_append.1 hf).elim (h f) (k f)
theorem Wft.opt {tb:Nat→Nat} (hk:k<1048576) (hn:n<18446744073709551616) (ht:tb k≠2):Wft tb (numOpt k n):=fun f hf=>by
 unfold numOpt at hf
 split at hf
 ·cases hf
 ·simp at hf;subst hf;exact ⟨hk,hn,ht⟩
theorem encF_two (f:Fld):(fbytes f).length+2≤(encF f).length:=by
 cases f with
 |num k n=>have:=vint_pos (8*k);have:=vint_pos n;simp only[encF,fbytes,List.length_append,List.length_nil];omega
 |bys k b=>have:=vint_pos (8*k+2);have:=vint_pos b.length;simp only[encF,fbytes,List.length_append];omega
theorem encFs_mem:∀{f:Fld},f∈fs→(fbytes f).length≤(encFs fs).length:=by
 induction fs with
 |nil=>intro f h;cases h
 |cons a r ih=>
  intro f hf
  rw[encFs_cons,List.length_append]
  rcases List.mem_cons.1 hf with rfl|hf
  ·have:=encF_two f;omega
  ·have:=ih hf;omega
theorem MOK.canon {tb:Nat→Nat} (h:Wft tb fs) (hl:(encFs fs).length≤2000000000):MOK tb (cM fs):=by
 refine ⟨fun g hg=>?_,fun g hg=>?_,by rw[mB_cM];exact hl⟩
 ·obtain ⟨f,hf,rfl⟩:=List.mem_map.1 hg
  have h1:=h f hf
  have h2:=encFs_mem hf
  cases f with
  |num k n=>exact ⟨_,_,rfl,VEnc.canon (by have:=h1.1;omega),VEnc.canon h1.2.1,h1.1,h1.2.1⟩
  |bys k B=>
   simp only[fbytes]at h2
   exact ⟨_,_,by simp only[encF,List.append_assoc],VEnc.canon (by have:=h1.1;omega),VEnc.canon (by omega),h1.1,by omega⟩
 ·obtain ⟨f,hf,rfl⟩:=List.mem_map.1 hg
  have h1:=h f hf
  cases f with
  |num k n=>exact h1.2.2
  |bys k B=>exact h1.2
theorem oneF_ne {s:Nat}:∀{fs:List Fld},(∀f∈fs,fkey f≠k)→oneF k s fs=s
 |[],_=>rfl
 |a::r,h=>by
    have h1:=h a (by simp)
    show oneF k (if fkey a=k then fnum a else s) r=s
    rw[if_neg h1]
    exact oneF_ne fun f hf=>h f (by simp[hf])
theorem oneF_opt (k j n s:Nat):oneF k s (numOpt j n)=if j=k then (if n=0 then s else n) else s:=by
 unfold numOpt oneF
 by_cases hn:n=0
 ·simp[hn]
 ·by_cases hj:j=k<;>simp[hn,hj,fkey,fnum]
theorem ite_zero_self (n:Nat):(if n=0 then 0 else n)=n:=by split<;>omega
abbrev msF (k:Nat) (Ms:List (List Nat)):List Fld:=Ms.map (.bys k)
abbrev strF (k:Nat) (ss:List ByteArray):List Fld:=ss.map fun s=>.bys k (sB s)
theorem key_ms {Ms:List (List Nat)}:∀f∈msF k Ms,fkey f=k:=fun f hf=>by
 obtain ⟨M, -,rfl⟩:=List.mem_map.1 hf;rfl
theorem key_str {ss:List ByteArray}:∀f∈strF k ss,fkey f=k:=fun f hf=>by
 obtain ⟨M, -,rfl⟩:=List.mem_map.1 hf;rfl
theorem key_opt:∀f∈numOpt k n,fkey f=k:=fun f hf=>by
 unfold numOpt at hf;split at hf
 ·cases hf
 ·simp at hf;subst hf;rfl
theorem key_num {ns:List Nat}:∀f∈ns.map (Fld.num k),fkey f=k:=fun f hf=>by
 obtain ⟨M, -,rfl⟩:=List.mem_map.1 hf;rfl
theorem oneF_of {s:Nat} (h:∀f∈fs,fkey f=j) (hj:j≠k):oneF k s fs=s:=oneF_ne fun f hf=>by rw[h f hf];exact hj
theorem flt_of (h:∀f∈fs,fkey f=j) (hj:j≠k):(fs.filter fun f=>fkey f=k)=[]:=List.filter_eq_nil_iff.2 fun f hf=>by rw[h f hf];simpa using hj
theorem flt_self (h:∀f∈fs,fkey f=k):(fs.filter fun f=>fkey f=k)=fs:=List.filter_eq_self.2 fun f hf=>by simp[h f hf]
theorem fb_ms (k:Nat) (Ms:List (List Nat)):(msF k Ms).map fbytes=Ms:=by simp[msF,Function.comp_def,fbytes]
theorem fb_str (k:Nat) (ss:List ByteArray):(strF k ss).map fbytes=ss.map sB:=by simp[strF,Function.comp_def,fbytes]
theorem enc_opt (k n:Nat):encFs (numOpt k n)=optB k n:=by
 unfold numOpt optB numB
 split<;>simp[encFs,encF]
theorem enc_ms (k:Nat) (Ms:List (List Nat)):encFs (msF k Ms)=msB k Ms:=List.flatMap_map ..
theorem enc_str (k:Nat) (ss:List ByteArray):encFs (strF k ss)=strsB k ss:=List.flatMap_map ..
theorem GMny.app {a b:List Fld} {na nb:List (List Nat)} (h:GMny k a na) (g:GMny k b nb):GMny k (a++b) (na++nb):=by
 refine ⟨by simp[h.len,g.len],fun i f ns hf hn=>?_⟩
 by_cases hi:i<a.length
 ·rw[List.getElem?_append_left hi]at hf
  rw[List.getElem?_append_left (by rw[h.len];exact hi)]at hn
  exact h.at_ i f ns hf hn
 ·rw[List.getElem?_append_right (by omega)]at hf
  rw[List.getElem?_append_right (by rw[h.len];omega),h.len]at hn
  exact g.at_ _ f ns hf hn
theorem GMny.none {a:List Fld} (h:∀f∈a,fkey f≠k):GMny k a (a.map fun _=>[]):=by
 refine ⟨by simp,fun i f ns hf hn=>?_⟩
 rw[if_neg (h f (List.mem_of_getElem? hf))]
 rw[List.getElem?_map,hf]at hn
 simpa using hn.symm
theorem GMny.nums (k:Nat) (ns:List Nat) (h:∀n∈ns,n<18446744073709551616):GMny k (ns.map (.num k)) (ns.map fun n=>[n]):=by
 refine ⟨by simp,fun i f ms hf hn=>?_⟩
 rw[List.getElem?_map]at hf hn
 obtain ⟨n,h1,rfl⟩:=Option.map_eq_some_iff.1 hf
 rw[h1]at hn
 simp at hn
 rw[if_pos (show fkey (Fld.num k n)=k from rfl)]
 exact ⟨hn.symm,h n (List.mem_of_getElem? h1)⟩
theorem GMny.one {f:Fld} {ns:List Nat} (hk:fkey f=k) (hv:GV f ns):GMny k [f] [ns]:=⟨rfl,fun i g ms hf hn=>by
 cases i with
 |zero=>simp at hf hn;subst hf;subst hn;rw[if_pos hk];exact hv
 |succ i=>simp at hf⟩
theorem flat_none (a:List Fld):(a.map fun _=>([]:List Nat)).flatten=[]:=by
 induction a with
 |nil=>rfl
 |cons x r ih=>simp
theorem flat_single:∀ns:List Nat,(ns.map fun n=>[n]).flatten=ns
 |[]=>rfl
 |a::r=>by have:=flat_single r;simp only[List.map_cons,List.flatten_cons,this];rfl
theorem Vs.canon:∀(ns:List Nat),(∀n∈ns,n<18446744073709551616)→Vs ns (ns.flatMap vint)
 |[],_=>rfl
 |n::r,h=>⟨_,_,by rw[List.flatMap_cons],VEnc.canon (h n (by simp)),h n (by simp),Vs.canon r fun m hm=>h m (by simp[hm])⟩
def usF (k:Nat) (ns:List Nat):List Fld:=if 2<ns.length then [.bys k (ns.flatMap vint)] else ns.map (.num k)
theorem enc_us (k:Nat) (ns:List Nat):encFs (usF k ns)=usB k ns:=by
 unfold usF usB
 split
 ·simp[encFs]
 ·rw[encFs,List.flatMap_map];rfl
theorem key_us {ns:List Nat}:∀f∈usF k ns,fkey f=k:=fun f hf=>by
 unfold usF at hf;split at hf
 ·simp at hf;subst hf;rfl
 ·exact key_num f hf
theorem GMny.us (k:Nat) (ns:List Nat) (h:∀n∈ns,n<18446744073709551616):∃nss,GMny k (usF k ns) nss∧nss.flatten=ns:=by
 unfold usF
 split
 ·exact ⟨_,GMny.one rfl (Vs.canon ns h),by simp⟩
 ·exact ⟨_,GMny.nums k ns h,flat_single ns⟩
theorem All2.choose {α:Type} {S:α→List Fld→Prop} {R:α→List Nat→Prop}:∀{xs:List α} {ys:List (List Nat)},All2 xs ys R→(∀M∈ys,M.length≤2000000000)→(∀a∈xs,∀M,M.length≤2000000000→R a M→∃gs,encFs gs=M∧S a gs)→∃gss:List (List Fld),gss.map encFs=ys∧All2 xs gss S
 |[],[],_,_,_=>⟨[],rfl,rfl,by simp⟩
 |[],_::_,h,_,_=>by have:=h.1;simp at this
 |_::_,[],h,_,_=>by have:=h.1;simp at this
 |a::xs,M::ys,h,hb,hp=>by
    obtain ⟨gss,h1,h3⟩:=All2.choose (S:=S) (R:=R) (xs:=xs) (ys:=ys) ⟨by have:=h.1;simpa using this,fun i a' M' ha hM=>h.2 (i+1) a' M' (by simpa using ha) (by simpa using hM)⟩ (fun M hM=>hb M (by simp[hM])) fun a' ha=>hp a' (by simp[ha])
    obtain ⟨g,h4,h6⟩:=hp a (by simp) M (hb M (by simp)) (h.2 0 a M rfl rfl)
    refine ⟨g::gss,by simp[h1,h4],by simp[h3.1],fun i a' g' ha hg=>?_⟩
    cases i with
    |zero=>simp at ha hg;subst ha;subst hg;exact h6
    |succ i=>exact h3.2 i a' g' (by simpa using ha) (by simpa using hg)
theorem GSub.of {α:Type} {xs:List α} {gss:List (List Fld)} {S:α→Msg→Prop} (he:(fs.filter fun f=>fkey f=k).map fbytes=gss.map encFs) (h:All2 xs gss fun a gs=>S a (cM gs)):(gss.map cM).length=xs.length∧GSub k fs (gss.map cM) fun i q=>∀t,xs[i]? =some t→S t q:=
 ⟨by simpa using h.1,by rw[he,List.map_map];exact List.map_congr_left fun g _=>(mB_cM g).symm,fun i m hm t ht=>by
  rw[List.getElem?_map]at hm
  obtain ⟨g,h1,rfl⟩:=Option.map_eq_some_iff.1 hm
  exact h.2 i t g ht h1⟩
theorem u64_nat (h:k<18446744073709551616):u64 (k:Int)=k:=by
 have:=u64_cast (k:Int)
 rw[wrapU h]at this
 omega
theorem At.u64 {T:List ByteArray} {n:Int} {s:ByteArray} (h:At T n s) (hl:T.length≤100000000):T[u64 n]? =some s:=by
 obtain ⟨k,rfl,hk⟩:=h
 have:=(List.getElem?_eq_some_iff.1 hk).1
 rw[u64_nat (by omega)];exact hk
theorem wrap_u64 {z:Int} (h:IntKind.i64.wrap z=z):IntKind.i64.wrap ((Go.Proofs.YtifdadlhmlhfiaaGreatDoor.u64 z:Nat):Int)=z:=by
 rw[u64_cast]
 simp[IntKind.wrap,IntKind.bits,IntKind.signed]at h⊢
 omega
def tyF (n m:Int):List Fld:=numOpt 1 (Go.Proofs.YtifdadlhmlhfiaaGreatDoor.u64 n)++numOpt 2 (Go.Proofs.YtifdadlhmlhfiaaGreatDoor.u64 m)
theorem tyF_enc (n m:Int):encFs (tyF n m)=vtB n m:=by simp[tyF,vtB,encFs_append,enc_opt]
theorem tyF_ok {T:List ByteArray} {t:PType} {n m:Int} (hl:T.length≤100000000) (hb:(vtB n m).length≤2000000000) (h1:At T n t.ty) (h2:At T m t.unit):TyM T t (cM (tyF n m)):=by
 refine ⟨.canon ((Wft.opt (by omega) (u64_lt _) (by decide)).app (Wft.opt (by omega) (u64_lt _) (by decide))) (by rw[tyF_enc];exact hb),?_,?_⟩
 ·rw[flds_cM];unfold tyF oneN;simp only[oneF_append,oneF_opt,ite_zero_self, ↓reduceIte,Nat.reduceEqDiff];exact h1.u64 hl
 ·rw[flds_cM];unfold tyF oneN;simp only[oneF_append,oneF_opt,ite_zero_self, ↓reduceIte,Nat.reduceEqDiff];exact h2.u64 hl
theorem MT.go {T:List ByteArray} {t:PType} {M:List Nat} (hl:T.length≤100000000) (hb:M.length≤2000000000) (h:MT T t M):∃gs,encFs gs=M∧TyM T t (cM gs):=by
 obtain ⟨n,m,rfl,h1,h2⟩:=h
 exact ⟨tyF n m,tyF_enc n m,tyF_ok hl hb h1 h2⟩
theorem bnat_lt64 (b:Bool):bnat b<18446744073709551616:=by cases b<;>simp[bnat]
theorem bnat_ne (b:Bool):decide (bnat b≠0)=b:=by cases b<;>simp[bnat]
theorem MM.go {T:List ByteArray} {m:PMapping} {M:List Nat} (hl:T.length≤100000000) (hb:M.length≤2000000000) (hr:IntKind.u64.wrap m.id=m.id∧IntKind.u64.wrap m.start=m.start∧IntKind.u64.wrap m.limit=m.limit∧IntKind.u64.wrap m.offset=m.offset) (h:MM T m M):∃gs,encFs gs=M∧MpM T m (cM gs):=by
 obtain ⟨n,k,rfl,h1,h2⟩:=h
 obtain ⟨r1,r2,r3,r4⟩:=hr
 have r1:=u64_range r1
 have r2:=u64_range r2
 have r3:=u64_range r3
 have r4:=u64_range r4
 have he:encFs (numOpt 1 m.id.toNat++(numOpt 2 m.start.toNat++(numOpt 3 m.limit.toNat++(numOpt 4 m.offset.toNat++(numOpt 5 (Go.Proofs.YtifdadlhmlhfiaaGreatDoor.u64 n)++(numOpt 6 (Go.Proofs.YtifdadlhmlhfiaaGreatDoor.u64 k)++(numOpt 7 (bnat m.fu)++(numOpt 8 (bnat m.fi)++(numOpt 9 (bnat m.li)++numOpt 10 (bnat m.inl))))))))))=mpB m.id.toNat m.start.toNat m.limit.toNat m.offset.toNat n k m.fu m.fi m.li m.inl:=by simp[mpB,encFs_append,enc_opt]
 refine ⟨_,he,?_⟩
 constructor
 ·exact .canon ((Wft.opt (by omega) (by omega) (by decide)).app ((Wft.opt (by omega) (by omega) (by decide)).app ((Wft.opt (by omega) (by omega) (by decide)).app ((Wft.opt (by omega) (by omega) (by decide)).app ((Wft.opt (by omega) (u64_lt _) (by decide)).app ((Wft.opt (by omega) (u64_lt _) (by decide)).app ((Wft.opt (by omega) (bnat_lt64 _) (by decide)).app ((Wft.opt (by omega) (bnat_lt64 _) (by decide)).app ((Wft.opt (by omega) (bnat_lt64 _) (by decide)).app (Wft.opt (by omega) (bnat_lt64 _) (by decide))))))))))) (by rw[he];exact hb)
 ·rw[flds_cM];unfold oneN;simp only[oneF_append,oneF_opt,ite_zero_self, ↓reduceIte,Nat.reduceEqDiff];omega
 ·rw[flds_cM];unfold oneN;simp only[oneF_append,oneF_opt,ite_zero_self, ↓reduceIte,Nat.reduceEqDiff];omega
 ·rw[flds_cM];unfold oneN;simp only[oneF_append,oneF_opt,ite_zero_self, ↓reduceIte,Nat.reduceEqDiff];omega
 ·rw[flds_cM];unfold oneN;simp only[oneF_append,oneF_opt,ite_zero_self, ↓reduceIte,Nat.reduceEqDiff];omega
 ·rw[flds_cM];unfold oneN;simp only[oneF_append,oneF_opt,ite_zero_self, ↓reduceIte,Nat.reduceEqDiff];exact h1.u64 hl
 ·rw[flds_cM];unfold oneN;simp only[oneF_append,oneF_opt,ite_zero_self, ↓reduceIte,Nat.reduceEqDiff];exact h2.u64 hl
 ·rw[flds_cM];unfold oneN;simp only[oneF_append,oneF_opt,ite_zero_self, ↓reduceIte,Nat.reduceEqDiff];exact bnat_ne m.fu
 ·rw[flds_cM];unfold oneN;simp only[oneF_append,oneF_opt,ite_zero_self, ↓reduceIte,Nat.reduceEqDiff];exact bnat_ne m.fi
 ·rw[flds_cM];unfold oneN;simp only[oneF_append,oneF_opt,ite_zero_self, ↓reduceIte,Nat.reduceEqDiff];exact bnat_ne m.li
 ·rw[flds_cM];unfold oneN;simp only[oneF_append,oneF_opt,ite_zero_self, ↓reduceIte,Nat.reduceEqDiff];exact bnat_ne m.inl
theorem MF.go {T:List ByteArray} {f:PFunc} {M:List Nat} (hl:T.length≤100000000) (hb:M.length≤2000000000) (hr:IntKind.u64.wrap f.id=f.id∧IntKind.i64.wrap f.start=f.start) (h:MF T f M):∃gs,encFs gs=M∧FnM T f (cM gs):=by
 obtain ⟨n,k,i,rfl,h1,h2,h3⟩:=h
 have r1:=u64_range hr.1
 have he:encFs (numOpt 1 f.id.toNat++(numOpt 2 (Go.Proofs.YtifdadlhmlhfiaaGreatDoor.u64 n)++(numOpt 3 (Go.Proofs.YtifdadlhmlhfiaaGreatDoor.u64 k)++(numOpt 4 (Go.Proofs.YtifdadlhmlhfiaaGreatDoor.u64 i)++numOpt 5 (Go.Proofs.YtifdadlhmlhfiaaGreatDoor.u64 f.start)))))=fnB f.id.toNat n k i f.start:=by simp[fnB,encFs_append,enc_opt]
 refine ⟨_,he,?_⟩
 constructor
 ·exact .canon ((Wft.opt (by omega) (by omega) (by decide)).app ((Wft.opt (by omega) (u64_lt _) (by decide)).app ((Wft.opt (by omega) (u64_lt _) (by decide)).app ((Wft.opt (by omega) (u64_lt _) (by decide)).app (Wft.opt (by omega) (u64_lt _) (by decide)))))) (by rw[he];exact hb)
 ·rw[flds_cM];unfold oneN;simp only[oneF_append,oneF_opt,ite_zero_self, ↓reduceIte,Nat.reduceEqDiff];omega
 ·rw[flds_cM];unfold oneN;simp only[oneF_append,oneF_opt,ite_zero_self, ↓reduceIte,Nat.reduceEqDiff];exact h1.u64 hl
 ·rw[flds_cM];unfold oneN;simp only[oneF_append,oneF_opt,ite_zero_self, ↓reduceIte,Nat.reduceEqDiff];exact h2.u64 hl
 ·rw[flds_cM];unfold oneN;simp only[oneF_append,oneF_opt,ite_zero_self, ↓reduceIte,Nat.reduceEqDiff];exact h3.u64 hl
 ·rw[flds_cM];unfold oneN;simp only[oneF_append,oneF_opt,ite_zero_self, ↓reduceIte,Nat.reduceEqDiff];exact wrap_u64 hr.2
theorem msF_wft {tb:Nat→Nat} {Ms:List (List Nat)} (hk:k<1048576) (ht:tb k≠1):Wft tb (msF k Ms):=fun f hf=>by
 obtain ⟨M, -,rfl⟩:=List.mem_map.1 hf
 exact ⟨hk,ht⟩
theorem ML.go {x:PProf} {l:PLoc} {M:List Nat} (hr:Rng x) (hlx:l∈x.locs) (hb:M.length≤2000000000) (h:ML x l M):∃gs,encFs gs=M∧LcM x l (cM gs):=by
 unfold ML at h
 obtain ⟨r1,r2,r3⟩:=hr.locs l hlx
 have r1:=u64_range r1
 have r2:=u64_range r2
 have rm:=hr.mid l.mapping
 have hf:∀n:PLine,(fnid x n.fn).toNat<18446744073709551616:=fun n=>by have:=hr.fnid n.fn;omega
 obtain ⟨g,hg⟩:∃g,g=l.lines.map fun n=>numOpt 1 (fnid x n.fn).toNat++numOpt 2 (Go.Proofs.YtifdadlhmlhfiaaGreatDoor.u64 n.line):=⟨_,rfl⟩
 have hge:g.map encFs=l.lines.map fun n=>lnB (fnid x n.fn).toNat n.line:=by rw[hg];simp[Function.comp_def,encFs_append,enc_opt,lnB]
 obtain ⟨gs,hgs⟩:∃gs,gs=numOpt 1 l.id.toNat++(numOpt 2 (mid x l.mapping).toNat++(numOpt 3 l.addr.toNat++msF 4 (g.map encFs))):=⟨_,rfl⟩
 have henc:encFs gs=M:=by rw[h,hgs];simp only[encFs_append,enc_opt,enc_ms,hge]
 have hk4:∀f∈msF 4 (g.map encFs),fkey f=4:=key_ms
 have hlen:∀a∈g,(encFs a).length≤2000000000:=fun a ha=>by
  have h1:Fld.bys 4 (encFs a)∈gs:=by
   rw[hgs];simp only[List.mem_append]
   exact .inr (.inr (.inr (List.mem_map_of_mem (List.mem_map_of_mem ha))))
  have h2:=encFs_mem h1
  rw[henc]at h2
  exact Nat.le_trans h2 hb
 refine ⟨gs,henc,?_⟩
 constructor
 ·refine .canon ?_ (by rw[henc];exact hb)
  rw[hgs]
  exact (Wft.opt (by omega) (by omega) (by decide)).app ((Wft.opt (by omega) (by omega) (by decide)).app ((Wft.opt (by omega) (by omega) (by decide)).app (msF_wft (by omega) (by decide))))
 ·rw[flds_cM];unfold oneN;rw[hgs];simp only[oneF_append];rw[oneF_of hk4 (by decide)];simp only[oneF_append,oneF_opt,ite_zero_self, ↓reduceIte,Nat.reduceEqDiff];omega
 ·rw[flds_cM];unfold oneN;rw[hgs];simp only[oneF_append];rw[oneF_of hk4 (by decide)];simp only[oneF_append,oneF_opt,ite_zero_self, ↓reduceIte,Nat.reduceEqDiff];omega
 ·rw[flds_cM];unfold oneN;rw[hgs];simp only[oneF_append];rw[oneF_of hk4 (by decide)];simp only[oneF_append,oneF_opt,ite_zero_self, ↓reduceIte,Nat.reduceEqDiff];omega
 ·rw[flds_cM]
  obtain ⟨h1,h2⟩:=GSub.of (k:=4) (fs:=gs) (xs:=l.lines) (gss:=g) (S:=LnM x) (by
   rw[hgs];simp only[List.filter_append]
   rw[flt_of key_opt (by decide),flt_of key_opt (by decide),flt_of key_opt (by decide),flt_self hk4]
   simp only[List.nil_append,fb_ms]) (by
   refine ⟨by rw[hg];simp,fun i n a hn ha=>?_⟩
   have hla:=hlen a (List.mem_of_getElem? ha)
   rw[hg,List.getElem?_map,hn]at ha
   simp only[Option.map_some,Option.some.injEq]at ha
   subst ha
   have hnl:=List.mem_of_getElem? hn
   refine ⟨.canon ((Wft.opt (by omega) (hf n) (by decide)).app (Wft.opt (by omega) (u64_lt _) (by decide))) hla,?_,?_⟩
   ·rw[flds_cM];unfold oneN;simp only[oneF_append,oneF_opt,ite_zero_self, ↓reduceIte,Nat.reduceEqDiff]
    have:=hr.fnid n.fn
    omega
   ·rw[flds_cM];unfold oneN;simp only[oneF_append,oneF_opt,ite_zero_self, ↓reduceIte,Nat.reduceEqDiff];exact wrap_u64 (r3 n hnl))
  exact ⟨_,h1,h2⟩
theorem At.zero {T:List ByteArray} {n:Int} {s:ByteArray} (h:At T n s) (hz:T[0]? =some eB) (hn:n=0):s=eB:=by
 obtain ⟨k,rfl,hk⟩:=h
 obtain rfl:k=0:=by omega
 rw[hz]at hk
 exact (Option.some.inj hk).symm
theorem keyT_app (a b:List LE) (k:ByteArray):keyT (a++b) k=keyT a k++keyT b k:=List.filterMap_append
theorem keyN_app (a b:List LE) (k:ByteArray):keyN (a++b) k=keyN a k++keyN b k:=List.filterMap_append
theorem keyT_1 (t:PTexts) (k:ByteArray):keyT (labE1 t) k=if t.key=k then t.list else []:=by
 unfold keyT labE1
 rw[List.filterMap_map]
 split
 ·next h=>rw[show ((fun e:LE=>if e.1=k then e.2.1 else none)∘fun v=>(t.key,some v,(0:Int)))=some from by funext v;simp[h]];exact List.filterMap_some
 ·next h=>rw[show ((fun e:LE=>if e.1=k then e.2.1 else none)∘fun v=>(t.key,some v,(0:Int)))=fun _=>none from by funext v;simp[h]];simp
theorem keyT_2 (t:PNums) (k:ByteArray):keyT (labE2 t) k=[]:=by
 unfold keyT labE2
 rw[List.filterMap_map,List.filterMap_eq_nil_iff]
 intro v _
 simp
theorem keyN_1 (t:PTexts) (k:ByteArray):keyN (labE1 t) k=[]:=by
 unfold keyN labE1
 rw[List.filterMap_map,List.filterMap_eq_nil_iff]
 intro v _
 simp
theorem keyN_2 (t:PNums) (k:ByteArray):keyN (labE2 t) k=if t.key=k then t.list else []:=by
 unfold keyN labE2
 rw[List.filterMap_map]
 split
 ·next h=>rw[show ((fun e:LE=>if e.1=k∧e.2.1=none then some e.2.2 else none)∘fun v=>(t.key,none,v))=some from by funext v;simp[h]];exact List.filterMap_some
 ·next h=>rw[show ((fun e:LE=>if e.1=k∧e.2.1=none then some e.2.2 else none)∘fun v=>(t.key,none,v))=fun _=>none from by funext v;simp[h]];simp
theorem flat_key {α β:Type} {f:α→List β} {k:α→ByteArray} {l:α→List β} (hf:∀a c,k a≠c→True):∀{xs:List α} {a:α},(xs.map k).Nodup→a∈xs→(∀b∈xs,f b=if k b=k a then l b else [])→xs.flatMap f=l a
 |[],_,_,h,_=>by cases h
 |b::r,a,hn,h,hl=>by
    have hn':=List.nodup_cons.1 (by simpa using hn:(k b::r.map k).Nodup)
    rw[List.flatMap_cons,hl b (by simp)]
    rcases List.mem_cons.1 h with rfl|h
    ·rw[if_pos rfl]
     have:r.flatMap f=[]:=List.flatMap_eq_nil_iff.2 fun c hc=>by
      rw[hl c (by simp[hc]),if_neg]
      intro e;exact hn'.1 (by rw[← e];exact List.mem_map_of_mem hc)
     rw[this,List.append_nil]
    ·rw[if_neg (fun e=>hn'.1 (by rw[e];exact List.mem_map_of_mem h)),List.nil_append]
     exact flat_key (fun _ _ _=>trivial) hn'.2 h fun c hc=>hl c (by simp[hc])
theorem keyT_flat {α:Type} (g:α→List LE) (k:ByteArray):∀xs:List α,keyT (xs.flatMap g) k=xs.flatMap fun a=>keyT (g a) k
 |[]=>rfl
 |a::r=>by rw[List.flatMap_cons,keyT_app,keyT_flat g k r,List.flatMap_cons]
theorem keyN_flat {α:Type} (g:α→List LE) (k:ByteArray):∀xs:List α,keyN (xs.flatMap g) k=xs.flatMap fun a=>keyN (g a) k
 |[]=>rfl
 |a::r=>by rw[List.flatMap_cons,keyN_app,keyN_flat g k r,List.flatMap_cons]
theorem LabP.lbs (hT:(s.texts.map (·.key)).Nodup) (hN:(s.nums.map (·.key)).Nodup):LbsS (labE s) s:=by
 refine ⟨fun t ht=>?_,fun t ht=>?_,fun e he v hv=>?_,fun e he hv=>?_⟩
 ·unfold labE
  rw[keyT_app,keyT_flat,keyT_flat,show s.nums.flatMap (fun a=>keyT (labE2 a) t.key)=[] from List.flatMap_eq_nil_iff.2 fun c _=>keyT_2 c _,List.append_nil]
  exact flat_key (k:=(·.key)) (l:=(·.list)) (fun _ _ _=>trivial) hT ht fun b _=>keyT_1 b _
 ·unfold labE
  rw[keyN_app,keyN_flat,keyN_flat,show s.texts.flatMap (fun a=>keyN (labE1 a) t.key)=[] from List.flatMap_eq_nil_iff.2 fun c _=>keyN_1 c _,List.nil_append]
  exact flat_key (k:=(·.key)) (l:=(·.list)) (fun _ _ _=>trivial) hN ht fun b _=>keyN_2 b _
 ·unfold labE at he
  rcases List.mem_append.1 he with he|he
  ·obtain ⟨u,hu,he⟩:=List.mem_flatMap.1 he
   obtain ⟨c,hc,rfl⟩:=List.mem_map.1 he
   exact List.mem_map_of_mem hu
  ·obtain ⟨u,hu,he⟩:=List.mem_flatMap.1 he
   obtain ⟨c,hc,rfl⟩:=List.mem_map.1 he
   cases hv
 ·unfold labE at he
  rcases List.mem_append.1 he with he|he
  ·obtain ⟨u,hu,he⟩:=List.mem_flatMap.1 he
   obtain ⟨c,hc,rfl⟩:=List.mem_map.1 he
   cases hv
  ·obtain ⟨u,hu,he⟩:=List.mem_flatMap.1 he
   obtain ⟨c,hc,rfl⟩:=List.mem_map.1 he
   exact List.mem_map_of_mem hu
def lbF (q:Int×Int×Int):List Fld:=numOpt 1 (Go.Proofs.YtifdadlhmlhfiaaGreatDoor.u64 q.1)++(numOpt 2 (Go.Proofs.YtifdadlhmlhfiaaGreatDoor.u64 q.2.1)++numOpt 3 (Go.Proofs.YtifdadlhmlhfiaaGreatDoor.u64 q.2.2))
theorem lbF_enc (q:Int×Int×Int):encFs (lbF q)=lbB q.1 q.2.1 q.2.2:=by simp[lbF,lbB,encFs_append,enc_opt]
theorem lbF_ok {T:List ByteArray} {q:Int×Int×Int} {e:LE} (hb:(encFs (lbF q)).length≤2000000000) (hl:T.length≤100000000) (hz:T[0]? =some eB) (hne:∀t,e.2.1=some t→t≠eB) (hw:e.2.1=none→IntKind.i64.wrap e.2.2=e.2.2) (h:LbOK T q e):LbM T e (cM (lbF q)):=by
 obtain ⟨h1,h2⟩:=h
 have e1:oneN 1 (lbF q)=Go.Proofs.YtifdadlhmlhfiaaGreatDoor.u64 q.1:=by unfold lbF oneN;simp only[oneF_append,oneF_opt,ite_zero_self, ↓reduceIte,Nat.reduceEqDiff]
 have e2:oneN 2 (lbF q)=Go.Proofs.YtifdadlhmlhfiaaGreatDoor.u64 q.2.1:=by unfold lbF oneN;simp only[oneF_append,oneF_opt,ite_zero_self, ↓reduceIte,Nat.reduceEqDiff]
 have e3:oneN 3 (lbF q)=Go.Proofs.YtifdadlhmlhfiaaGreatDoor.u64 q.2.2:=by unfold lbF oneN;simp only[oneF_append,oneF_opt,ite_zero_self, ↓reduceIte,Nat.reduceEqDiff]
 refine ⟨.canon ((Wft.opt (by omega) (u64_lt _) (by decide)).app ((Wft.opt (by omega) (u64_lt _) (by decide)).app (Wft.opt (by omega) (u64_lt _) (by decide)))) hb,by rw[flds_cM,e1];exact h1.u64 hl,?_⟩
 rw[flds_cM]
 cases hc:e.2.1 with
 |some t=>
  rw[hc]at h2
  simp only at h2⊢
  have h3:=h2.1.u64 hl
  rw[e2]
  refine ⟨fun h0=>?_,h3⟩
  rw[h0,hz]at h3
  exact hne t hc (Option.some.inj h3).symm
 |none=>
  rw[hc]at h2
  simp only at h2⊢
  rw[e2,e3,h2.1,h2.2]
  exact ⟨by rw[← Int.ofNat_zero];exact u64_nat (by omega),wrap_u64 (hw hc)⟩
theorem pw_nodup {ks:List ByteArray} (h:ks.Pairwise fun x y=>ltB x y=true):ks.Nodup:=h.imp fun {a b} h e=>by subst e;rw[ltB_irrefl]at h;cases h
theorem MS.go {x:PProf} {T:List ByteArray} {M:List Nat} (hx:WellP x) (hr:Rng x) (hl:T.length≤100000000) (hz:T[0]? =some eB) (hsx:s∈x.samples) (hb:M.length≤2000000000) (h:MS T x s M):∃gs,encFs gs=M∧SmM x T s (cM gs):=by
 obtain ⟨lbs,hlb,hM⟩:=h
 obtain ⟨hv1,hv2,hst,hLab,hsk⟩:=hx.samples s hsx
 have hid:∀n∈s.stack.map fun z=>(lid x z).toNat,n<18446744073709551616:=fun n hn=>by
  obtain ⟨z, -,rfl⟩:=List.mem_map.1 hn
  have:=hr.lid z
  omega
 obtain ⟨g,hg⟩:∃g,g=lbs.map lbF:=⟨_,rfl⟩
 have hge:g.map encFs=lbs.map fun q=>lbB q.1 q.2.1 q.2.2:=by rw[hg,List.map_map];exact List.map_congr_left fun q _=>lbF_enc q
 obtain ⟨vs,hvs⟩:∃vs,vs=(s.values.map Go.Proofs.YtifdadlhmlhfiaaGreatDoor.u64).map (Fld.num 2):=⟨_,rfl⟩
 have hk2:∀f∈vs,fkey f=2:=by rw[hvs];exact key_num
 have hk3:∀f∈msF 3 (g.map encFs),fkey f=3:=key_ms
 obtain ⟨gs,hgs⟩:∃gs,gs=usF 1 (s.stack.map fun z=>(lid x z).toNat)++(vs++msF 3 (g.map encFs)):=⟨_,rfl⟩
 have henc:encFs gs=M:=by
  rw[hM,hgs,smB,encFs_append,encFs_append,enc_us,enc_ms,hge]
  congr 2
  rw[hvs,encFs,List.flatMap_map,List.flatMap_map];rfl
 have hlen:∀a∈g,(encFs a).length≤2000000000:=fun a ha=>by
  have h1:Fld.bys 3 (encFs a)∈gs:=by
   rw[hgs];simp only[List.mem_append]
   exact .inr (.inr (List.mem_map_of_mem (List.mem_map_of_mem ha)))
  have h2:=encFs_mem h1
  rw[henc]at h2
  exact Nat.le_trans h2 hb
 refine ⟨gs,henc,?_⟩
 constructor
 ·refine .canon ?_ (by rw[henc];exact hb)
  rw[hgs]
  refine Wft.app (fun f hf=>?_) (Wft.app (fun f hf=>?_) (msF_wft (by omega) (by decide)))
  ·unfold usF at hf
   split at hf
   ·simp only[List.mem_singleton]at hf
    subst hf
    exact ⟨by omega,by decide⟩
   ·obtain ⟨n,hn,rfl⟩:=List.mem_map.1 hf
    exact ⟨by omega,hid n hn,by decide⟩
  ·rw[hvs]at hf
   obtain ⟨n,hn,rfl⟩:=List.mem_map.1 hf
   obtain ⟨z, -,rfl⟩:=List.mem_map.1 hn
   exact ⟨by omega,u64_lt z,by decide⟩
 ·obtain ⟨ns1,hn1,hn1f⟩:=GMny.us 1 (s.stack.map fun z=>(lid x z).toNat) hid
  refine ⟨ns1++((vs++msF 3 (g.map encFs)).map fun _=>[]),?_,?_⟩
  ·rw[flds_cM,hgs]
   exact hn1.app (GMny.none fun f hf=>by
    rcases List.mem_append.1 hf with hf|hf
    ·rw[hk2 f hf];decide
    ·rw[hk3 f hf];decide)
  ·rw[List.flatten_append,flat_none,List.append_nil,hn1f,List.map_map]
   refine List.map_congr_left fun z _=>?_
   have:=hr.lid z
   simp only[Function.comp_apply]
   omega
 ·refine ⟨((usF 1 (s.stack.map fun z=>(lid x z).toNat)).map fun _=>[])++(((s.values.map Go.Proofs.YtifdadlhmlhfiaaGreatDoor.u64).map fun n=>[n])++((msF 3 (g.map encFs)).map fun _=>[])),?_,?_⟩
  ·rw[flds_cM,hgs,hvs]
   exact (GMny.none fun f hf=>by rw[key_us f hf];decide).app (GMny.app (GMny.nums 2 _ fun n hn=>by
    obtain ⟨z, -,rfl⟩:=List.mem_map.1 hn
    exact u64_lt z) (GMny.none fun f hf=>by rw[hk3 f hf];decide))
  ·rw[List.flatten_append,List.flatten_append,flat_none,flat_none,List.append_nil,List.nil_append,flat_single,List.map_map]
   conv=>rhs;rw[← List.map_id s.values]
   refine List.map_congr_left fun z hz=>?_
   exact wrap_u64 (hr.vals s hsx z hz)
 ·obtain ⟨h1,h2⟩:=GSub.of (k:=3) (fs:=gs) (xs:=labE s) (gss:=g) (S:=LbM T) (by
   rw[hgs];simp only[List.filter_append]
   rw[flt_of key_us (by decide),flt_of hk2 (by decide),flt_self hk3]
   simp only[List.nil_append,fb_ms]) (by
   refine ⟨by rw[hg,List.length_map];exact hlb.1,fun i e a hei ha=>?_⟩
   have hla:=hlen a (List.mem_of_getElem? ha)
   rw[hg,List.getElem?_map]at ha
   obtain ⟨q,hq,rfl⟩:=Option.map_eq_some_iff.1 ha
   refine lbF_ok hla hl hz (fun t ht he=>?_) (fun hn=>?_) (hlb.2 i q e hq hei)
   ·have hm:=List.mem_of_getElem? hei
    unfold labE at hm
    rcases List.mem_append.1 hm with hm|hm
    ·obtain ⟨u,hu,hm⟩:=List.mem_flatMap.1 hm
     obtain ⟨v,hv,rfl⟩:=List.mem_map.1 hm
     simp at ht
     subst ht;subst he
     exact (hLab.tl u hu).2.2 hv
    ·obtain ⟨u,hu,hm⟩:=List.mem_flatMap.1 hm
     obtain ⟨v,hv,rfl⟩:=List.mem_map.1 hm
     cases ht
   ·have hm:=List.mem_of_getElem? hei
    unfold labE at hm
    rcases List.mem_append.1 hm with hm|hm
    ·obtain ⟨u,hu,hm⟩:=List.mem_flatMap.1 hm
     obtain ⟨v,hv,rfl⟩:=List.mem_map.1 hm
     cases hn
    ·obtain ⟨u,hu,hm⟩:=List.mem_flatMap.1 hm
     obtain ⟨v,hv,rfl⟩:=List.mem_map.1 hm
     exact hr.nums s hsx u hu v hv)
  rw[flds_cM]
  exact ⟨_,labE s,h1,h2,LabP.lbs (pw_nodup hLab.tpw) (pw_nodup hLab.npw),by have:=labE_len hLab;omega⟩
def pfF (q:PIn):List Fld:=msF 1 q.ts++(msF 2 q.ss++(msF 3 q.ms++(msF 4 q.ls++(msF 5 q.fs++(strF 6 q.tab++(numOpt 7 (Go.Proofs.YtifdadlhmlhfiaaGreatDoor.u64 q.dx)++(numOpt 8 (Go.Proofs.YtifdadlhmlhfiaaGreatDoor.u64 q.kx)++(numOpt 9 (Go.Proofs.YtifdadlhmlhfiaaGreatDoor.u64 q.ti)++(numOpt 10 (Go.Proofs.YtifdadlhmlhfiaaGreatDoor.u64 q.du)++((if q.tx≠0∨q.ux≠0 then msF 11 [vtB q.tx q.ux] else [])++numOpt 12 (Go.Proofs.YtifdadlhmlhfiaaGreatDoor.u64 q.pe)))))))))))
theorem pfF_enc (q:PIn):encFs (pfF q)=pfB q:=by
 unfold pfF pfB
 simp only[encFs_append,enc_ms,enc_str,enc_opt]
 congr 10
 split
 ·rw[enc_ms];simp[msB]
 ·rfl
theorem key_if {p:Prop} [Decidable p] {Ms:List (List Nat)}:∀f∈(if p then msF k Ms else []),fkey f=k:=fun f hf=>by
 split at hf
 ·exact key_ms f hf
 ·cases hf
theorem oneF_ms (k j s:Nat) (Ms:List (List Nat)) (h:j≠k):oneF k s (msF j Ms)=s:=oneF_of key_ms h
theorem oneF_str (k j s:Nat) (Ms:List ByteArray) (h:j≠k):oneF k s (strF j Ms)=s:=oneF_of key_str h
theorem oneF_if {p:Prop} [Decidable p] (k j s:Nat) (Ms:List (List Nat)) (h:j≠k):oneF k s (if p then msF j Ms else [])=s:=oneF_of key_if h
theorem uin {x:PProf} {T:List ByteArray} {q:PIn} (h:PR x T q) (hx:WellP x) (hr:Rng x) (hS:sumS (allS x)≤100000000) (hc:x.comments=[]) (hd:x.deflt=eB):UIn x T (cM (pfF q)):=by
 have hTS:sumS T≤100000000:=Nat.le_trans (sumS_sub h.nd h.sub) hS
 have hl:T.length≤100000000:=Nat.le_trans len_sumS hTS
 have hlen:(pfB q).length≤2000000000:=pf_len h hr hx hTS
 have he:(encFs (pfF q)).length≤2000000000:=by rw[pfF_enc];exact hlen
 have hin:∀(k:Nat) (M:List Nat),Fld.bys k M∈pfF q→M.length≤2000000000:=fun k M hM=>Nat.le_trans (encFs_mem (f:=.bys k M) hM) he
 obtain ⟨gt,t1,t3⟩:=h.ts.choose (S:=fun t g=>TyM T t (cM g)) (fun M hM=>hin 1 M (by simp only[pfF,List.mem_append];exact .inl (List.mem_map_of_mem hM))) fun a _ M hb hM=>MT.go hl hb hM
 obtain ⟨gs,s1,s3⟩:=h.ss.choose (S:=fun t g=>SmM x T t (cM g)) (fun M hM=>hin 2 M (by simp only[pfF,List.mem_append];exact .inr (.inl (List.mem_map_of_mem hM)))) fun a ha M hb hM=>MS.go hx hr hl h.zero ha hb hM
 obtain ⟨gm,m1,m3⟩:=h.ms.choose (S:=fun t g=>MpM T t (cM g)) (fun M hM=>hin 3 M (by simp only[pfF,List.mem_append];exact .inr (.inr (.inl (List.mem_map_of_mem hM))))) fun a ha M hb hM=>MM.go hl hb (hr.maps a ha) hM
 obtain ⟨gl,l1,l3⟩:=h.ls.choose (S:=fun t g=>LcM x t (cM g)) (fun M hM=>hin 4 M (by simp only[pfF,List.mem_append];exact .inr (.inr (.inr (.inl (List.mem_map_of_mem hM)))))) fun a ha M hb hM=>ML.go hr ha hb hM
 obtain ⟨gf,f1,f3⟩:=h.fs.choose (S:=fun t g=>FnM T t (cM g)) (fun M hM=>hin 5 M (by simp only[pfF,List.mem_append];exact .inr (.inr (.inr (.inr (.inl (List.mem_map_of_mem hM))))))) fun a ha M hb hM=>MF.go hl hb (hr.funs a ha) hM
 have hw:Wft tbPf (pfF q):=by
  refine (msF_wft (by omega) (by decide)).app ((msF_wft (by omega) (by decide)).app ((msF_wft (by omega) (by decide)).app ((msF_wft (by omega) (by decide)).app ((msF_wft (by omega) (by decide)).app (Wft.app (fun f hf=>?_) ((Wft.opt (by omega) (u64_lt _) (by decide)).app ((Wft.opt (by omega) (u64_lt _) (by decide)).app ((Wft.opt (by omega) (u64_lt _) (by decide)).app ((Wft.opt (by omega) (u64_lt _) (by decide)).app (Wft.app ?_ (Wft.opt (by omega) (u64_lt _) (by decide))))))))))))
  ·obtain ⟨s, -,rfl⟩:=List.mem_map.1 hf
   exact ⟨by omega,by decide⟩
  ·split
   ·exact msF_wft (by omega) (by decide)
   ·intro f hf;cases hf
 have one:∀(k:Nat) (n:Nat),(k=7∨k=8∨k=9∨k=10∨k=12∨k=14)→n=(if k=7 then Go.Proofs.YtifdadlhmlhfiaaGreatDoor.u64 q.dx else if k=8 then Go.Proofs.YtifdadlhmlhfiaaGreatDoor.u64 q.kx else if k=9 then Go.Proofs.YtifdadlhmlhfiaaGreatDoor.u64 q.ti else if k=10 then Go.Proofs.YtifdadlhmlhfiaaGreatDoor.u64 q.du else if k=12 then Go.Proofs.YtifdadlhmlhfiaaGreatDoor.u64 q.pe else 0)→oneN k (pfF q)=n:=fun k n hk hn=>by
  rw[hn]
  unfold pfF oneN
  simp only[oneF_append]
  rcases hk with rfl|rfl|rfl|rfl|rfl|rfl<;>
  ·rw[oneF_ms _ 1 _ _ (by decide),oneF_ms _ 2 _ _ (by decide),oneF_ms _ 3 _ _ (by decide),oneF_ms _ 4 _ _ (by decide),oneF_ms _ 5 _ _ (by decide),oneF_str _ 6 _ _ (by decide),oneF_if _ 11 _ _ (by decide)]
   simp only[oneF_opt,ite_zero_self, ↓reduceIte,Nat.reduceEqDiff]
 have flt:∀(k:Nat),((pfF q).filter fun f=>fkey f=k).map fbytes=(((msF 1 q.ts).filter fun f=>fkey f=k).map fbytes)++((((msF 2 q.ss).filter fun f=>fkey f=k).map fbytes)++((((msF 3 q.ms).filter fun f=>fkey f=k).map fbytes)++((((msF 4 q.ls).filter fun f=>fkey f=k).map fbytes)++((((msF 5 q.fs).filter fun f=>fkey f=k).map fbytes)++((((strF 6 q.tab).filter fun f=>fkey f=k).map fbytes)++((((numOpt 7 (Go.Proofs.YtifdadlhmlhfiaaGreatDoor.u64 q.dx)).filter fun f=>fkey f=k).map fbytes)++((((numOpt 8 (Go.Proofs.YtifdadlhmlhfiaaGreatDoor.u64 q.kx)).filter fun f=>fkey f=k).map fbytes)++((((numOpt 9 (Go.Proofs.YtifdadlhmlhfiaaGreatDoor.u64 q.ti)).filter fun f=>fkey f=k).map fbytes)++((((numOpt 10 (Go.Proofs.YtifdadlhmlhfiaaGreatDoor.u64 q.du)).filter fun f=>fkey f=k).map fbytes)++((((if q.tx≠0∨q.ux≠0 then msF 11 [vtB q.tx q.ux] else []).filter fun f=>fkey f=k).map fbytes)++(((numOpt 12 (Go.Proofs.YtifdadlhmlhfiaaGreatDoor.u64 q.pe)).filter fun f=>fkey f=k).map fbytes))))))))))):=fun k=>by
  unfold pfF
  simp only[List.filter_append,List.map_append]
 have fm:∀(k j:Nat) (Ms:List (List Nat)),((msF j Ms).filter fun f=>fkey f=k).map fbytes=if j=k then Ms else []:=fun k j Ms=>by
  split
  ·next e=>subst e;rw[flt_self key_ms,fb_ms]
  ·next e=>rw[flt_of key_ms e];rfl
 have fs6:∀(k j:Nat) (Ms:List ByteArray),((strF j Ms).filter fun f=>fkey f=k).map fbytes=if j=k then Ms.map sB else []:=fun k j Ms=>by
  split
  ·next e=>subst e;rw[flt_self key_str,fb_str]
  ·next e=>rw[flt_of key_str e];rfl
 have fo:∀(k j n:Nat),j≠k→((numOpt j n).filter fun f=>fkey f=k).map fbytes=[]:=fun k j n e=>by rw[flt_of key_opt e];rfl
 have fi:∀(k:Nat),((if q.tx≠0∨q.ux≠0 then msF 11 [vtB q.tx q.ux] else []).filter fun f=>fkey f=k).map fbytes=if 11=k then (if q.tx≠0∨q.ux≠0 then [vtB q.tx q.ux] else []) else []:=fun k=>by
  split
  ·rw[fm]
  ·simp
 have sub:∀(k:Nat) (g:List (List Fld)),k=1∨k=2∨k=3∨k=4∨k=5∨k=11→g.map encFs=(if 1=k then q.ts else if 2=k then q.ss else if 3=k then q.ms else if 4=k then q.ls else if 5=k then q.fs else if q.tx≠0∨q.ux≠0 then [vtB q.tx q.ux] else [])→((pfF q).filter fun f=>fkey f=k).map fbytes=g.map encFs:=fun k g hk hg=>by
  rw[flt k,hg]
  simp only[fm,fs6,fi]
  rcases hk with rfl|rfl|rfl|rfl|rfl|rfl<;>simp[fo]
 constructor
 ·exact .canon hw he
 ·rw[flds_cM,flt 6]
  simp only[fm,fs6,fi]
  simp[fo,h.tab]
 ·exact h.zero
 ·omega
 ·rw[flds_cM,one 7 _ (by omega) rfl];simp only[↓reduceIte];exact h.dx.u64 hl
 ·rw[flds_cM,one 8 _ (by omega) rfl];simp only[↓reduceIte,Nat.reduceEqDiff];exact h.kx.u64 hl
 ·rw[flds_cM,one 9 _ (by omega) rfl];simp only[↓reduceIte,Nat.reduceEqDiff,h.ti];exact wrap_u64 hr.time
 ·rw[flds_cM,one 10 _ (by omega) rfl];simp only[↓reduceIte,Nat.reduceEqDiff,h.du];exact wrap_u64 hr.dur
 ·rw[flds_cM,one 12 _ (by omega) rfl];simp only[↓reduceIte,Nat.reduceEqDiff,h.pe];exact wrap_u64 hr.period
 ·rw[flds_cM,one 14 _ (by omega) rfl];simp only[↓reduceIte,Nat.reduceEqDiff,hd];exact h.zero
 ·rw[flds_cM];obtain ⟨h1,h2⟩:=GSub.of (S:=TyM T) (sub 1 gt (by omega) (by rw[t1];simp)) t3;exact ⟨_,h1,h2⟩
 ·rw[flds_cM];obtain ⟨h1,h2⟩:=GSub.of (S:=SmM x T) (sub 2 gs (by omega) (by rw[s1];simp)) s3;exact ⟨_,h1,h2⟩
 ·rw[flds_cM];obtain ⟨h1,h2⟩:=GSub.of (S:=MpM T) (sub 3 gm (by omega) (by rw[m1];simp)) m3;exact ⟨_,h1,h2⟩
 ·rw[flds_cM];obtain ⟨h1,h2⟩:=GSub.of (S:=LcM x) (sub 4 gl (by omega) (by rw[l1];simp)) l3;exact ⟨_,h1,h2⟩
 ·rw[flds_cM];obtain ⟨h1,h2⟩:=GSub.of (S:=FnM T) (sub 5 gf (by omega) (by rw[f1];simp)) f3;exact ⟨_,h1,h2⟩
 ·rw[flds_cM]
  by_cases hp:q.tx≠0∨q.ux≠0
  ·have hvl:(vtB q.tx q.ux).length≤2000000000:=hin 11 _ (by simp only[pfF,List.mem_append];rw[if_pos hp];simp)
   obtain ⟨h1,h2⟩:=GSub.of (xs:=[x.per]) (S:=TyM T) (sub 11 [tyF q.tx q.ux] (by omega) (by simp[tyF_enc,hp])) ⟨rfl,fun i a b ha hb=>by
    cases i with
    |zero=>simp at ha hb;subst ha;subst hb;exact tyF_ok hl hvl h.tx h.ux
    |succ i=>simp at ha⟩
   refine ⟨_,by rw[h1];simp,fun h0=>by simp at h0,⟨h2.eq,fun i m hm=>?_⟩⟩
   cases i with
   |zero=>exact h2.ok 0 m hm x.per rfl
   |succ i=>simp at hm
  ·refine ⟨[],by simp,fun _=>?_,⟨by rw[sub 11 [] (by omega) (by simp[hp])];rfl,fun i m hm=>by simp at hm⟩⟩
   have h1:=h.tx.zero h.zero (by omega)
   have h2:=h.ux.zero h.zero (by omega)
   cases hpp:x.per with
   |mk a b=>rw[hpp]at h1 h2;simp only at h1 h2;rw[h1,h2]
 ·rw[flds_cM]
  refine ⟨_,GMny.none fun f hf=>?_,by rw[hc,flat_none];exact ⟨rfl,by simp⟩⟩
  unfold pfF at hf
  simp only[List.mem_append]at hf
  rcases hf with hf|hf|hf|hf|hf|hf|hf|hf|hf|hf|hf|hf
  ·rw[key_ms f hf];decide
  ·rw[key_ms f hf];decide
  ·rw[key_ms f hf];decide
  ·rw[key_ms f hf];decide
  ·rw[key_ms f hf];decide
  ·rw[key_str f hf];decide
  ·rw[key_opt f hf];decide
  ·rw[key_opt f hf];decide
  ·rw[key_opt f hf];decide
  ·rw[key_opt f hf];decide
  ·rw[key_if f hf];decide
  ·rw[key_opt f hf];decide
theorem RawP.le {B':Nat} {T:List ByteArray} {x:PProf} {vp:Value} (h:RawP B T x g vp w) (hB:B'≤B):RawP B' T x g vp w:=by
 obtain ⟨f1,f2,f3,f4,f5⟩:=h.fresh
 have lo:∀{n:Nat},B≤n→B'≤n:=fun h=>Nat.le_trans hB h
 exact { h with
  per:=h.per.imp id fun ⟨e1,e2,e3,e4⟩=>⟨e1,e2,lo e3,e4⟩
  locs:=h.locs.mono fun b t hh=>hh.mono (fun _ h=>h) fun b cs hb hk=>⟨hk,lo hb.1,hb.2⟩
  sams:=h.sams.mono fun b t hh=>hh.mono (fun _ h=>h) (fun b cs hb hk=>⟨hk,lo hb⟩) (fun b cs hb hk=>⟨hk,lo hb⟩) (fun b cs hb hk=>⟨hk,lo hb⟩)
  fresh:=⟨fun b hb=>lo (f1 b hb),fun b hb=>lo (f2 b hb),fun b hb=>lo (f3 b hb),fun b hb=>lo (f4 b hb),fun b hb=>lo (f5 b hb)⟩ }
theorem OfQ.fr {x:PProf} (h:OfQ B w x g) (k:Fr 0 [] w w'):OfQ B w' x g:=by
 have kr:=fun (b T:Nat) (cs:List Value) (hb:Blk w b T cs)=>k.blk hb (.inr (by simp))
 have km:∀(b:Nat) (es:Array MapEntry) (ck:Nat),w.heap[b]? =some (.map es ck)→w'.heap[b]? =some (.map es ck):=fun b es ck hb=>k.keep _ _ hb (.inr (by simp))
 obtain ⟨ty,sa,ma,lo,fu,co,h1,h2,h3,h4,h5,h6,h7⟩:=h.prof
 exact { prof:=⟨ty,sa,ma,lo,fu,co,kr _ _ _ h1,h2.mono fun b cs=>kr _ _ cs,h3.mono fun b cs=>kr _ _ cs,h4.mono fun b cs=>kr _ _ cs,h5.mono fun b cs=>kr _ _ cs,h6.mono fun b cs=>kr _ _ cs,h7.mono fun b cs=>kr _ _ cs⟩
         per:=kr _ _ _ h.per
         types:=h.types.mono fun b t=>kr _ _ _
         maps:=h.maps.mono fun b t=>kr _ _ _
         funs:=h.funs.mono fun b t=>kr _ _ _
         locs:=h.locs.mono fun b l hl=>hl.mono (fun b cs=>kr _ _ cs) (fun b cs=>kr _ _ cs)
         sams:=h.sams.mono fun b l hl=>hl.mono (fun cs=>kr _ _ cs) (fun b cs=>kr _ _ cs) (fun b cs=>kr _ _ cs) (fun b cs=>kr _ _ cs) km
         ntypes:=h.ntypes
         nmaps:=h.nmaps
         nfuns:=h.nfuns
         nlocs:=h.nlocs
         nsams:=h.nsams
         fresh:=h.fresh
         rows:=fun b hb=>(h.rows b hb).mono fun b cs=>kr _ _ cs }
end Go.Proofs.YtifdadlhmlhfiaaGreatDoor
namespace Go.Fw
open Go
variable {a:Act} {t t':Nat} {x:Operand} {w:World}
section
variable {P:Program} {n:Nat} {e:Env} {d ty:Nat} {pos:String} {af:Array Edge}
theorem r_neqA {y:Operand} {xs:Array Value} (he:∀w,(Op.equalIn 10000 t (.agg xs) (.agg xs)).run P w=.ok true w) (hm:P.eqGuardType P.depth t=false) (hx:ev e x=some (.agg xs)) (hy:ev e y=some (.agg xs)) (ha:Sat n e a):
  (execOp a.eval ⟨some d,.binOp .neq t x y t',ty,pos,af,none⟩).run P w=.ok (.value (.bool false)) w:=by
 have h:(binOp .neq t (.agg xs) (.agg xs)).run P w=.ok (.bool false) w:=by
  simp only[binOp]
  simp[Op.equal,Op.maxDepth,he w]
 simp only[execOp,ha.ev hx,ha.ev hy]
 simp[run_eqGuard_agg (hm:=hm),h]
theorem r_eqlA {y:Operand} {xs:Array Value} (he:∀w,(Op.equalIn 10000 t (.agg xs) (.agg xs)).run P w=.ok true w) (hm:P.eqGuardType P.depth t=false) (hx:ev e x=some (.agg xs)) (hy:ev e y=some (.agg xs)) (ha:Sat n e a):
  (execOp a.eval ⟨some d,.binOp .eql t x y t',ty,pos,af,none⟩).run P w=.ok (.value (.bool true)) w:=by
 have h:(binOp .eql t (.agg xs) (.agg xs)).run P w=.ok (.bool true) w:=by
  simp only[binOp]
  simp[Op.equal,Op.maxDepth,he w]
 simp only[execOp,ha.ev hx,ha.ev hy]
 simp[run_eqGuard_agg (hm:=hm),h]
end
end Go.Fw
namespace Go.Proofs.YtifdadlhmlhfiaaGreatDoor
open Go Go.Fw Go.Proofs Go.Proofs.Tryz
theorem egTy:Tryz.prog.eqGuardType Tryz.prog.depth tTy=false:=by kernel_rfl
theorem shTy:Tryz.prog.stoodInHeld tTy=false:=by kernel_rfl
theorem eqTy (a b:ByteArray) (w:World):(Op.equalIn 10000 tTy (.agg #[.string a,.string b]) (.agg #[.string a,.string b])).run Tryz.prog w=.ok true w:=by
 have h1:Tryz.prog.underlying tTy=some (.struct (Tryz.prog.fieldsOf tTy)):=by simp[Program.fieldsOf,ud29]
 have h2:=run_equalIn_agg (P:=Tryz.prog) w 9999 tTy #[.string a,.string b] #[.string a,.string b] h1 shTy
 simp only[Nat.reduceAdd]at h2
 rw[h2]
 have hs:=fun (a:ByteArray) (w:World)=>run_equalIn_string (P:=Tryz.prog) w 9998 9 a a ud9
 simp only[Nat.reduceAdd]at hs
 simp[Program.fieldsOf,ud29,Op.eqFields,part,ag9,hs]
theorem egMp:Tryz.prog.eqGuardType Tryz.prog.depth tMp=false:=by kernel_rfl
theorem shMp:Tryz.prog.stoodInHeld tMp=false:=by kernel_rfl
theorem eqMp (a b c d:Int) (e f:ByteArray) (g h i j:Bool) (w:World):(Op.equalIn 10000 tMp (.agg #[.int .u64 a,.int .u64 b,.int .u64 c,.int .u64 d,.string e,.string f,.bool g,.bool h,.bool i,.bool j]) (.agg #[.int .u64 a,.int .u64 b,.int .u64 c,.int .u64 d,.string e,.string f,.bool g,.bool h,.bool i,.bool j])).run Tryz.prog w=.ok true w:=by
 have h1:Tryz.prog.underlying tMp=some (.struct (Tryz.prog.fieldsOf tMp)):=by simp[Program.fieldsOf,ud73]
 have h2:=run_equalIn_agg (P:=Tryz.prog) w 9999 tMp #[.int .u64 a,.int .u64 b,.int .u64 c,.int .u64 d,.string e,.string f,.bool g,.bool h,.bool i,.bool j] #[.int .u64 a,.int .u64 b,.int .u64 c,.int .u64 d,.string e,.string f,.bool g,.bool h,.bool i,.bool j] h1 shMp
 simp only[Nat.reduceAdd]at h2
 rw[h2]
 have hs:=fun (a:ByteArray) (w:World)=>run_equalIn_string (P:=Tryz.prog) w 9998 9 a a ud9
 have huint64:=fun (a:Int) (w:World)=>run_equalIn_int (P:=Tryz.prog) w 9998 71 .u64 .u64 a a ud71
 have hb:=fun (a:Bool) (w:World)=>run_equalIn_bool (P:=Tryz.prog) (w:=w) 9998 4 a a ud4
 simp only[Nat.reduceAdd]at hs huint64 hb
 simp[Program.fieldsOf,ud73,Op.eqFields,part,ag9,ag71,ag4,hs,huint64,hb]
theorem egFn:Tryz.prog.eqGuardType Tryz.prog.depth tFn=false:=by kernel_rfl
theorem shFn:Tryz.prog.stoodInHeld tFn=false:=by kernel_rfl
theorem eqFn (a:Int) (b c d:ByteArray) (e:Int) (w:World):(Op.equalIn 10000 tFn (.agg #[.int .u64 a,.string b,.string c,.string d,.int .i64 e]) (.agg #[.int .u64 a,.string b,.string c,.string d,.int .i64 e])).run Tryz.prog w=.ok true w:=by
 have h1:Tryz.prog.underlying tFn=some (.struct (Tryz.prog.fieldsOf tFn)):=by simp[Program.fieldsOf,ud80]
 have h2:=run_equalIn_agg (P:=Tryz.prog) w 9999 tFn #[.int .u64 a,.string b,.string c,.string d,.int .i64 e] #[.int .u64 a,.string b,.string c,.string d,.int .i64 e] h1 shFn
 simp only[Nat.reduceAdd]at h2
 rw[h2]
 have hs:=fun (a:ByteArray) (w:World)=>run_equalIn_string (P:=Tryz.prog) w 9998 9 a a ud9
 have huint64:=fun (a:Int) (w:World)=>run_equalIn_int (P:=Tryz.prog) w 9998 71 .u64 .u64 a a ud71
 have hint64:=fun (a:Int) (w:World)=>run_equalIn_int (P:=Tryz.prog) w 9998 2 .i64 .i64 a a ud2
 simp only[Nat.reduceAdd]at hs huint64 hint64
 simp[Program.fieldsOf,ud80,Op.eqFields,part,ag9,ag71,ag2,hs,huint64,hint64]
theorem egLn:Tryz.prog.eqGuardType Tryz.prog.depth tLn=false:=by kernel_rfl
theorem shLn:Tryz.prog.stoodInHeld tLn=false:=by kernel_rfl
theorem eqLn (a b:Int) (w:World):(Op.equalIn 10000 tLn (.agg #[.int .i64 a,.int .i64 b]) (.agg #[.int .i64 a,.int .i64 b])).run Tryz.prog w=.ok true w:=by
 have h1:Tryz.prog.underlying tLn=some (.struct (Tryz.prog.fieldsOf tLn)):=by simp[Program.fieldsOf,ud114]
 have h2:=run_equalIn_agg (P:=Tryz.prog) w 9999 tLn #[.int .i64 a,.int .i64 b] #[.int .i64 a,.int .i64 b] h1 shLn
 simp only[Nat.reduceAdd]at h2
 rw[h2]
 have hint:=fun (a:Int) (w:World)=>run_equalIn_int (P:=Tryz.prog) w 9998 3 .i64 .i64 a a ud3
 have hint64:=fun (a:Int) (w:World)=>run_equalIn_int (P:=Tryz.prog) w 9998 2 .i64 .i64 a a ud2
 simp only[Nat.reduceAdd]at hint hint64
 simp[Program.fieldsOf,ud114,Op.eqFields,part,ag3,ag2,hint,hint64]
theorem slTy_c (w:World) (v u:Value) (xs:List PType) (hv:Lay RType 2 w v xs) (hu:Lay RType 2 w u xs):Calls Tryz.prog 38 #[v,u] w (Ret fun r w'=>r=.bool true∧Fr 0 [] w w'):=by
 obtain ⟨p,c,rfl,hl,hx⟩:=hv.open
 obtain ⟨q,c2,rfl, -,hy⟩:=hu.open
 refine startJ (args:=[_,_]) [(0,_),(1,_)] 0 [] [] Tryz.func38 rfl Tryz.ntmps38 rfl rfl .nil ?_
 refine sQ fun K1=>cj_reg (jA (k:=K1 (sQ fun K2=>sQ fun K3=>cj_reg (jM (k:=jE ru22 (k:=jM (k:=jE ru22 (k:=?_))))))))
 refine j_val rfl (fun _ _ h=>r_neq rfl rfl h) ?_
 refine j_eqv (u:=.bool false) (congrArg Value.bool (by simp)) ?_
 refine K3 (cj_if_f rfl (cj_skip (K2 (sQ fun K4=>sQ fun K5=>cj_reg (jM (k:=jE ru22 (k:=jM (k:=K5 (cj_block ?_)))))))))
 refine cj_loop (σ:=Nat) (fun k=>[(0,.slice p xs.length c),(1,.slice q xs.length c2),(12,.int .i64 (xs.length:Nat)),(13,.int .i64 (k:Nat))]) (fun _=>[]) (fun k _=>k≤xs.length) (fun k=>xs.length - k) 0 sR (fun w hH hf=>⟨.nil,Nat.zero_le _⟩) ?_
 rintro k w1 hk hf1 hH1 KL hKL
 refine C.begin _ [] hf1 .nil ?_
 try dsimp only
 refine sQ fun K6=>cj_reg (jS (k:=K6 (sQ fun K7=>?_)))
 refine cj_dec rfl (fun h14=>?_) (fun h14=>?_)
 ·have hk':k<xs.length:=by omega
  obtain ⟨b,o,cs,rfl, -,hR,hcell⟩:=hx k xs[k] (List.getElem?_eq_getElem hk')
  obtain ⟨b2,o2,cs2,rfl, -,hR2,hcell2⟩:=hy k xs[k] (List.getElem?_eq_getElem hk')
  unfold RType at hR hR2
  subst hR;subst hR2
  refine cj_skip (K7 (sQ fun K8=>cj_block (sQ fun K9=>cj_reg (jM (k:=jA (k:=K9 (sQ fun K10=>?_)))))))
  refine cj_drawI 9 (lts [0,1,2,3,4,5,6,7,8]) [] rfl (by kernel_rfl) (by kernel_rfl) (dM [] (k:=dM [] (k:=?_)))
  refine dj_val rfl rfl (sub_of [] rfl) (fun _ _ h=>r_idx ru22 so29 rfl rfl (by omega) h) (dj_ld rfl rfl (sub_of [] rfl) (fun a w ha hS=>r_loadA ag29 so29 rfl rfl (hcell w (hS.2.keepAll (.inr rfl))) ha) (dM [] (k:=dM [] (k:=?_))))
  refine dj_val rfl rfl (sub_of [] rfl) (fun _ _ h=>r_idx ru22 so29 rfl rfl (by omega) h) (dj_ld rfl rfl (sub_of [] rfl) (fun a w ha hS=>r_loadA ag29 so29 rfl rfl (hcell2 w (hS.2.keepAll (.inr rfl))) ha) (dj_val rfl rfl (sub_of [] rfl) (fun _ _ h=>r_neqA (eqTy _ _) egTy rfl rfl h) (K10 (CJ.t [(0,_),(1,_),(12,_),(13,_),(24,_)] (k:=?_)))))
  refine cj_if_f rfl (cj_skip (K8 (cj_reg (jI (k:=jM (k:=j_nil (ej_then ?_)))))))
  exact fun w' hH hf=>hKL (k+1) _ w' hk' hf .nil (by omega) sR
 ·refine cj_exit (K4 (sQ fun K11=>cj_reg (jA (k:=K11 (cj_ret ?_)))))
  exact ej_ret1 Tryz.results38 rfl fun w' hH hf=>⟨rfl,hf⟩
theorem slMp_c (w:World) (v u:Value) (xs:List PMapping) (hv:Lay RMapping 10 w v xs) (hu:Lay RMapping 10 w u xs):Calls Tryz.prog 41 #[v,u] w (Ret fun r w'=>r=.bool true∧Fr 0 [] w w'):=by
 obtain ⟨p,c,rfl,hl,hx⟩:=hv.open
 obtain ⟨q,c2,rfl, -,hy⟩:=hu.open
 refine startJ (args:=[_,_]) [(0,_),(1,_)] 0 [] [] Tryz.func41 rfl Tryz.ntmps41 rfl rfl .nil ?_
 refine sQ fun K1=>cj_reg (jA (k:=K1 (sQ fun K2=>sQ fun K3=>cj_reg (jM (k:=jE ru24 (k:=jM (k:=jE ru24 (k:=?_))))))))
 refine j_val rfl (fun _ _ h=>r_neq rfl rfl h) ?_
 refine j_eqv (u:=.bool false) (congrArg Value.bool (by simp)) ?_
 refine K3 (cj_if_f rfl (cj_skip (K2 (sQ fun K4=>sQ fun K5=>cj_reg (jM (k:=jE ru24 (k:=jM (k:=K5 (cj_block ?_)))))))))
 refine cj_loop (σ:=Nat) (fun k=>[(0,.slice p xs.length c),(1,.slice q xs.length c2),(12,.int .i64 (xs.length:Nat)),(13,.int .i64 (k:Nat))]) (fun _=>[]) (fun k _=>k≤xs.length) (fun k=>xs.length - k) 0 sR (fun w hH hf=>⟨.nil,Nat.zero_le _⟩) ?_
 rintro k w1 hk hf1 hH1 KL hKL
 refine C.begin _ [] hf1 .nil ?_
 try dsimp only
 refine sQ fun K6=>cj_reg (jS (k:=K6 (sQ fun K7=>?_)))
 refine cj_dec rfl (fun h14=>?_) (fun h14=>?_)
 ·have hk':k<xs.length:=by omega
  obtain ⟨b,o,cs,rfl, -,hR,hcell⟩:=hx k xs[k] (List.getElem?_eq_getElem hk')
  obtain ⟨b2,o2,cs2,rfl, -,hR2,hcell2⟩:=hy k xs[k] (List.getElem?_eq_getElem hk')
  obtain ⟨rfl, -⟩:=hR
  obtain ⟨rfl, -⟩:=hR2
  refine cj_skip (K7 (sQ fun K8=>cj_block (sQ fun K9=>cj_reg (jM (k:=jA (k:=K9 (sQ fun K10=>?_)))))))
  refine cj_drawI 9 (lts [0,1,2,3,4,5,6,7,8]) [] rfl (by kernel_rfl) (by kernel_rfl) (dM [] (k:=dM [] (k:=?_)))
  refine dj_val rfl rfl (sub_of [] rfl) (fun _ _ h=>r_idx ru24 so73 rfl rfl (by omega) h) (dj_ld rfl rfl (sub_of [] rfl) (fun a w ha hS=>r_loadA ag73 so73 rfl rfl (hcell w (hS.2.keepAll (.inr rfl))) ha) (dM [] (k:=dM [] (k:=?_))))
  refine dj_val rfl rfl (sub_of [] rfl) (fun _ _ h=>r_idx ru24 so73 rfl rfl (by omega) h) (dj_ld rfl rfl (sub_of [] rfl) (fun a w ha hS=>r_loadA ag73 so73 rfl rfl (hcell2 w (hS.2.keepAll (.inr rfl))) ha) (dj_val rfl rfl (sub_of [] rfl) (fun _ _ h=>r_neqA (eqMp _ _ _ _ _ _ _ _ _ _) egMp rfl rfl h) (K10 (CJ.t [(0,_),(1,_),(12,_),(13,_),(24,_)] (k:=?_)))))
  refine cj_if_f rfl (cj_skip (K8 (cj_reg (jI (k:=jM (k:=j_nil (ej_then ?_)))))))
  exact fun w' hH hf=>hKL (k+1) _ w' hk' hf .nil (by omega) sR
 ·refine cj_exit (K4 (sQ fun K11=>cj_reg (jA (k:=K11 (cj_ret ?_)))))
  exact ej_ret1 Tryz.results41 rfl fun w' hH hf=>⟨rfl,hf⟩
theorem slFn_c (w:World) (v u:Value) (xs:List PFunc) (hv:Lay RFunc 5 w v xs) (hu:Lay RFunc 5 w u xs):Calls Tryz.prog 44 #[v,u] w (Ret fun r w'=>r=.bool true∧Fr 0 [] w w'):=by
 obtain ⟨p,c,rfl,hl,hx⟩:=hv.open
 obtain ⟨q,c2,rfl, -,hy⟩:=hu.open
 refine startJ (args:=[_,_]) [(0,_),(1,_)] 0 [] [] Tryz.func44 rfl Tryz.ntmps44 rfl rfl .nil ?_
 refine sQ fun K1=>cj_reg (jA (k:=K1 (sQ fun K2=>sQ fun K3=>cj_reg (jM (k:=jE ru26 (k:=jM (k:=jE ru26 (k:=?_))))))))
 refine j_val rfl (fun _ _ h=>r_neq rfl rfl h) ?_
 refine j_eqv (u:=.bool false) (congrArg Value.bool (by simp)) ?_
 refine K3 (cj_if_f rfl (cj_skip (K2 (sQ fun K4=>sQ fun K5=>cj_reg (jM (k:=jE ru26 (k:=jM (k:=K5 (cj_block ?_)))))))))
 refine cj_loop (σ:=Nat) (fun k=>[(0,.slice p xs.length c),(1,.slice q xs.length c2),(12,.int .i64 (xs.length:Nat)),(13,.int .i64 (k:Nat))]) (fun _=>[]) (fun k _=>k≤xs.length) (fun k=>xs.length - k) 0 sR (fun w hH hf=>⟨.nil,Nat.zero_le _⟩) ?_
 rintro k w1 hk hf1 hH1 KL hKL
 refine C.begin _ [] hf1 .nil ?_
 try dsimp only
 refine sQ fun K6=>cj_reg (jS (k:=K6 (sQ fun K7=>?_)))
 refine cj_dec rfl (fun h14=>?_) (fun h14=>?_)
 ·have hk':k<xs.length:=by omega
  obtain ⟨b,o,cs,rfl, -,hR,hcell⟩:=hx k xs[k] (List.getElem?_eq_getElem hk')
  obtain ⟨b2,o2,cs2,rfl, -,hR2,hcell2⟩:=hy k xs[k] (List.getElem?_eq_getElem hk')
  obtain ⟨rfl, -⟩:=hR
  obtain ⟨rfl, -⟩:=hR2
  refine cj_skip (K7 (sQ fun K8=>cj_block (sQ fun K9=>cj_reg (jM (k:=jA (k:=K9 (sQ fun K10=>?_)))))))
  refine cj_drawI 9 (lts [0,1,2,3,4,5,6,7,8]) [] rfl (by kernel_rfl) (by kernel_rfl) (dM [] (k:=dM [] (k:=?_)))
  refine dj_val rfl rfl (sub_of [] rfl) (fun _ _ h=>r_idx ru26 so80 rfl rfl (by omega) h) (dj_ld rfl rfl (sub_of [] rfl) (fun a w ha hS=>r_loadA ag80 so80 rfl rfl (hcell w (hS.2.keepAll (.inr rfl))) ha) (dM [] (k:=dM [] (k:=?_))))
  refine dj_val rfl rfl (sub_of [] rfl) (fun _ _ h=>r_idx ru26 so80 rfl rfl (by omega) h) (dj_ld rfl rfl (sub_of [] rfl) (fun a w ha hS=>r_loadA ag80 so80 rfl rfl (hcell2 w (hS.2.keepAll (.inr rfl))) ha) (dj_val rfl rfl (sub_of [] rfl) (fun _ _ h=>r_neqA (eqFn _ _ _ _ _) egFn rfl rfl h) (K10 (CJ.t [(0,_),(1,_),(12,_),(13,_),(24,_)] (k:=?_)))))
  refine cj_if_f rfl (cj_skip (K8 (cj_reg (jI (k:=jM (k:=j_nil (ej_then ?_)))))))
  exact fun w' hH hf=>hKL (k+1) _ w' hk' hf .nil (by omega) sR
 ·refine cj_exit (K4 (sQ fun K11=>cj_reg (jA (k:=K11 (cj_ret ?_)))))
  exact ej_ret1 Tryz.results44 rfl fun w' hH hf=>⟨rfl,hf⟩
theorem slLn_c (w:World) (v u:Value) (xs:List PLine) (hv:Lay RLine 2 w v xs) (hu:Lay RLine 2 w u xs):Calls Tryz.prog 83 #[v,u] w (Ret fun r w'=>r=.bool true∧Fr 0 [] w w'):=by
 obtain ⟨p,c,rfl,hl,hx⟩:=hv.open
 obtain ⟨q,c2,rfl, -,hy⟩:=hu.open
 refine startJ (args:=[_,_]) [(0,_),(1,_)] 0 [] [] Tryz.func83 rfl Tryz.ntmps83 rfl rfl .nil ?_
 refine sQ fun K1=>cj_reg (jA (k:=K1 (sQ fun K2=>sQ fun K3=>cj_reg (jM (k:=jE ru75 (k:=jM (k:=jE ru75 (k:=?_))))))))
 refine j_val rfl (fun _ _ h=>r_neq rfl rfl h) ?_
 refine j_eqv (u:=.bool false) (congrArg Value.bool (by simp)) ?_
 refine K3 (cj_if_f rfl (cj_skip (K2 (sQ fun K4=>sQ fun K5=>cj_reg (jM (k:=jE ru75 (k:=jM (k:=K5 (cj_block ?_)))))))))
 refine cj_loop (σ:=Nat) (fun k=>[(0,.slice p xs.length c),(1,.slice q xs.length c2),(12,.int .i64 (xs.length:Nat)),(13,.int .i64 (k:Nat))]) (fun _=>[]) (fun k _=>k≤xs.length) (fun k=>xs.length - k) 0 sR (fun w hH hf=>⟨.nil,Nat.zero_le _⟩) ?_
 rintro k w1 hk hf1 hH1 KL hKL
 refine C.begin _ [] hf1 .nil ?_
 try dsimp only
 refine sQ fun K6=>cj_reg (jS (k:=K6 (sQ fun K7=>?_)))
 refine cj_dec rfl (fun h14=>?_) (fun h14=>?_)
 ·have hk':k<xs.length:=by omega
  obtain ⟨b,o,cs,rfl, -,hR,hcell⟩:=hx k xs[k] (List.getElem?_eq_getElem hk')
  obtain ⟨b2,o2,cs2,rfl, -,hR2,hcell2⟩:=hy k xs[k] (List.getElem?_eq_getElem hk')
  obtain ⟨rfl, -⟩:=hR
  obtain ⟨rfl, -⟩:=hR2
  refine cj_skip (K7 (sQ fun K8=>cj_block (sQ fun K9=>cj_reg (jM (k:=jA (k:=K9 (sQ fun K10=>?_)))))))
  refine cj_drawI 9 (lts [0,1,2,3,4,5,6,7,8]) [] rfl (by kernel_rfl) (by kernel_rfl) (dM [] (k:=dM [] (k:=?_)))
  refine dj_val rfl rfl (sub_of [] rfl) (fun _ _ h=>r_idx ru75 so114 rfl rfl (by omega) h) (dj_ld rfl rfl (sub_of [] rfl) (fun a w ha hS=>r_loadA ag114 so114 rfl rfl (hcell w (hS.2.keepAll (.inr rfl))) ha) (dM [] (k:=dM [] (k:=?_))))
  refine dj_val rfl rfl (sub_of [] rfl) (fun _ _ h=>r_idx ru75 so114 rfl rfl (by omega) h) (dj_ld rfl rfl (sub_of [] rfl) (fun a w ha hS=>r_loadA ag114 so114 rfl rfl (hcell2 w (hS.2.keepAll (.inr rfl))) ha) (dj_val rfl rfl (sub_of [] rfl) (fun _ _ h=>r_neqA (eqLn _ _) egLn rfl rfl h) (K10 (CJ.t [(0,_),(1,_),(12,_),(13,_),(24,_)] (k:=?_)))))
  refine cj_if_f rfl (cj_skip (K8 (cj_reg (jI (k:=jM (k:=j_nil (ej_then ?_)))))))
  exact fun w' hH hf=>hKL (k+1) _ w' hk' hf .nil (by omega) sR
 ·refine cj_exit (K4 (sQ fun K11=>cj_reg (jA (k:=K11 (cj_ret ?_)))))
  exact ej_ret1 Tryz.results83 rfl fun w' hH hf=>⟨rfl,hf⟩
theorem slSt_c (w:World) (v u:Value) (xs:List ByteArray) (hv:Lay RStr 1 w v xs) (hu:Lay RStr 1 w u xs):Calls Tryz.prog 45 #[v,u] w (Ret fun r w'=>r=.bool true∧Fr 0 [] w w'):=by
 obtain ⟨p,c,rfl,hl,hx⟩:=hv.open
 obtain ⟨q,c2,rfl, -,hy⟩:=hu.open
 refine startJ (args:=[_,_]) [(0,_),(1,_)] 0 [] [] Tryz.func45 rfl Tryz.ntmps45 rfl rfl .nil ?_
 refine sQ fun K1=>cj_reg (jA (k:=K1 (sQ fun K2=>sQ fun K3=>cj_reg (jM (k:=jE ru27 (k:=jM (k:=jE ru27 (k:=?_))))))))
 refine j_val rfl (fun _ _ h=>r_neq rfl rfl h) ?_
 refine j_eqv (u:=.bool false) (congrArg Value.bool (by simp)) ?_
 refine K3 (cj_if_f rfl (cj_skip (K2 (sQ fun K4=>sQ fun K5=>cj_reg (jM (k:=jE ru27 (k:=jM (k:=K5 (cj_block ?_)))))))))
 refine cj_loop (σ:=Nat) (fun k=>[(0,.slice p xs.length c),(1,.slice q xs.length c2),(12,.int .i64 (xs.length:Nat)),(13,.int .i64 (k:Nat))]) (fun _=>[]) (fun k _=>k≤xs.length) (fun k=>xs.length - k) 0 sR (fun w hH hf=>⟨.nil,Nat.zero_le _⟩) ?_
 rintro k w1 hk hf1 hH1 KL hKL
 refine C.begin _ [] hf1 .nil ?_
 try dsimp only
 refine sQ fun K6=>cj_reg (jS (k:=K6 (sQ fun K7=>?_)))
 refine cj_dec rfl (fun h14=>?_) (fun h14=>?_)
 ·have hk':k<xs.length:=by omega
  obtain ⟨b,o,cs,rfl, -,hR,hcell⟩:=hx k xs[k] (List.getElem?_eq_getElem hk')
  obtain ⟨b2,o2,cs2,rfl, -,hR2,hcell2⟩:=hy k xs[k] (List.getElem?_eq_getElem hk')
  unfold RStr at hR hR2
  subst hR;subst hR2
  refine cj_skip (K7 (sQ fun K8=>cj_block (sQ fun K9=>cj_reg (jM (k:=jA (k:=K9 (sQ fun K10=>?_)))))))
  refine cj_drawI 9 (lts [0,1,2,3,4,5,6,7,8]) [] rfl (by kernel_rfl) (by kernel_rfl) (dM [] (k:=dM [] (k:=?_)))
  refine dj_val rfl rfl (sub_of [] rfl) (fun _ _ h=>r_idx ru27 so9 rfl rfl (by omega) h) (dj_ld rfl rfl (sub_of [] rfl) (fun a w ha hS=>r_load ag9 rfl (hcell w (hS.2.keepAll (.inr rfl)) 0 _ rfl) ha) (dM [] (k:=dM [] (k:=?_))))
  refine dj_val rfl rfl (sub_of [] rfl) (fun _ _ h=>r_idx ru27 so9 rfl rfl (by omega) h) (dj_ld rfl rfl (sub_of [] rfl) (fun a w ha hS=>r_load ag9 rfl (hcell2 w (hS.2.keepAll (.inr rfl)) 0 _ rfl) ha) (dj_val rfl rfl (sub_of [] rfl) (fun _ _ h=>r_sneq rfl rfl h) ?_))
  refine dj_eqv (u:=.bool false) (congrArg Value.bool (by simp)) ?_
  refine K10 (CJ.t [(0,_),(1,_),(12,_),(13,_),(24,_)] (k:=?_))
  refine cj_if_f rfl (cj_skip (K8 (cj_reg (jI (k:=jM (k:=j_nil (ej_then ?_)))))))
  exact fun w' hH hf=>hKL (k+1) _ w' hk' hf .nil (by omega) sR
 ·refine cj_exit (K4 (sQ fun K11=>cj_reg (jA (k:=K11 (cj_ret ?_)))))
  exact ej_ret1 Tryz.results45 rfl fun w' hH hf=>⟨rfl,hf⟩
theorem slIn_c (w:World) (v u:Value) (xs:List Int) (hv:Lay (RInt .i64) 1 w v xs) (hu:Lay (RInt .i64) 1 w u xs):Calls Tryz.prog 77 #[v,u] w (Ret fun r w'=>r=.bool true∧Fr 0 [] w w'):=by
 obtain ⟨p,c,rfl,hl,hx⟩:=hv.open
 obtain ⟨q,c2,rfl, -,hy⟩:=hu.open
 refine startJ (args:=[_,_]) [(0,_),(1,_)] 0 [] [] Tryz.func77 rfl Tryz.ntmps77 rfl rfl .nil ?_
 refine sQ fun K1=>cj_reg (jA (k:=K1 (sQ fun K2=>sQ fun K3=>cj_reg (jM (k:=jE ru32 (k:=jM (k:=jE ru32 (k:=?_))))))))
 refine j_val rfl (fun _ _ h=>r_neq rfl rfl h) ?_
 refine j_eqv (u:=.bool false) (congrArg Value.bool (by simp)) ?_
 refine K3 (cj_if_f rfl (cj_skip (K2 (sQ fun K4=>sQ fun K5=>cj_reg (jM (k:=jE ru32 (k:=jM (k:=K5 (cj_block ?_)))))))))
 refine cj_loop (σ:=Nat) (fun k=>[(0,.slice p xs.length c),(1,.slice q xs.length c2),(12,.int .i64 (xs.length:Nat)),(13,.int .i64 (k:Nat))]) (fun _=>[]) (fun k _=>k≤xs.length) (fun k=>xs.length - k) 0 sR (fun w hH hf=>⟨.nil,Nat.zero_le _⟩) ?_
 rintro k w1 hk hf1 hH1 KL hKL
 refine C.begin _ [] hf1 .nil ?_
 try dsimp only
 refine sQ fun K6=>cj_reg (jS (k:=K6 (sQ fun K7=>?_)))
 refine cj_dec rfl (fun h14=>?_) (fun h14=>?_)
 ·have hk':k<xs.length:=by omega
  obtain ⟨b,o,cs,rfl, -,hR,hcell⟩:=hx k xs[k] (List.getElem?_eq_getElem hk')
  obtain ⟨b2,o2,cs2,rfl, -,hR2,hcell2⟩:=hy k xs[k] (List.getElem?_eq_getElem hk')
  obtain ⟨rfl, -⟩:=hR
  obtain ⟨rfl, -⟩:=hR2
  refine cj_skip (K7 (sQ fun K8=>cj_block (sQ fun K9=>cj_reg (jM (k:=jA (k:=K9 (sQ fun K10=>?_)))))))
  refine cj_drawI 9 (lts [0,1,2,3,4,5,6,7,8]) [] rfl (by kernel_rfl) (by kernel_rfl) (dM [] (k:=dM [] (k:=?_)))
  refine dj_val rfl rfl (sub_of [] rfl) (fun _ _ h=>r_idx ru32 so3 rfl rfl (by omega) h) (dj_ld rfl rfl (sub_of [] rfl) (fun a w ha hS=>r_load ag3 rfl (hcell w (hS.2.keepAll (.inr rfl)) 0 _ rfl) ha) (dM [] (k:=dM [] (k:=?_))))
  refine dj_val rfl rfl (sub_of [] rfl) (fun _ _ h=>r_idx ru32 so3 rfl rfl (by omega) h) (dj_ld rfl rfl (sub_of [] rfl) (fun a w ha hS=>r_load ag3 rfl (hcell2 w (hS.2.keepAll (.inr rfl)) 0 _ rfl) ha) (dj_val rfl rfl (sub_of [] rfl) (fun _ _ h=>r_neq rfl rfl h) ?_))
  refine dj_eqv (u:=.bool false) (congrArg Value.bool (by simp)) ?_
  refine K10 (CJ.t [(0,_),(1,_),(12,_),(13,_),(24,_)] (k:=?_))
  refine cj_if_f rfl (cj_skip (K8 (cj_reg (jI (k:=jM (k:=j_nil (ej_then ?_)))))))
  exact fun w' hH hf=>hKL (k+1) _ w' hk' hf .nil (by omega) sR
 ·refine cj_exit (K4 (sQ fun K11=>cj_reg (jA (k:=K11 (cj_ret ?_)))))
  exact ej_ret1 Tryz.results77 rfl fun w' hH hf=>⟨rfl,hf⟩
theorem slI6_c (w:World) (v u:Value) (xs:List Int) (hv:Lay (RInt .i64) 1 w v xs) (hu:Lay (RInt .i64) 1 w u xs):Calls Tryz.prog 78 #[v,u] w (Ret fun r w'=>r=.bool true∧Fr 0 [] w w'):=by
 obtain ⟨p,c,rfl,hl,hx⟩:=hv.open
 obtain ⟨q,c2,rfl, -,hy⟩:=hu.open
 refine startJ (args:=[_,_]) [(0,_),(1,_)] 0 [] [] Tryz.func78 rfl Tryz.ntmps78 rfl rfl .nil ?_
 refine sQ fun K1=>cj_reg (jA (k:=K1 (sQ fun K2=>sQ fun K3=>cj_reg (jM (k:=jE ru53 (k:=jM (k:=jE ru53 (k:=?_))))))))
 refine j_val rfl (fun _ _ h=>r_neq rfl rfl h) ?_
 refine j_eqv (u:=.bool false) (congrArg Value.bool (by simp)) ?_
 refine K3 (cj_if_f rfl (cj_skip (K2 (sQ fun K4=>sQ fun K5=>cj_reg (jM (k:=jE ru53 (k:=jM (k:=K5 (cj_block ?_)))))))))
 refine cj_loop (σ:=Nat) (fun k=>[(0,.slice p xs.length c),(1,.slice q xs.length c2),(12,.int .i64 (xs.length:Nat)),(13,.int .i64 (k:Nat))]) (fun _=>[]) (fun k _=>k≤xs.length) (fun k=>xs.length - k) 0 sR (fun w hH hf=>⟨.nil,Nat.zero_le _⟩) ?_
 rintro k w1 hk hf1 hH1 KL hKL
 refine C.begin _ [] hf1 .nil ?_
 try dsimp only
 refine sQ fun K6=>cj_reg (jS (k:=K6 (sQ fun K7=>?_)))
 refine cj_dec rfl (fun h14=>?_) (fun h14=>?_)
 ·have hk':k<xs.length:=by omega
  obtain ⟨b,o,cs,rfl, -,hR,hcell⟩:=hx k xs[k] (List.getElem?_eq_getElem hk')
  obtain ⟨b2,o2,cs2,rfl, -,hR2,hcell2⟩:=hy k xs[k] (List.getElem?_eq_getElem hk')
  obtain ⟨rfl, -⟩:=hR
  obtain ⟨rfl, -⟩:=hR2
  refine cj_skip (K7 (sQ fun K8=>cj_block (sQ fun K9=>cj_reg (jM (k:=jA (k:=K9 (sQ fun K10=>?_)))))))
  refine cj_drawI 9 (lts [0,1,2,3,4,5,6,7,8]) [] rfl (by kernel_rfl) (by kernel_rfl) (dM [] (k:=dM [] (k:=?_)))
  refine dj_val rfl rfl (sub_of [] rfl) (fun _ _ h=>r_idx ru53 so2 rfl rfl (by omega) h) (dj_ld rfl rfl (sub_of [] rfl) (fun a w ha hS=>r_load ag2 rfl (hcell w (hS.2.keepAll (.inr rfl)) 0 _ rfl) ha) (dM [] (k:=dM [] (k:=?_))))
  refine dj_val rfl rfl (sub_of [] rfl) (fun _ _ h=>r_idx ru53 so2 rfl rfl (by omega) h) (dj_ld rfl rfl (sub_of [] rfl) (fun a w ha hS=>r_load ag2 rfl (hcell2 w (hS.2.keepAll (.inr rfl)) 0 _ rfl) ha) (dj_val rfl rfl (sub_of [] rfl) (fun _ _ h=>r_neq rfl rfl h) ?_))
  refine dj_eqv (u:=.bool false) (congrArg Value.bool (by simp)) ?_
  refine K10 (CJ.t [(0,_),(1,_),(12,_),(13,_),(24,_)] (k:=?_))
  refine cj_if_f rfl (cj_skip (K8 (cj_reg (jI (k:=jM (k:=j_nil (ej_then ?_)))))))
  exact fun w' hH hf=>hKL (k+1) _ w' hk' hf .nil (by omega) sR
 ·refine cj_exit (K4 (sQ fun K11=>cj_reg (jA (k:=K11 (cj_ret ?_)))))
  exact ej_ret1 Tryz.results78 rfl fun w' hH hf=>⟨rfl,hf⟩
theorem cl1_c (w:World) (cs ds:List Value) (x:PTexts) (hR:RTexts w cs x) (hR2:RTexts w ds x):Calls Tryz.prog 80 #[.agg cs.toArray,.agg ds.toArray] w (Ret fun r w'=>r=.bool true∧Fr 0 [] w w'):=by
 obtain ⟨l,rfl,h⟩:=hR
 obtain ⟨l2,rfl,h2⟩:=hR2
 obtain ⟨p,c,rfl, -⟩:=h.open
 obtain ⟨p2,c2,rfl, -⟩:=h2.open
 refine startJ (args:=[_,_]) [(0,.agg (List.toArray [_,_])),(1,.agg (List.toArray [_,_]))] 0 [] [] Tryz.func80 rfl Tryz.ntmps80 rfl rfl .nil ?_
 refine sQ fun K1=>cj_reg (j_boxA (vs:=[_,_]) rfl rfl fun b2=>j_boxA (vs:=[_,_]) rfl rfl fun b3=>jA (k:=K1 (sQ fun K2=>cj_reg (jF 0 ru109 so9 (k:=jH 1 ag9 (k:=jF 0 ru109 so9 (k:=jH 0 ag9 (k:=?_))))))))
 refine j_val rfl (fun _ _ h=>r_seql rfl rfl h) ?_
 refine j_eqv (u:=.bool true) (congrArg Value.bool (by simp)) ?_
 refine jM (k:=?_)
 refine j_gt rfl rfl (jF 1 ru109 so27 (k:=?_))
 refine j_gt rfl rfl (jH 1 ag27 (k:=?_))
 refine j_gt rfl rfl (jF 1 ru109 so27 (k:=?_))
 refine j_gt rfl rfl (jH 0 ag27 (k:=?_))
 refine j_gt rfl rfl ?_
 refine j_callQ (φ:=fun r=>r=.bool true) Tryz.call45 rfl rfl (fun w3 hH hf=>slSt_c w3 _ _ (x.list) (h.keep (RStr.keep (hf.keepAll (.inr rfl))) (hf.keepAll (.inr rfl))) (h2.keep (RStr.keep (hf.keepAll (.inr rfl))) (hf.keepAll (.inr rfl)))) fun r hr=>?_
 subst hr
 refine jT (k:=jA (k:=K2 (CJ.t [(4,_)] (k:=cj_ret ?_))))
 exact ej_ret1 Tryz.results80 rfl fun w' hH hf=>⟨rfl,hf⟩
theorem cl2_c (w:World) (cs ds:List Value) (x:PNums) (hR:RNums w cs x) (hR2:RNums w ds x):Calls Tryz.prog 82 #[.agg cs.toArray,.agg ds.toArray] w (Ret fun r w'=>r=.bool true∧Fr 0 [] w w'):=by
 obtain ⟨l,rfl,h⟩:=hR
 obtain ⟨l2,rfl,h2⟩:=hR2
 obtain ⟨p,c,rfl, -⟩:=h.open
 obtain ⟨p2,c2,rfl, -⟩:=h2.open
 refine startJ (args:=[_,_]) [(0,.agg (List.toArray [_,_])),(1,.agg (List.toArray [_,_]))] 0 [] [] Tryz.func82 rfl Tryz.ntmps82 rfl rfl .nil ?_
 refine sQ fun K1=>cj_reg (j_boxA (vs:=[_,_]) rfl rfl fun b2=>j_boxA (vs:=[_,_]) rfl rfl fun b3=>jA (k:=K1 (sQ fun K2=>cj_reg (jF 0 ru112 so9 (k:=jH 1 ag9 (k:=jF 0 ru112 so9 (k:=jH 0 ag9 (k:=?_))))))))
 refine j_val rfl (fun _ _ h=>r_seql rfl rfl h) ?_
 refine j_eqv (u:=.bool true) (congrArg Value.bool (by simp)) ?_
 refine jM (k:=?_)
 refine j_gt rfl rfl (jF 1 ru112 so53 (k:=?_))
 refine j_gt rfl rfl (jH 1 ag53 (k:=?_))
 refine j_gt rfl rfl (jF 1 ru112 so53 (k:=?_))
 refine j_gt rfl rfl (jH 0 ag53 (k:=?_))
 refine j_gt rfl rfl ?_
 refine j_callQ (φ:=fun r=>r=.bool true) Tryz.call78 rfl rfl (fun w3 hH hf=>slI6_c w3 _ _ (x.list) (h.keep (RInt.keep (hf.keepAll (.inr rfl))) (hf.keepAll (.inr rfl))) (h2.keep (RInt.keep (hf.keepAll (.inr rfl))) (hf.keepAll (.inr rfl)))) fun r hr=>?_
 subst hr
 refine jT (k:=jA (k:=K2 (CJ.t [(4,_)] (k:=cj_ret ?_))))
 exact ej_ret1 Tryz.results82 rfl fun w' hH hf=>⟨rfl,hf⟩
theorem sfTx_c (w:World) (v u:Value) (xs:List PTexts) (hv:Lay RTexts 2 w v xs) (hu:Lay RTexts 2 w u xs):Calls Tryz.prog 79 #[v,u,.func (.func 80) #[] #[]] w (Ret fun r w'=>r=.bool true∧Fr 0 [] w w'):=by
 obtain ⟨p,c,rfl,hl,hx⟩:=hv.open
 obtain ⟨q,c2,rfl, -,hy⟩:=hu.open
 refine startJ (args:=[_,_,_]) [(0,_),(1,_),(2,_)] 0 [] [] Tryz.func79 rfl Tryz.ntmps79 rfl rfl .nil ?_
 refine sQ fun K1=>cj_reg (jA (k:=K1 (sQ fun K2=>sQ fun K3=>cj_reg (jM (k:=jE ru54 (k:=jM (k:=jE ru54 (k:=?_))))))))
 refine j_val rfl (fun _ _ h=>r_neq rfl rfl h) ?_
 refine j_eqv (u:=.bool false) (congrArg Value.bool (by simp)) ?_
 refine K3 (cj_if_f rfl (cj_skip (K2 (sQ fun K4=>sQ fun K5=>cj_reg (jM (k:=jE ru54 (k:=jM (k:=K5 (cj_block ?_)))))))))
 refine cj_loop (σ:=Nat) (fun k=>[(1,.slice q xs.length c2),(2,.func (.func 80) #[] #[]),(15,.slice p xs.length c),(16,.int .i64 (xs.length:Nat)),(17,.int .i64 (k:Nat))]) (fun _=>[]) (fun k _=>k≤xs.length) (fun k=>xs.length - k) 0 sR (fun w hH hf=>⟨.nil,Nat.zero_le _⟩) ?_
 rintro k w1 hk hf1 hH1 KL hKL
 refine C.begin _ [] hf1 .nil ?_
 try dsimp only
 refine sQ fun K6=>cj_reg (jS (k:=K6 (sQ fun K7=>?_)))
 refine cj_dec rfl (fun h18=>?_) (fun h18=>?_)
 ·have hk':k<xs.length:=by omega
  obtain ⟨b,o,cs,rfl, -,hR,hcell⟩:=hx k xs[k] (List.getElem?_eq_getElem hk')
  obtain ⟨b2,o2,cs2,rfl, -,hR2,hcell2⟩:=hy k xs[k] (List.getElem?_eq_getElem hk')
  have hRk:=hR
  have hRk2:=hR2
  obtain ⟨l,rfl,h⟩:=hR
  obtain ⟨l2,rfl,h2⟩:=hR2
  obtain ⟨p1,c1,rfl, -⟩:=h.open
  obtain ⟨p2,c3,rfl, -⟩:=h2.open
  refine cj_skip (K7 (sQ fun K8=>cj_block (sQ fun K9=>cj_reg (jM (k:=jJ ru54 so109 (k:=?_))))))
  refine j_valw rfl (fun a w ha hH hf=>r_loadA ag109 so109 rfl rfl (hcell w (hf.keepAll (.inr rfl))) ha) (j_allocA (zs:=[(.string ⟨#[]⟩),(.slice none 0 0)]) zv109 rfl fun b8=>jA (k:=jB [_,_] [_] 0 so109 (k:=K9 (sQ fun K10=>cj_reg (jM (k:=jM (k:=jJ ru54 so109 (k:=?_))))))))
  refine j_valw rfl (fun a w ha hH hf=>r_loadA ag109 so109 rfl rfl (hcell2 w (hf.keepAll (.inr rfl))) ha) (j_allocA (zs:=[(.string ⟨#[]⟩),(.slice none 0 0)]) zv109 rfl fun b9=>jB [_,_] [_,_] 0 so109 (k:=K10 (CJ.t [(1,_),(2,_),(8,_),(9,_),(15,_),(16,_),(17,_)] (k:=sQ fun K11=>cj_reg (jM (k:=?_))))))
  refine j_valw rfl (fun a w ha hH hf=>r_ldA (vs:=[_,_]) 1 rfl rfl ag109 so109 rfl rfl rfl ha hH) (j_valw rfl (fun a w ha hH hf=>r_ldA (vs:=[_,_]) 0 rfl rfl ag109 so109 rfl rfl rfl ha hH) ?_)
  refine j_callVQ (g:=80) (φ:=fun r=>r=.bool true) Tryz.call80 rfl rfl rfl (fun v' hH hf=>cl1_c v' _ _ xs[k] (RTexts.keep (hf.keepAll (.inr rfl)) _ _ hRk) (RTexts.keep (hf.keepAll (.inr rfl)) _ _ hRk2)) fun r hr=>?_
  subst hr
  refine jU (k:=?_)
  refine j_eqv (u:=.bool false) rfl ?_
  refine K11 (cj_if_f rfl (cj_skip (K8 (cj_reg (jI (k:=jM (k:=j_nil (ej_then ?_))))))))
  exact fun w' hH hf=>hKL (k+1) _ w' hk' hf .nil (by omega) sR
 ·refine cj_exit (K4 (sQ fun K12=>cj_reg (jA (k:=K12 (cj_ret ?_)))))
  exact ej_ret1 Tryz.results79 rfl fun w' hH hf=>⟨rfl,hf⟩
theorem sfNu_c (w:World) (v u:Value) (xs:List PNums) (hv:Lay RNums 2 w v xs) (hu:Lay RNums 2 w u xs):Calls Tryz.prog 81 #[v,u,.func (.func 82) #[] #[]] w (Ret fun r w'=>r=.bool true∧Fr 0 [] w w'):=by
 obtain ⟨p,c,rfl,hl,hx⟩:=hv.open
 obtain ⟨q,c2,rfl, -,hy⟩:=hu.open
 refine startJ (args:=[_,_,_]) [(0,_),(1,_),(2,_)] 0 [] [] Tryz.func81 rfl Tryz.ntmps81 rfl rfl .nil ?_
 refine sQ fun K1=>cj_reg (jA (k:=K1 (sQ fun K2=>sQ fun K3=>cj_reg (jM (k:=jE ru55 (k:=jM (k:=jE ru55 (k:=?_))))))))
 refine j_val rfl (fun _ _ h=>r_neq rfl rfl h) ?_
 refine j_eqv (u:=.bool false) (congrArg Value.bool (by simp)) ?_
 refine K3 (cj_if_f rfl (cj_skip (K2 (sQ fun K4=>sQ fun K5=>cj_reg (jM (k:=jE ru55 (k:=jM (k:=K5 (cj_block ?_)))))))))
 refine cj_loop (σ:=Nat) (fun k=>[(1,.slice q xs.length c2),(2,.func (.func 82) #[] #[]),(15,.slice p xs.length c),(16,.int .i64 (xs.length:Nat)),(17,.int .i64 (k:Nat))]) (fun _=>[]) (fun k _=>k≤xs.length) (fun k=>xs.length - k) 0 sR (fun w hH hf=>⟨.nil,Nat.zero_le _⟩) ?_
 rintro k w1 hk hf1 hH1 KL hKL
 refine C.begin _ [] hf1 .nil ?_
 try dsimp only
 refine sQ fun K6=>cj_reg (jS (k:=K6 (sQ fun K7=>?_)))
 refine cj_dec rfl (fun h18=>?_) (fun h18=>?_)
 ·have hk':k<xs.length:=by omega
  obtain ⟨b,o,cs,rfl, -,hR,hcell⟩:=hx k xs[k] (List.getElem?_eq_getElem hk')
  obtain ⟨b2,o2,cs2,rfl, -,hR2,hcell2⟩:=hy k xs[k] (List.getElem?_eq_getElem hk')
  have hRk:=hR
  have hRk2:=hR2
  obtain ⟨l,rfl,h⟩:=hR
  obtain ⟨l2,rfl,h2⟩:=hR2
  obtain ⟨p1,c1,rfl, -⟩:=h.open
  obtain ⟨p2,c3,rfl, -⟩:=h2.open
  refine cj_skip (K7 (sQ fun K8=>cj_block (sQ fun K9=>cj_reg (jM (k:=jJ ru55 so112 (k:=?_))))))
  refine j_valw rfl (fun a w ha hH hf=>r_loadA ag112 so112 rfl rfl (hcell w (hf.keepAll (.inr rfl))) ha) (j_allocA (zs:=[(.string ⟨#[]⟩),(.slice none 0 0)]) zv112 rfl fun b8=>jA (k:=jB [_,_] [_] 0 so112 (k:=K9 (sQ fun K10=>cj_reg (jM (k:=jM (k:=jJ ru55 so112 (k:=?_))))))))
  refine j_valw rfl (fun a w ha hH hf=>r_loadA ag112 so112 rfl rfl (hcell2 w (hf.keepAll (.inr rfl))) ha) (j_allocA (zs:=[(.string ⟨#[]⟩),(.slice none 0 0)]) zv112 rfl fun b9=>jB [_,_] [_,_] 0 so112 (k:=K10 (CJ.t [(1,_),(2,_),(8,_),(9,_),(15,_),(16,_),(17,_)] (k:=sQ fun K11=>cj_reg (jM (k:=?_))))))
  refine j_valw rfl (fun a w ha hH hf=>r_ldA (vs:=[_,_]) 1 rfl rfl ag112 so112 rfl rfl rfl ha hH) (j_valw rfl (fun a w ha hH hf=>r_ldA (vs:=[_,_]) 0 rfl rfl ag112 so112 rfl rfl rfl ha hH) ?_)
  refine j_callVQ (g:=82) (φ:=fun r=>r=.bool true) Tryz.call82 rfl rfl rfl (fun v' hH hf=>cl2_c v' _ _ xs[k] (RNums.keep (hf.keepAll (.inr rfl)) _ _ hRk) (RNums.keep (hf.keepAll (.inr rfl)) _ _ hRk2)) fun r hr=>?_
  subst hr
  refine jU (k:=?_)
  refine j_eqv (u:=.bool false) rfl ?_
  refine K11 (cj_if_f rfl (cj_skip (K8 (cj_reg (jI (k:=jM (k:=j_nil (ej_then ?_))))))))
  exact fun w' hH hf=>hKL (k+1) _ w' hk' hf .nil (by omega) sR
 ·refine cj_exit (K4 (sQ fun K12=>cj_reg (jA (k:=K12 (cj_ret ?_)))))
  exact ej_ret1 Tryz.results81 rfl fun w' hH hf=>⟨rfl,hf⟩
theorem sameLoc_c (w:World) (cs ds:List Value) (x:PLoc) (hR:RLoc w cs x) (hR2:RLoc w ds x):Calls Tryz.prog 43 #[.agg cs.toArray,.agg ds.toArray] w (Ret fun r w'=>r=.bool true∧Fr 0 [] w w'):=by
 obtain ⟨l,rfl, -, -, -,h⟩:=hR
 obtain ⟨l2,rfl, -, -, -,h2⟩:=hR2
 obtain ⟨p,c,rfl, -⟩:=h.open
 obtain ⟨p2,c2,rfl, -⟩:=h2.open
 refine startJ (args:=[_,_]) [(0,.agg (List.toArray [_,_,_,_])),(1,.agg (List.toArray [_,_,_,_]))] 0 [] [] Tryz.func43 rfl Tryz.ntmps43 rfl rfl .nil ?_
 refine sQ fun K1=>cj_reg (j_boxA (vs:=[_,_,_,_]) rfl rfl fun b2=>j_boxA (vs:=[_,_,_,_]) rfl rfl fun b3=>jA (k:=K1 (sQ fun K2=>cj_reg (jF 0 ru77 so71 (k:=jH 1 ag71 (k:=jF 0 ru77 so71 (k:=jH 0 ag71 (k:=jQ (k:=?_)))))))))
 refine j_eqv (u:=.bool true) (congrArg Value.bool (by simp)) ?_
 refine jM (k:=?_)
 refine j_gt rfl rfl (jF 1 ru77 so3 (k:=?_))
 refine j_gt rfl rfl (jH 1 ag3 (k:=?_))
 refine j_gt rfl rfl (jF 1 ru77 so3 (k:=?_))
 refine j_gt rfl rfl (jH 0 ag3 (k:=?_))
 refine j_gt rfl rfl (jQ (k:=?_))
 refine j_eqv (u:=.bool true) (congrArg Value.bool (by simp)) ?_
 refine jT (k:=jM (k:=?_))
 refine j_gt rfl rfl (jF 2 ru77 so71 (k:=?_))
 refine j_gt rfl rfl (jH 1 ag71 (k:=?_))
 refine j_gt rfl rfl (jF 2 ru77 so71 (k:=?_))
 refine j_gt rfl rfl (jH 0 ag71 (k:=?_))
 refine j_gt rfl rfl (jQ (k:=?_))
 refine j_eqv (u:=.bool true) (congrArg Value.bool (by simp)) ?_
 refine jT (k:=jM (k:=?_))
 refine j_gt rfl rfl (jF 3 ru77 so75 (k:=?_))
 refine j_gt rfl rfl (jH 1 ag75 (k:=?_))
 refine j_gt rfl rfl (jF 3 ru77 so75 (k:=?_))
 refine j_gt rfl rfl (jH 0 ag75 (k:=?_))
 refine j_gt rfl rfl ?_
 refine j_callQ (φ:=fun r=>r=.bool true) Tryz.call83 rfl rfl (fun w3 hH hf=>slLn_c w3 _ _ (x.lines) (h.keep (RLine.keep (hf.keepAll (.inr rfl))) (hf.keepAll (.inr rfl))) (h2.keep (RLine.keep (hf.keepAll (.inr rfl))) (hf.keepAll (.inr rfl)))) fun r hr=>?_
 subst hr
 refine jT (k:=jA (k:=K2 (CJ.t [(4,_)] (k:=cj_ret ?_))))
 exact ej_ret1 Tryz.results43 rfl fun w' hH hf=>⟨rfl,hf⟩
theorem sfLc_c (w:World) (v u:Value) (xs:List PLoc) (hv:Lay RLoc 4 w v xs) (hu:Lay RLoc 4 w u xs):Calls Tryz.prog 42 #[v,u,.func (.func 43) #[] #[]] w (Ret fun r w'=>r=.bool true∧Fr 0 [] w w'):=by
 obtain ⟨p,c,rfl,hl,hx⟩:=hv.open
 obtain ⟨q,c2,rfl, -,hy⟩:=hu.open
 refine startJ (args:=[_,_,_]) [(0,_),(1,_),(2,_)] 0 [] [] Tryz.func42 rfl Tryz.ntmps42 rfl rfl .nil ?_
 refine sQ fun K1=>cj_reg (jA (k:=K1 (sQ fun K2=>sQ fun K3=>cj_reg (jM (k:=jE ru25 (k:=jM (k:=jE ru25 (k:=?_))))))))
 refine j_val rfl (fun _ _ h=>r_neq rfl rfl h) ?_
 refine j_eqv (u:=.bool false) (congrArg Value.bool (by simp)) ?_
 refine K3 (cj_if_f rfl (cj_skip (K2 (sQ fun K4=>sQ fun K5=>cj_reg (jM (k:=jE ru25 (k:=jM (k:=K5 (cj_block ?_)))))))))
 refine cj_loop (σ:=Nat) (fun k=>[(1,.slice q xs.length c2),(2,.func (.func 43) #[] #[]),(15,.slice p xs.length c),(16,.int .i64 (xs.length:Nat)),(17,.int .i64 (k:Nat))]) (fun _=>[]) (fun k _=>k≤xs.length) (fun k=>xs.length - k) 0 sR (fun w hH hf=>⟨.nil,Nat.zero_le _⟩) ?_
 rintro k w1 hk hf1 hH1 KL hKL
 refine C.begin _ [] hf1 .nil ?_
 try dsimp only
 refine sQ fun K6=>cj_reg (jS (k:=K6 (sQ fun K7=>?_)))
 refine cj_dec rfl (fun h18=>?_) (fun h18=>?_)
 ·have hk':k<xs.length:=by omega
  obtain ⟨b,o,cs,rfl, -,hR,hcell⟩:=hx k xs[k] (List.getElem?_eq_getElem hk')
  obtain ⟨b2,o2,cs2,rfl, -,hR2,hcell2⟩:=hy k xs[k] (List.getElem?_eq_getElem hk')
  have hRk:=hR
  have hRk2:=hR2
  obtain ⟨l,rfl, -, -, -,h⟩:=hR
  obtain ⟨l2,rfl, -, -, -,h2⟩:=hR2
  obtain ⟨p1,c1,rfl, -⟩:=h.open
  obtain ⟨p2,c3,rfl, -⟩:=h2.open
  refine cj_skip (K7 (sQ fun K8=>cj_block (sQ fun K9=>cj_reg (jM (k:=jJ ru25 so77 (k:=?_))))))
  refine j_valw rfl (fun a w ha hH hf=>r_loadA ag77 so77 rfl rfl (hcell w (hf.keepAll (.inr rfl))) ha) (j_allocA (zs:=[(.int .u64 0),(.int .i64 0),(.int .u64 0),(.slice none 0 0)]) zv77 rfl fun b8=>jA (k:=jB [_,_,_,_] [_] 0 so77 (k:=K9 (sQ fun K10=>cj_reg (jM (k:=jM (k:=jJ ru25 so77 (k:=?_))))))))
  refine j_valw rfl (fun a w ha hH hf=>r_loadA ag77 so77 rfl rfl (hcell2 w (hf.keepAll (.inr rfl))) ha) (j_allocA (zs:=[(.int .u64 0),(.int .i64 0),(.int .u64 0),(.slice none 0 0)]) zv77 rfl fun b9=>jB [_,_,_,_] [_,_] 0 so77 (k:=K10 (CJ.t [(1,_),(2,_),(8,_),(9,_),(15,_),(16,_),(17,_)] (k:=sQ fun K11=>cj_reg (jM (k:=?_))))))
  refine j_valw rfl (fun a w ha hH hf=>r_ldA (vs:=[_,_,_,_]) 1 rfl rfl ag77 so77 rfl rfl rfl ha hH) (j_valw rfl (fun a w ha hH hf=>r_ldA (vs:=[_,_,_,_]) 0 rfl rfl ag77 so77 rfl rfl rfl ha hH) ?_)
  refine j_callVQ (g:=43) (φ:=fun r=>r=.bool true) Tryz.call43 rfl rfl rfl (fun v' hH hf=>sameLoc_c v' _ _ xs[k] (RLoc.keep (hf.keepAll (.inr rfl)) _ _ hRk) (RLoc.keep (hf.keepAll (.inr rfl)) _ _ hRk2)) fun r hr=>?_
  subst hr
  refine jU (k:=?_)
  refine j_eqv (u:=.bool false) rfl ?_
  refine K11 (cj_if_f rfl (cj_skip (K8 (cj_reg (jI (k:=jM (k:=j_nil (ej_then ?_))))))))
  exact fun w' hH hf=>hKL (k+1) _ w' hk' hf .nil (by omega) sR
 ·refine cj_exit (K4 (sQ fun K12=>cj_reg (jA (k:=K12 (cj_ret ?_)))))
  exact ej_ret1 Tryz.results42 rfl fun w' hH hf=>⟨rfl,hf⟩
theorem sameSam_c (w:World) (cs ds:List Value) (x:PSample) (hR:RSample w cs x) (hR2:RSample w ds x):Calls Tryz.prog 40 #[.agg cs.toArray,.agg ds.toArray] w (Ret fun r w'=>r=.bool true∧Fr 0 [] w w'):=by
 obtain ⟨a1,b1,t1,u1,rfl,ha,hb,ht,hu1⟩:=hR
 obtain ⟨a2,b2,t2,u2,rfl,ha2,hb2,ht2,hu2⟩:=hR2
 obtain ⟨pa,ca,rfl, -⟩:=ha.open
 obtain ⟨pb,cb,rfl, -⟩:=hb.open
 obtain ⟨pt,ct,rfl, -⟩:=ht.open
 obtain ⟨pu1,cu1,rfl, -⟩:=hu1.open
 obtain ⟨pa2,ca2,rfl, -⟩:=ha2.open
 obtain ⟨pb2,cb2,rfl, -⟩:=hb2.open
 obtain ⟨pt2,ct2,rfl, -⟩:=ht2.open
 obtain ⟨pu2,cu2,rfl, -⟩:=hu2.open
 refine startJ (args:=[_,_]) [(0,.agg (List.toArray [_,_,_,_])),(1,.agg (List.toArray [_,_,_,_]))] 0 [] [] Tryz.func40 rfl Tryz.ntmps40 rfl rfl .nil ?_
 refine sQ fun K1=>cj_reg (j_boxA (vs:=[_,_,_,_]) rfl rfl fun b2=>j_boxA (vs:=[_,_,_,_]) rfl rfl fun b3=>jA (k:=K1 (sQ fun K2=>cj_reg (jF 0 ru57 so32 (k:=jH 1 ag32 (k:=jF 0 ru57 so32 (k:=jH 0 ag32 (k:=?_))))))))
 refine j_callQ (φ:=fun r=>r=.bool true) Tryz.call77 rfl rfl (fun w3 hH hf=>slIn_c w3 _ _ (x.stack) (ha.keep (RInt.keep (hf.keepAll (.inr rfl))) (hf.keepAll (.inr rfl))) (ha2.keep (RInt.keep (hf.keepAll (.inr rfl))) (hf.keepAll (.inr rfl)))) fun r hr=>?_
 subst hr
 refine jM (k:=?_)
 refine j_gt rfl rfl (jF 1 ru57 so53 (k:=?_))
 refine j_gt rfl rfl (jH 1 ag53 (k:=?_))
 refine j_gt rfl rfl (jF 1 ru57 so53 (k:=?_))
 refine j_gt rfl rfl (jH 0 ag53 (k:=?_))
 refine j_gt rfl rfl ?_
 refine j_callQ (φ:=fun r=>r=.bool true) Tryz.call78 rfl rfl (fun w3 hH hf=>slI6_c w3 _ _ (x.values) (hb.keep (RInt.keep (hf.keepAll (.inr rfl))) (hf.keepAll (.inr rfl))) (hb2.keep (RInt.keep (hf.keepAll (.inr rfl))) (hf.keepAll (.inr rfl)))) fun r hr=>?_
 subst hr
 refine jT (k:=jM (k:=?_))
 refine j_gt rfl rfl (jF 2 ru57 so54 (k:=?_))
 refine j_gt rfl rfl (jH 1 ag54 (k:=?_))
 refine j_gt rfl rfl (jF 2 ru57 so54 (k:=?_))
 refine j_gt rfl rfl (jH 0 ag54 (k:=?_))
 refine j_gt rfl rfl ?_
 refine j_callQ (φ:=fun r=>r=.bool true) Tryz.call79 rfl rfl (fun w3 hH hf=>sfTx_c w3 _ _ (x.texts) (ht.keep (RTexts.keep (hf.keepAll (.inr rfl))) (hf.keepAll (.inr rfl))) (ht2.keep (RTexts.keep (hf.keepAll (.inr rfl))) (hf.keepAll (.inr rfl)))) fun r hr=>?_
 subst hr
 refine jT (k:=jM (k:=?_))
 refine j_gt rfl rfl (jF 3 ru57 so55 (k:=?_))
 refine j_gt rfl rfl (jH 1 ag55 (k:=?_))
 refine j_gt rfl rfl (jF 3 ru57 so55 (k:=?_))
 refine j_gt rfl rfl (jH 0 ag55 (k:=?_))
 refine j_gt rfl rfl ?_
 refine j_callQ (φ:=fun r=>r=.bool true) Tryz.call81 rfl rfl (fun w3 hH hf=>sfNu_c w3 _ _ (x.nums) (hu1.keep (RNums.keep (hf.keepAll (.inr rfl))) (hf.keepAll (.inr rfl))) (hu2.keep (RNums.keep (hf.keepAll (.inr rfl))) (hf.keepAll (.inr rfl)))) fun r hr=>?_
 subst hr
 refine jT (k:=jA (k:=K2 (CJ.t [(4,_)] (k:=cj_ret ?_))))
 exact ej_ret1 Tryz.results40 rfl fun w' hH hf=>⟨rfl,hf⟩
theorem sfSm_c (w:World) (v u:Value) (xs:List PSample) (hv:Lay RSample 4 w v xs) (hu:Lay RSample 4 w u xs):Calls Tryz.prog 39 #[v,u,.func (.func 40) #[] #[]] w (Ret fun r w'=>r=.bool true∧Fr 0 [] w w'):=by
 obtain ⟨p,c,rfl,hl,hx⟩:=hv.open
 obtain ⟨q,c2,rfl, -,hy⟩:=hu.open
 refine startJ (args:=[_,_,_]) [(0,_),(1,_),(2,_)] 0 [] [] Tryz.func39 rfl Tryz.ntmps39 rfl rfl .nil ?_
 refine sQ fun K1=>cj_reg (jA (k:=K1 (sQ fun K2=>sQ fun K3=>cj_reg (jM (k:=jE ru23 (k:=jM (k:=jE ru23 (k:=?_))))))))
 refine j_val rfl (fun _ _ h=>r_neq rfl rfl h) ?_
 refine j_eqv (u:=.bool false) (congrArg Value.bool (by simp)) ?_
 refine K3 (cj_if_f rfl (cj_skip (K2 (sQ fun K4=>sQ fun K5=>cj_reg (jM (k:=jE ru23 (k:=jM (k:=K5 (cj_block ?_)))))))))
 refine cj_loop (σ:=Nat) (fun k=>[(1,.slice q xs.length c2),(2,.func (.func 40) #[] #[]),(15,.slice p xs.length c),(16,.int .i64 (xs.length:Nat)),(17,.int .i64 (k:Nat))]) (fun _=>[]) (fun k _=>k≤xs.length) (fun k=>xs.length - k) 0 sR (fun w hH hf=>⟨.nil,Nat.zero_le _⟩) ?_
 rintro k w1 hk hf1 hH1 KL hKL
 refine C.begin _ [] hf1 .nil ?_
 try dsimp only
 refine sQ fun K6=>cj_reg (jS (k:=K6 (sQ fun K7=>?_)))
 refine cj_dec rfl (fun h18=>?_) (fun h18=>?_)
 ·have hk':k<xs.length:=by omega
  obtain ⟨b,o,cs,rfl, -,hR,hcell⟩:=hx k xs[k] (List.getElem?_eq_getElem hk')
  obtain ⟨b2,o2,cs2,rfl, -,hR2,hcell2⟩:=hy k xs[k] (List.getElem?_eq_getElem hk')
  have hRk:=hR
  have hRk2:=hR2
  obtain ⟨q1,q2,q3,q4,rfl,hq1,hq2,hq3,hq4⟩:=hR
  obtain ⟨r1,r2,r3,r4,rfl,hr1,hr2,hr3,hr4⟩:=hR2
  obtain ⟨pq1,cq1,rfl, -⟩:=hq1.open
  obtain ⟨pq2,cq2,rfl, -⟩:=hq2.open
  obtain ⟨pq3,cq3,rfl, -⟩:=hq3.open
  obtain ⟨pq4,cq4,rfl, -⟩:=hq4.open
  obtain ⟨pr1,cr1,rfl, -⟩:=hr1.open
  obtain ⟨pr2,cr2,rfl, -⟩:=hr2.open
  obtain ⟨pr3,cr3,rfl, -⟩:=hr3.open
  obtain ⟨pr4,cr4,rfl, -⟩:=hr4.open
  refine cj_skip (K7 (sQ fun K8=>cj_block (sQ fun K9=>cj_reg (jM (k:=jJ ru23 so57 (k:=?_))))))
  refine j_valw rfl (fun a w ha hH hf=>r_loadA ag57 so57 rfl rfl (hcell w (hf.keepAll (.inr rfl))) ha) (j_allocA (zs:=[(.slice none 0 0),(.slice none 0 0),(.slice none 0 0),(.slice none 0 0)]) zv57 rfl fun b8=>jA (k:=jB [_,_,_,_] [_] 0 so57 (k:=K9 (sQ fun K10=>cj_reg (jM (k:=jM (k:=jJ ru23 so57 (k:=?_))))))))
  refine j_valw rfl (fun a w ha hH hf=>r_loadA ag57 so57 rfl rfl (hcell2 w (hf.keepAll (.inr rfl))) ha) (j_allocA (zs:=[(.slice none 0 0),(.slice none 0 0),(.slice none 0 0),(.slice none 0 0)]) zv57 rfl fun b9=>jB [_,_,_,_] [_,_] 0 so57 (k:=K10 (CJ.t [(1,_),(2,_),(8,_),(9,_),(15,_),(16,_),(17,_)] (k:=sQ fun K11=>cj_reg (jM (k:=?_))))))
  refine j_valw rfl (fun a w ha hH hf=>r_ldA (vs:=[_,_,_,_]) 1 rfl rfl ag57 so57 rfl rfl rfl ha hH) (j_valw rfl (fun a w ha hH hf=>r_ldA (vs:=[_,_,_,_]) 0 rfl rfl ag57 so57 rfl rfl rfl ha hH) ?_)
  refine j_callVQ (g:=40) (φ:=fun r=>r=.bool true) Tryz.call40 rfl rfl rfl (fun v' hH hf=>sameSam_c v' _ _ xs[k] (RSample.keep (hf.keepAll (.inr rfl)) _ _ hRk) (RSample.keep (hf.keepAll (.inr rfl)) _ _ hRk2)) fun r hr=>?_
  subst hr
  refine jU (k:=?_)
  refine j_eqv (u:=.bool false) rfl ?_
  refine K11 (cj_if_f rfl (cj_skip (K8 (cj_reg (jI (k:=jM (k:=j_nil (ej_then ?_))))))))
  exact fun w' hH hf=>hKL (k+1) _ w' hk' hf .nil (by omega) sR
 ·refine cj_exit (K4 (sQ fun K12=>cj_reg (jA (k:=K12 (cj_ret ?_)))))
  exact ej_ret1 Tryz.results39 rfl fun w' hH hf=>⟨rfl,hf⟩
theorem same_c (w:World) (cs ds:List Value) (x:PProf) (hR:RProf w cs x) (hR2:RProf w ds x):Calls Tryz.prog 11 #[.agg cs.toArray,.agg ds.toArray] w (Ret fun r w'=>r=.bool true∧Fr 0 [] w w'):=by
 obtain ⟨a,s,m,l,f,cm,rfl,ha,hs,hm,hl,hf0,hcm, -⟩:=hR
 obtain ⟨a2,s2,m2,l2,f2,cm2,rfl,ha2,hs2,hm2,hl2,hf2,hcm2, -⟩:=hR2
 obtain ⟨pa,ca,rfl, -⟩:=ha.open
 obtain ⟨ps,cs,rfl, -⟩:=hs.open
 obtain ⟨pm,cm,rfl, -⟩:=hm.open
 obtain ⟨pl,cl,rfl, -⟩:=hl.open
 obtain ⟨pf0,cf0,rfl, -⟩:=hf0.open
 obtain ⟨pcm,ccm,rfl, -⟩:=hcm.open
 obtain ⟨pa2,ca2,rfl, -⟩:=ha2.open
 obtain ⟨ps2,cs2,rfl, -⟩:=hs2.open
 obtain ⟨pm2,cm2,rfl, -⟩:=hm2.open
 obtain ⟨pl2,cl2,rfl, -⟩:=hl2.open
 obtain ⟨pf2,cf2,rfl, -⟩:=hf2.open
 obtain ⟨pcm2,ccm2,rfl, -⟩:=hcm2.open
 refine startJ (args:=[_,_]) [(0,.agg (List.toArray [_,_,_,_,_,_,_,_,_,_,_,_,_,_])),(1,.agg (List.toArray [_,_,_,_,_,_,_,_,_,_,_,_,_,_]))] 0 [] [] Tryz.func11 rfl Tryz.ntmps11 rfl rfl .nil ?_
 refine sQ fun K1=>cj_reg (j_boxA (vs:=[_,_,_,_,_,_,_,_,_,_,_,_,_,_]) rfl rfl fun b2=>j_boxA (vs:=[_,_,_,_,_,_,_,_,_,_,_,_,_,_]) rfl rfl fun b3=>jA (k:=K1 (sQ fun K2=>cj_reg (jF 0 ru31 so22 (k:=jH 1 ag22 (k:=jF 0 ru31 so22 (k:=jH 0 ag22 (k:=?_))))))))
 refine j_callQ (φ:=fun r=>r=.bool true) Tryz.call38 rfl rfl (fun w3 hH hf=>slTy_c w3 _ _ (x.types) (ha.keep (RType.keep (hf.keepAll (.inr rfl))) (hf.keepAll (.inr rfl))) (ha2.keep (RType.keep (hf.keepAll (.inr rfl))) (hf.keepAll (.inr rfl)))) fun r hr=>?_
 subst hr
 refine jM (k:=?_)
 refine j_gt rfl rfl (jF 1 ru31 so9 (k:=?_))
 refine j_gt rfl rfl (jH 1 ag9 (k:=?_))
 refine j_gt rfl rfl (jF 1 ru31 so9 (k:=?_))
 refine j_gt rfl rfl (jH 0 ag9 (k:=?_))
 refine j_gt rfl rfl (j_val rfl (fun _ _ h=>r_seql rfl rfl h) ?_)
 refine j_eqv (u:=.bool true) (congrArg Value.bool (by simp)) ?_
 refine jT (k:=jM (k:=?_))
 refine j_gt rfl rfl (jF 2 ru31 so23 (k:=?_))
 refine j_gt rfl rfl (jH 1 ag23 (k:=?_))
 refine j_gt rfl rfl (jF 2 ru31 so23 (k:=?_))
 refine j_gt rfl rfl (jH 0 ag23 (k:=?_))
 refine j_gt rfl rfl ?_
 refine j_callQ (φ:=fun r=>r=.bool true) Tryz.call39 rfl rfl (fun w3 hH hf=>sfSm_c w3 _ _ (x.samples) (hs.keep (RSample.keep (hf.keepAll (.inr rfl))) (hf.keepAll (.inr rfl))) (hs2.keep (RSample.keep (hf.keepAll (.inr rfl))) (hf.keepAll (.inr rfl)))) fun r hr=>?_
 subst hr
 refine jT (k:=jM (k:=?_))
 refine j_gt rfl rfl (jF 3 ru31 so24 (k:=?_))
 refine j_gt rfl rfl (jH 1 ag24 (k:=?_))
 refine j_gt rfl rfl (jF 3 ru31 so24 (k:=?_))
 refine j_gt rfl rfl (jH 0 ag24 (k:=?_))
 refine j_gt rfl rfl ?_
 refine j_callQ (φ:=fun r=>r=.bool true) Tryz.call41 rfl rfl (fun w3 hH hf=>slMp_c w3 _ _ (x.mappings) (hm.keep (RMapping.keep (hf.keepAll (.inr rfl))) (hf.keepAll (.inr rfl))) (hm2.keep (RMapping.keep (hf.keepAll (.inr rfl))) (hf.keepAll (.inr rfl)))) fun r hr=>?_
 subst hr
 refine jT (k:=jM (k:=?_))
 refine j_gt rfl rfl (jF 4 ru31 so25 (k:=?_))
 refine j_gt rfl rfl (jH 1 ag25 (k:=?_))
 refine j_gt rfl rfl (jF 4 ru31 so25 (k:=?_))
 refine j_gt rfl rfl (jH 0 ag25 (k:=?_))
 refine j_gt rfl rfl ?_
 refine j_callQ (φ:=fun r=>r=.bool true) Tryz.call42 rfl rfl (fun w3 hH hf=>sfLc_c w3 _ _ (x.locs) (hl.keep (RLoc.keep (hf.keepAll (.inr rfl))) (hf.keepAll (.inr rfl))) (hl2.keep (RLoc.keep (hf.keepAll (.inr rfl))) (hf.keepAll (.inr rfl)))) fun r hr=>?_
 subst hr
 refine jT (k:=jM (k:=?_))
 refine j_gt rfl rfl (jF 5 ru31 so26 (k:=?_))
 refine j_gt rfl rfl (jH 1 ag26 (k:=?_))
 refine j_gt rfl rfl (jF 5 ru31 so26 (k:=?_))
 refine j_gt rfl rfl (jH 0 ag26 (k:=?_))
 refine j_gt rfl rfl ?_
 refine j_callQ (φ:=fun r=>r=.bool true) Tryz.call44 rfl rfl (fun w3 hH hf=>slFn_c w3 _ _ (x.funcs) (hf0.keep (RFunc.keep (hf.keepAll (.inr rfl))) (hf.keepAll (.inr rfl))) (hf2.keep (RFunc.keep (hf.keepAll (.inr rfl))) (hf.keepAll (.inr rfl)))) fun r hr=>?_
 subst hr
 refine jT (k:=jM (k:=?_))
 refine j_gt rfl rfl (jF 6 ru31 so27 (k:=?_))
 refine j_gt rfl rfl (jH 1 ag27 (k:=?_))
 refine j_gt rfl rfl (jF 6 ru31 so27 (k:=?_))
 refine j_gt rfl rfl (jH 0 ag27 (k:=?_))
 refine j_gt rfl rfl ?_
 refine j_callQ (φ:=fun r=>r=.bool true) Tryz.call45 rfl rfl (fun w3 hH hf=>slSt_c w3 _ _ (x.comments) (hcm.keep (RStr.keep (hf.keepAll (.inr rfl))) (hf.keepAll (.inr rfl))) (hcm2.keep (RStr.keep (hf.keepAll (.inr rfl))) (hf.keepAll (.inr rfl)))) fun r hr=>?_
 subst hr
 refine jT (k:=jM (k:=?_))
 refine j_gt rfl rfl (jF 7 ru31 so9 (k:=?_))
 refine j_gt rfl rfl (jH 1 ag9 (k:=?_))
 refine j_gt rfl rfl (jF 7 ru31 so9 (k:=?_))
 refine j_gt rfl rfl (jH 0 ag9 (k:=?_))
 refine j_gt rfl rfl (j_val rfl (fun _ _ h=>r_seql rfl rfl h) ?_)
 refine j_eqv (u:=.bool true) (congrArg Value.bool (by simp)) ?_
 refine jT (k:=jM (k:=?_))
 refine j_gt rfl rfl (jF 8 ru31 so9 (k:=?_))
 refine j_gt rfl rfl (jH 1 ag9 (k:=?_))
 refine j_gt rfl rfl (jF 8 ru31 so9 (k:=?_))
 refine j_gt rfl rfl (jH 0 ag9 (k:=?_))
 refine j_gt rfl rfl (j_val rfl (fun _ _ h=>r_seql rfl rfl h) ?_)
 refine j_eqv (u:=.bool true) (congrArg Value.bool (by simp)) ?_
 refine jT (k:=jM (k:=?_))
 refine j_gt rfl rfl (jF 9 ru31 so2 (k:=?_))
 refine j_gt rfl rfl (jH 1 ag2 (k:=?_))
 refine j_gt rfl rfl (jF 9 ru31 so2 (k:=?_))
 refine j_gt rfl rfl (jH 0 ag2 (k:=?_))
 refine j_gt rfl rfl (jQ (k:=?_))
 refine j_eqv (u:=.bool true) (congrArg Value.bool (by simp)) ?_
 refine jT (k:=jM (k:=?_))
 refine j_gt rfl rfl (jF 10 ru31 so2 (k:=?_))
 refine j_gt rfl rfl (jH 1 ag2 (k:=?_))
 refine j_gt rfl rfl (jF 10 ru31 so2 (k:=?_))
 refine j_gt rfl rfl (jH 0 ag2 (k:=?_))
 refine j_gt rfl rfl (jQ (k:=?_))
 refine j_eqv (u:=.bool true) (congrArg Value.bool (by simp)) ?_
 refine jT (k:=jM (k:=?_))
 refine j_gt rfl rfl (jF 11 ru31 so2 (k:=?_))
 refine j_gt rfl rfl (jH 1 ag2 (k:=?_))
 refine j_gt rfl rfl (jF 11 ru31 so2 (k:=?_))
 refine j_gt rfl rfl (jH 0 ag2 (k:=?_))
 refine j_gt rfl rfl (jQ (k:=?_))
 refine j_eqv (u:=.bool true) (congrArg Value.bool (by simp)) ?_
 refine jT (k:=jM (k:=?_))
 refine j_gt rfl rfl (jF 12 ru31 so29 (k:=?_))
 refine j_gt rfl rfl (j_valw rfl (fun a w ha hH hf=>r_ldA (vs:=[_,_]) 1 rfl rfl ag29 so29 rfl rfl rfl ha hH) (j_gt rfl rfl (jF 12 ru31 so29 (k:=?_))))
 refine j_gt rfl rfl (j_valw rfl (fun a w ha hH hf=>r_ldA (vs:=[_,_]) 0 rfl rfl ag29 so29 rfl rfl rfl ha hH) (j_gt rfl rfl (j_val rfl (fun _ _ h=>r_eqlA (eqTy _ _) egTy rfl rfl h) (jT (k:=jA (k:=K2 (CJ.t [(4,_)] (k:=cj_ret ?_))))))))
 exact ej_ret1 Tryz.results11 rfl fun w' hH hf=>⟨rfl,hf⟩
theorem bare_c (w:World) (cs:List Value) (x:PProf) (hR:RProf w cs x):Calls Tryz.prog 12 #[.agg cs.toArray] w (Ret fun r w'=>(∃b,r=.bool b∧(b=true→x.comments=[]∧x.deflt=⟨#[]⟩))∧Fr 0 [] w w'):=by
 obtain ⟨a,s,m,l,f,cm,rfl,ha,hs,hm,hl,hf0,hcm, -⟩:=hR
 obtain ⟨pa,ca,rfl, -⟩:=ha.open
 obtain ⟨ps,c_s,rfl, -⟩:=hs.open
 obtain ⟨pm,c_m,rfl, -⟩:=hm.open
 obtain ⟨pl,cl,rfl, -⟩:=hl.open
 obtain ⟨pf,cf,rfl, -⟩:=hf0.open
 obtain ⟨pc,cc,rfl, -⟩:=hcm.open
 refine startJ (args:=[_]) [(0,.agg (List.toArray [_,_,_,_,_,_,_,_,_,_,_,_,_,_]))] 0 [] [] Tryz.func12 rfl Tryz.ntmps12 rfl rfl .nil ?_
 refine sQ fun K1=>cj_reg (j_boxA (vs:=[_,_,_,_,_,_,_,_,_,_,_,_,_,_]) rfl rfl fun b1=>jA (k:=K1 (sQ fun K2=>cj_reg (jF 6 ru31 so27 (k:=jH 0 ag27 (k:=jE ru27 (k:=jQ (k:=jM (k:=?_)))))))))
 refine j_split (t:=7) rfl (fun hg7=>?_) (fun hg7=>?_)
 ·refine j_gt rfl rfl (jF 1 ru31 so9 (k:=?_))
  refine j_gt rfl rfl (jH 0 ag9 (k:=?_))
  refine j_gt rfl rfl (j_val rfl (fun _ _ h=>r_seql rfl rfl h) (jT (k:=jA (k:=K2 (CJ.t [(2,_)] (k:=cj_ret ?_))))))
  first
  |exact ej_ret1 Tryz.results12 rfl fun w' hH hf=>⟨⟨_,rfl,fun h=>⟨by simp at hg7;exact hg7,by simpa using h⟩⟩,hf⟩
  |exact ej_ret1 Tryz.results12 rfl fun w' hH hf=>⟨⟨_,rfl,fun h=>by cases h⟩,hf⟩
 ·refine j_gf rfl rfl rfl rfl (j_gf rfl rfl rfl rfl (j_gf rfl rfl rfl rfl (jK (k:=jA (k:=K2 (cj_ret ?_))))))
  first
  |exact ej_ret1 Tryz.results12 rfl fun w' hH hf=>⟨⟨_,rfl,fun h=>⟨by simp at hg7;exact hg7,by simpa using h⟩⟩,hf⟩
  |exact ej_ret1 Tryz.results12 rfl fun w' hH hf=>⟨⟨_,rfl,fun h=>by cases h⟩,hf⟩
end Go.Proofs.YtifdadlhmlhfiaaGreatDoor
