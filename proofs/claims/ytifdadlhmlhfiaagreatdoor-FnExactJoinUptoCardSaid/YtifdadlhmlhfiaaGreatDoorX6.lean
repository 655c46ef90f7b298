/-
  Part 6 of the proof. Conditions: as each lemma states them.
-/
import Derived.Test.YtifdadlhmlhfiaaGreatDoorX5
import Derived.WideKeyArgs
import Derived.JoinedOf
import Derived.ChangeArms
import Derived.RowKit3
import Derived.Test.YtifdadlhmlhfiaaGreatDoorRows
namespace Go.Fw
open Go Go.Proofs.YtifdadlhmlhfiaaGreatDoor
variable {sz t:Nat}
section
variable {H:Type} {enc:TypeId×Value→H} {P:Program} {w:World}
def RD {α:Type} (enc:TypeId×Value→H) (P:Program) (w:World) (t:Nat) (R:World→List Value→α→Prop) (m:α→Nat):Prop:=
 ∀(fuel:Nat) (cs:List Value) (x:DataW H×List MemPlace),DataW.trod enc P w 0 (fun _=>true) true fuel t cs=some x→∃a,R w cs a∧m a≤Rows.uptoBulk x.1
theorem qdh {k:IntKind} {n:Int} (h:(Lit.int k n).wf=true):k.wrap n=n:=by
 cases k<;>simp[Lit.wf,IntKind.wrap,IntKind.min,IntKind.max,IntKind.signed,IntKind.bits]at h⊢ <;>omega
theorem zH (ht:P.underlying t=some .string):RD enc P w t xa (fun s=>s.size+1):=fun fuel cs x h=>by
 obtain ⟨s,rfl,rfl, -⟩:=DataW.trod_string ht h
 exact ⟨s,rfl,by simp only[Rows.uptoBulk];rw[Array.length_toList];exact Nat.le_refl _⟩
theorem yP {k:IntKind} (ht:P.underlying t=some (.int k)):RD enc P w t (vu k) (fun _=>0):=fun fuel cs x h=>by
 obtain ⟨n,rfl, -,hw⟩:=DataW.trod_int ht h
 exact ⟨n,⟨rfl,qdh hw⟩,Nat.zero_le _⟩
def XF (_:World) (c:List Value) (x:Bool):Prop:=c=[.bool x]
theorem YA (ht:P.underlying t=some .bool):RD enc P w t XF (fun _=>0):=fun fuel cs x h=>by
 obtain ⟨b,rfl, -⟩:=DataW.trod_bool ht h
 exact ⟨b,rfl,Nat.zero_le _⟩
def RSl {α:Type} (R:World→List Value→α→Prop) (sz:Nat) (w:World) (c:List Value) (xs:List α):Prop:=∃v,c=[v]∧Lay R sz w v xs
theorem qcF:∀{cs:List (List Value)},(∀c∈cs,c.length=sz)→∀(j:Nat) (u:Value),cs.flatten[j]? =some u→∃(i:Nat) (c:List Value) (r:Nat),cs[i]? =some c∧c[r]? =some u∧j=i*sz+r
 |[],_,j,u,h=>by simp at h
 |a::cs,hl,j,u,h=>by
    have ha:=hl a zp
    rw[List.flatten_cons]at h
    by_cases hj:j<a.length
    ·rw[aq hj]at h
     exact ⟨0,a,j,rfl,h,by simp⟩
    ·rw[List.getElem?_append_right ox]at h
     obtain ⟨i,c,r,h1,h2,h3⟩:=qcF (fun c hc=>hl c (by simp[hc])) _ u h
     exact ⟨i+1,c,r,by simpa using h1,h2,by rw[Nat.succ_mul];omega⟩
theorem XW {a:Addr} {n:Nat} {c:List Value} (h:w.cells? 0 a n=some c):c.length=n∧∀(r:Nat) u,c[r]? =some u→w.cell? (a.add r)=some u:=by
 unfold World.cells? at h
 rw[if_pos (Nat.zero_le _)]at h
 have hl:c.length=n:=by simpa using mapM_some_length h
 refine ⟨hl,fun r u hu=>?_⟩
 have hr:=(List.getElem?_eq_some_iff.1 hu).1
 have:=mapM_some_get h r r (by rw[List.getElem?_range ox])
 rw[this];exact hu
theorem qgu {α:Type} {m:α→Nat}:∀{ys:List α} {es:List (DataW H×List MemPlace)},ys.length≤es.length→(∀(i:Nat) y e,ys[i]? =some y→es[i]? =some e→m y≤Rows.uptoBulk e.1)→(ys.map m).sum≤Rows.uptoBulkAll (es.map (·.1))
 |[],_,_,_=>Nat.zero_le _
 |_::_,[],h,_=>by simp at h
 |y::ys,e::es,h,hp=>by
    have h1:=qgu (m:=m) (ys:=ys) (es:=es) (by simpa using h) fun i y' e' hy he=>hp (i+1) y' e' (by simpa using hy) (by simpa using he)
    have h2:=hp 0 y e rfl rfl
    simp only[List.map_cons,List.sum_cons,Rows.uptoBulkAll]
    omega
theorem xY {α:Type} {m:α→Nat} {R:World→List Value→α→Prop} {e:Nat} (ht:P.underlying t=some (.slice e)) (hc:P.cellsOf e=sz) (hp:0<sz) (he:RD enc P w e R m):RD enc P w t (RSl R sz) (fun xs=>(xs.map m).sum):=fun fuel cs x h=>by
 rcases DataW.trod_slice ht h with ⟨rfl, -⟩|⟨a,len,cap,elems,rest,n, -,rfl,rfl, -,hlc,hcm,hel,hget, -, -⟩
 ·exact ⟨[],⟨_,rfl,[],⟨⟨none,0,rfl,Nat.le_refl _,.inl rfl⟩,by simp,Nat.zero_le _⟩,rfl,by simp,by simp⟩,Nat.zero_le _⟩
 ·have key:∀i:Fin len,∃(c:List Value) (y:α),w.cells? 0 (a.add (i.1*sz)) sz=some c∧R w c y∧∀e,elems[i.1]? =some e→m y≤Rows.uptoBulk e.1:=fun i=>by
   have h1:=hget i.1 i.2
   rw[hc,gE ox]at h1
   obtain ⟨c,h2,h3⟩:=Option.bind_eq_some_iff.1 h1
   obtain ⟨y,hy⟩:=he _ _ _ h3
   exact ⟨c,y,h2,hy.1,fun e he=>by
    rw[gE ox]at he
    cases he;exact hy.2⟩
  let fc:Fin len→List Value:=fun i=>Classical.choose (key i)
  let fy:Fin len→α:=fun i=>Classical.choose (Classical.choose_spec (key i))
  have hk:∀i:Fin len,w.cells? 0 (a.add (i.1*sz)) sz=some (fc i)∧R w (fc i) (fy i)∧∀e,elems[i.1]? =some e→m (fy i)≤Rows.uptoBulk e.1:=fun i=>Classical.choose_spec (Classical.choose_spec (key i))
  have hlen:∀c∈List.ofFn fc,c.length=sz:=fun c hcm=>by
   obtain ⟨i,hi⟩:=List.mem_iff_getElem?.1 hcm
   have hlt:=(List.getElem?_eq_some_iff.1 hi).1
   simp at hlt
   rw[List.getElem?_ofFn,dif_pos hlt]at hi
   cases hi
   exact (XW (hk ⟨i,hlt⟩).1).1
  refine ⟨List.ofFn fy,⟨_,rfl,List.ofFn fc,⟨⟨some a,cap,by simp,by simpa using hlc,?_⟩,?_,?_⟩,by simp,hlen,?_⟩,?_⟩
  rotate_left 4
  ·have h1:=qgu (m:=m) (ys:=List.ofFn fy) (es:=elems) (by simp;omega) fun i y e hy he=>by
    have hlt:=(List.getElem?_eq_some_iff.1 hy).1
    simp at hlt
    rw[List.getElem?_ofFn,dif_pos hlt]at hy
    cases hy
    exact (hk ⟨i,hlt⟩).2.2 e he
   simp only[Rows.uptoBulk]
   omega
  ·by_cases h0:len=0
   ·exact .inl (by simpa using h0)
   ·right
    have hs:a.spot=none:=by
     have h1:=(XW (hk ⟨0,by omega⟩).1)
     have h2:0<(fc ⟨0,by omega⟩).length:=by rw[h1.1];exact hp
     have h3:=h1.2 0 _ (gE h2)
     have h4:=World.cell?_spot h3
     simpa[Addr.add]using h4
    obtain ⟨b,off,spot⟩:=a
    simp at hs
    subst hs
    refine ⟨b,off,rfl,fun j u hj=>?_⟩
    obtain ⟨i,c,r,h1,h2,rfl⟩:=qcF hlen j u hj
    have hlt:=(List.getElem?_eq_some_iff.1 h1).1
    simp at hlt
    rw[List.getElem?_ofFn,dif_pos hlt]at h1
    cases h1
    have h3:=(XW (hk ⟨i,hlt⟩).1).2 r u h2
    have h4:(Addr.add ⟨b,off,none⟩ (i*sz)).add r=⟨b,off+(i*sz+r),none⟩:=by
     unfold Addr.add
     by_cases q1:i*sz=0<;>by_cases q2:r=0<;>simp[q1,q2,Nat.add_assoc]
    rw[h4]at h3
    exact h3
  ·have:∀{l:List (List Value)},(∀c∈l,c.length=sz)→l.flatten.length=l.length*sz:=by
    intro l
    induction l with
    |nil=>intro _;simp
    |cons a r ih=>intro h;rw[List.flatten_cons,lA,h a zp,ih (fun c hc=>h c (by simp[hc])),List.length_cons,Nat.succ_mul];omega
   rw[this hlen];simp
  ·have:(List.ofFn fy).length=len:=by simp
   rw[this]
   have:maxLen=9223372036854775807:=by decide
   omega
  ·intro i c y h1 h2
   have hlt:=(List.getElem?_eq_some_iff.1 h1).1
   simp at hlt
   rw[List.getElem?_ofFn,dif_pos hlt]at h1 h2
   cases h1;cases h2
   exact (hk ⟨i,hlt⟩).2.1
end
end Go.Fw
namespace Go.Proofs.YtifdadlhmlhfiaaGreatDoor
open Go Go.Fw Go.Proofs
variable {f:Fm} {es:List MapEntry} {T c ck l:Nat} {p:Option Addr} {mo:Option Nat} {s:ku} {v:Value} {w w':World}
section
variable {H:Type} {enc:TypeId×Value→H} {w:World}
theorem xQ:Tryz.prog.cellsOf 9=1:=by kernel_rfl
theorem Zv:Tryz.prog.cellsOf 3=1:=by kernel_rfl
theorem Kh:Tryz.prog.cellsOf 2=1:=by kernel_rfl
theorem Jg:Tryz.prog.cellsOf 71=1:=by kernel_rfl
theorem Xw:Tryz.prog.cellsOf 4=1:=by kernel_rfl
theorem XX:Tryz.prog.cellsOf 29=2:=by kernel_rfl
theorem Zy:Tryz.prog.cellsOf 109=2:=by kernel_rfl
theorem Zx:Tryz.prog.cellsOf 112=2:=by kernel_rfl
theorem qaD:Tryz.prog.cellsOf 57=4:=by kernel_rfl
theorem qaC:Tryz.prog.cellsOf 73=10:=by kernel_rfl
theorem Zw:Tryz.prog.cellsOf 114=2:=by kernel_rfl
theorem qaB:Tryz.prog.cellsOf 77=4:=by kernel_rfl
theorem qaA:Tryz.prog.cellsOf 80=5:=by kernel_rfl
theorem qfV:Tryz.prog.cellsOf 31=14:=by kernel_rfl
theorem qaF:Tryz.prog.cellsOf 27=1:=by kernel_rfl
theorem qaE:Tryz.prog.cellsOf 53=1:=by kernel_rfl
theorem qfU:Tryz.prog.cellsOf 32=1:=by kernel_rfl
theorem qga:Tryz.prog.cellsOf 22=1:=by kernel_rfl
theorem qfZ:Tryz.prog.cellsOf 23=1:=by kernel_rfl
theorem qfY:Tryz.prog.cellsOf 24=1:=by kernel_rfl
theorem qfX:Tryz.prog.cellsOf 25=1:=by kernel_rfl
theorem qfW:Tryz.prog.cellsOf 26=1:=by kernel_rfl
theorem qfT:Tryz.prog.cellsOf 54=1:=by kernel_rfl
theorem qfS:Tryz.prog.cellsOf 55=1:=by kernel_rfl
theorem qfR:Tryz.prog.cellsOf 75=1:=by kernel_rfl
def mS (s:ByteArray):Nat:=s.size+1
def mTy (t:xn):Nat:=(t.ty.size+1)+(t.unit.size+1)
def mTx (t:xB):Nat:=(t.key.size+1)+(t.list.map fun s=>s.size+1).sum
def mNu (t:zf):Nat:=t.key.size+1
def mSm (s:ku):Nat:=(s.texts.map mTx).sum+(s.nums.map mNu).sum
def mMp (m:qK):Nat:=(m.file.size+1)+(m.build.size+1)
def mLn (_:vz):Nat:=0
def mLc (_:vP):Nat:=0
def mFn (f:yl):Nat:=(f.name.size+1)+((f.system.size+1)+(f.file.size+1))
def mPf (x:jD):Nat:=(x.types.map mTy).sum+((x.samples.map mSm).sum+((x.mappings.map mMp).sum+((x.funcs.map mFn).sum+((x.drop.size+1)+((x.keep.size+1)+(mTy x.per+((x.deflt.size+1)+(x.comments.map fun s=>s.size+1).sum)))))))
theorem qeh:RD enc Tryz.prog w 29 xz mTy:=fun fuel cs x h=>by
 obtain ⟨xs,n, -,rfl,hlen,hxl,hf⟩:=DataW.trod_struct qgo h
 rw[XX]at hlen
 replace hxl:xs.length=2:=hxl
 obtain ⟨y0,y1,rfl⟩:∃y0 y1,xs=[y0,y1]:=by
  clear hf h
  rcases xs with _|⟨y0,xs⟩
  ·simp at hxl
  rcases xs with _|⟨y1,xs⟩
  ·simp at hxl
  rcases xs with _|⟨y,xs⟩
  ·exact ⟨_,_,rfl⟩
  ·simp at hxl
 have t0:=hf 0 _ rfl
 obtain ⟨a0,r0,q0⟩:=(zH ud9) _ _ y0 t0
 have g0:xa w ((cs.drop 0).take (Tryz.prog.cellsOf 9)) a0:=r0
 rw[xQ]at g0
 clear t0 r0
 have t1:=hf 1 _ rfl
 obtain ⟨a1,r1,q1⟩:=(zH ud9) _ _ y1 t1
 have g1:xa w ((cs.drop 1).take (Tryz.prog.cellsOf 9)) a1:=r1
 rw[xQ]at g1
 clear t1 r1
 clear hf
 have hq:Rows.uptoBulk y0.1+(Rows.uptoBulk y1.1+0)+1≤Rows.uptoBulk (.agg ([y0,y1].map (·.1))):=by simp only[Rows.uptoBulk,Rows.uptoBulkAll,List.map_cons,List.map_nil];omega
 obtain ⟨c0,c1,rfl⟩:∃c0 c1,cs=[c0,c1]:=by
  clear h g0 g1
  rcases cs with _|⟨c0,cs⟩
  ·simp at hlen
  rcases cs with _|⟨c1,cs⟩
  ·simp at hlen
  rcases cs with _|⟨c,cs⟩
  ·exact ⟨_,_,rfl⟩
  ·simp at hlen
 have h0:xa w [c0] a0:=g0
 have h1:xa w [c1] a1:=g1
 have e0:=h0
 obtain rfl:=(List.cons.inj e0).1
 have e1:=h1
 obtain rfl:=(List.cons.inj e1).1
 have p0:a0.size+1≤Rows.uptoBulk y0.1:=q0
 have p1:a1.size+1≤Rows.uptoBulk y1.1:=q1
 refine ⟨⟨a0,a1⟩,rfl,?_⟩
 refine Nat.le_trans ?_ hq
 simp only[mTy];omega
theorem qgI:RD enc Tryz.prog w 109 xA mTx:=fun fuel cs x h=>by
 obtain ⟨xs,n, -,rfl,hlen,hxl,hf⟩:=DataW.trod_struct ud109 h
 rw[Zy]at hlen
 replace hxl:xs.length=2:=hxl
 obtain ⟨y0,y1,rfl⟩:∃y0 y1,xs=[y0,y1]:=by
  clear hf h
  rcases xs with _|⟨y0,xs⟩
  ·simp at hxl
  rcases xs with _|⟨y1,xs⟩
  ·simp at hxl
  rcases xs with _|⟨y,xs⟩
  ·exact ⟨_,_,rfl⟩
  ·simp at hxl
 have t0:=hf 0 _ rfl
 obtain ⟨a0,r0,q0⟩:=(zH ud9) _ _ y0 t0
 have g0:xa w ((cs.drop 0).take (Tryz.prog.cellsOf 9)) a0:=r0
 rw[xQ]at g0
 clear t0 r0
 have t1:=hf 1 _ rfl
 obtain ⟨a1,r1,q1⟩:=(xY ud27 xQ dq (zH ud9)) _ _ y1 t1
 have g1:(RSl xa 1) w ((cs.drop 1).take (Tryz.prog.cellsOf 27)) a1:=r1
 rw[qaF]at g1
 clear t1 r1
 clear hf
 have hq:Rows.uptoBulk y0.1+(Rows.uptoBulk y1.1+0)+1≤Rows.uptoBulk (.agg ([y0,y1].map (·.1))):=by simp only[Rows.uptoBulk,Rows.uptoBulkAll,List.map_cons,List.map_nil];omega
 obtain ⟨c0,c1,rfl⟩:∃c0 c1,cs=[c0,c1]:=by
  clear h g0 g1
  rcases cs with _|⟨c0,cs⟩
  ·simp at hlen
  rcases cs with _|⟨c1,cs⟩
  ·simp at hlen
  rcases cs with _|⟨c,cs⟩
  ·exact ⟨_,_,rfl⟩
  ·simp at hlen
 have h0:xa w [c0] a0:=g0
 have h1:(RSl xa 1) w [c1] a1:=g1
 have e0:=h0
 obtain rfl:=(List.cons.inj e0).1
 obtain ⟨v1,e1,h1⟩:=h1
 obtain rfl:=(List.cons.inj e1).1
 have p0:a0.size+1≤Rows.uptoBulk y0.1:=q0
 have p1:(a1.map (fun s:ByteArray=>s.size+1)).sum≤Rows.uptoBulk y1.1:=q1
 refine ⟨⟨a0,a1⟩,⟨_,rfl,h1⟩,?_⟩
 refine Nat.le_trans ?_ hq
 simp only[mTx];omega
theorem qdu:RD enc Tryz.prog w 112 yW mNu:=fun fuel cs x h=>by
 obtain ⟨xs,n, -,rfl,hlen,hxl,hf⟩:=DataW.trod_struct ud112 h
 rw[Zx]at hlen
 replace hxl:xs.length=2:=hxl
 obtain ⟨y0,y1,rfl⟩:∃y0 y1,xs=[y0,y1]:=by
  clear hf h
  rcases xs with _|⟨y0,xs⟩
  ·simp at hxl
  rcases xs with _|⟨y1,xs⟩
  ·simp at hxl
  rcases xs with _|⟨y,xs⟩
  ·exact ⟨_,_,rfl⟩
  ·simp at hxl
 have t0:=hf 0 _ rfl
 obtain ⟨a0,r0,q0⟩:=(zH ud9) _ _ y0 t0
 have g0:xa w ((cs.drop 0).take (Tryz.prog.cellsOf 9)) a0:=r0
 rw[xQ]at g0
 clear t0 r0
 have t1:=hf 1 _ rfl
 obtain ⟨a1,r1,q1⟩:=(xY ud53 Kh dq (yP ud2)) _ _ y1 t1
 have g1:(RSl (vu .i64) 1) w ((cs.drop 1).take (Tryz.prog.cellsOf 53)) a1:=r1
 rw[qaE]at g1
 clear t1 r1
 clear hf
 have hq:Rows.uptoBulk y0.1+(Rows.uptoBulk y1.1+0)+1≤Rows.uptoBulk (.agg ([y0,y1].map (·.1))):=by simp only[Rows.uptoBulk,Rows.uptoBulkAll,List.map_cons,List.map_nil];omega
 obtain ⟨c0,c1,rfl⟩:∃c0 c1,cs=[c0,c1]:=by
  clear h g0 g1
  rcases cs with _|⟨c0,cs⟩
  ·simp at hlen
  rcases cs with _|⟨c1,cs⟩
  ·simp at hlen
  rcases cs with _|⟨c,cs⟩
  ·exact ⟨_,_,rfl⟩
  ·simp at hlen
 have h0:xa w [c0] a0:=g0
 have h1:(RSl (vu .i64) 1) w [c1] a1:=g1
 have e0:=h0
 obtain rfl:=(List.cons.inj e0).1
 obtain ⟨v1,e1,h1⟩:=h1
 obtain rfl:=(List.cons.inj e1).1
 have p0:a0.size+1≤Rows.uptoBulk y0.1:=q0
 have p1:(a1.map (fun _:Int=>0)).sum≤Rows.uptoBulk y1.1:=q1
 refine ⟨⟨a0,a1⟩,⟨_,rfl,h1⟩,?_⟩
 refine Nat.le_trans ?_ hq
 simp only[mNu];omega
theorem qfh:RD enc Tryz.prog w 57 vE mSm:=fun fuel cs x h=>by
 obtain ⟨xs,n, -,rfl,hlen,hxl,hf⟩:=DataW.trod_struct ud57 h
 rw[qaD]at hlen
 replace hxl:xs.length=4:=hxl
 obtain ⟨y0,y1,y2,y3,rfl⟩:∃y0 y1 y2 y3,xs=[y0,y1,y2,y3]:=by
  clear hf h
  rcases xs with _|⟨y0,xs⟩
  ·simp at hxl
  rcases xs with _|⟨y1,xs⟩
  ·simp at hxl
  rcases xs with _|⟨y2,xs⟩
  ·simp at hxl
  rcases xs with _|⟨y3,xs⟩
  ·simp at hxl
  rcases xs with _|⟨y,xs⟩
  ·exact ⟨_,_,_,_,rfl⟩
  ·simp at hxl
 have t0:=hf 0 _ rfl
 obtain ⟨a0,r0,q0⟩:=(xY ud32 Zv dq (yP ud3)) _ _ y0 t0
 have g0:(RSl (vu .i64) 1) w ((cs.drop 0).take (Tryz.prog.cellsOf 32)) a0:=r0
 rw[qfU]at g0
 clear t0 r0
 have t1:=hf 1 _ rfl
 obtain ⟨a1,r1,q1⟩:=(xY ud53 Kh dq (yP ud2)) _ _ y1 t1
 have g1:(RSl (vu .i64) 1) w ((cs.drop 1).take (Tryz.prog.cellsOf 53)) a1:=r1
 rw[qaE]at g1
 clear t1 r1
 have t2:=hf 2 _ rfl
 obtain ⟨a2,r2,q2⟩:=(xY ud54 Zy dq qgI) _ _ y2 t2
 have g2:(RSl xA 2) w ((cs.drop 2).take (Tryz.prog.cellsOf 54)) a2:=r2
 rw[qfT]at g2
 clear t2 r2
 have t3:=hf 3 _ rfl
 obtain ⟨a3,r3,q3⟩:=(xY ud55 Zx dq qdu) _ _ y3 t3
 have g3:(RSl yW 2) w ((cs.drop 3).take (Tryz.prog.cellsOf 55)) a3:=r3
 rw[qfS]at g3
 clear t3 r3
 clear hf
 have hq:Rows.uptoBulk y0.1+(Rows.uptoBulk y1.1+(Rows.uptoBulk y2.1+(Rows.uptoBulk y3.1+0)))+1≤Rows.uptoBulk (.agg ([y0,y1,y2,y3].map (·.1))):=by simp only[Rows.uptoBulk,Rows.uptoBulkAll,List.map_cons,List.map_nil];omega
 obtain ⟨c0,c1,c2,c3,rfl⟩:∃c0 c1 c2 c3,cs=[c0,c1,c2,c3]:=by
  clear h g0 g1 g2 g3
  rcases cs with _|⟨c0,cs⟩
  ·simp at hlen
  rcases cs with _|⟨c1,cs⟩
  ·simp at hlen
  rcases cs with _|⟨c2,cs⟩
  ·simp at hlen
  rcases cs with _|⟨c3,cs⟩
  ·simp at hlen
  rcases cs with _|⟨c,cs⟩
  ·exact ⟨_,_,_,_,rfl⟩
  ·simp at hlen
 have h0:(RSl (vu .i64) 1) w [c0] a0:=g0
 have h1:(RSl (vu .i64) 1) w [c1] a1:=g1
 have h2:(RSl xA 2) w [c2] a2:=g2
 have h3:(RSl yW 2) w [c3] a3:=g3
 obtain ⟨v0,e0,h0⟩:=h0
 obtain rfl:=(List.cons.inj e0).1
 obtain ⟨v1,e1,h1⟩:=h1
 obtain rfl:=(List.cons.inj e1).1
 obtain ⟨v2,e2,h2⟩:=h2
 obtain rfl:=(List.cons.inj e2).1
 obtain ⟨v3,e3,h3⟩:=h3
 obtain rfl:=(List.cons.inj e3).1
 have p0:(a0.map (fun _:Int=>0)).sum≤Rows.uptoBulk y0.1:=q0
 have p1:(a1.map (fun _:Int=>0)).sum≤Rows.uptoBulk y1.1:=q1
 have p2:(a2.map mTx).sum≤Rows.uptoBulk y2.1:=q2
 have p3:(a3.map mNu).sum≤Rows.uptoBulk y3.1:=q3
 refine ⟨⟨a0,a1,a2,a3⟩,⟨_,_,_,_,rfl,h0,h1,h2,h3⟩,?_⟩
 refine Nat.le_trans ?_ hq
 simp only[mSm];omega
theorem qdv:RD enc Tryz.prog w 73 xm mMp:=fun fuel cs x h=>by
 obtain ⟨xs,n, -,rfl,hlen,hxl,hf⟩:=DataW.trod_struct qkI h
 rw[qaC]at hlen
 replace hxl:xs.length=10:=hxl
 obtain ⟨y0,y1,y2,y3,y4,y5,y6,y7,y8,y9,rfl⟩:∃y0 y1 y2 y3 y4 y5 y6 y7 y8 y9,xs=[y0,y1,y2,y3,y4,y5,y6,y7,y8,y9]:=by
  clear hf h
  rcases xs with _|⟨y0,xs⟩
  ·simp at hxl
  rcases xs with _|⟨y1,xs⟩
  ·simp at hxl
  rcases xs with _|⟨y2,xs⟩
  ·simp at hxl
  rcases xs with _|⟨y3,xs⟩
  ·simp at hxl
  rcases xs with _|⟨y4,xs⟩
  ·simp at hxl
  rcases xs with _|⟨y5,xs⟩
  ·simp at hxl
  rcases xs with _|⟨y6,xs⟩
  ·simp at hxl
  rcases xs with _|⟨y7,xs⟩
  ·simp at hxl
  rcases xs with _|⟨y8,xs⟩
  ·simp at hxl
  rcases xs with _|⟨y9,xs⟩
  ·simp at hxl
  rcases xs with _|⟨y,xs⟩
  ·exact ⟨_,_,_,_,_,_,_,_,_,_,rfl⟩
  ·simp at hxl
 have t0:=hf 0 _ rfl
 obtain ⟨a0,r0,q0⟩:=(yP qaP) _ _ y0 t0
 have g0:(vu .u64) w ((cs.drop 0).take (Tryz.prog.cellsOf 71)) a0:=r0
 rw[Jg]at g0
 clear t0 r0
 have t1:=hf 1 _ rfl
 obtain ⟨a1,r1,q1⟩:=(yP qaP) _ _ y1 t1
 have g1:(vu .u64) w ((cs.drop 1).take (Tryz.prog.cellsOf 71)) a1:=r1
 rw[Jg]at g1
 clear t1 r1
 have t2:=hf 2 _ rfl
 obtain ⟨a2,r2,q2⟩:=(yP qaP) _ _ y2 t2
 have g2:(vu .u64) w ((cs.drop 2).take (Tryz.prog.cellsOf 71)) a2:=r2
 rw[Jg]at g2
 clear t2 r2
 have t3:=hf 3 _ rfl
 obtain ⟨a3,r3,q3⟩:=(yP qaP) _ _ y3 t3
 have g3:(vu .u64) w ((cs.drop 3).take (Tryz.prog.cellsOf 71)) a3:=r3
 rw[Jg]at g3
 clear t3 r3
 have t4:=hf 4 _ rfl
 obtain ⟨a4,r4,q4⟩:=(zH ud9) _ _ y4 t4
 have g4:xa w ((cs.drop 4).take (Tryz.prog.cellsOf 9)) a4:=r4
 rw[xQ]at g4
 clear t4 r4
 have t5:=hf 5 _ rfl
 obtain ⟨a5,r5,q5⟩:=(zH ud9) _ _ y5 t5
 have g5:xa w ((cs.drop 5).take (Tryz.prog.cellsOf 9)) a5:=r5
 rw[xQ]at g5
 clear t5 r5
 have t6:=hf 6 _ rfl
 obtain ⟨a6,r6,q6⟩:=(YA ud4) _ _ y6 t6
 have g6:XF w ((cs.drop 6).take (Tryz.prog.cellsOf 4)) a6:=r6
 rw[Xw]at g6
 clear t6 r6
 have t7:=hf 7 _ rfl
 obtain ⟨a7,r7,q7⟩:=(YA ud4) _ _ y7 t7
 have g7:XF w ((cs.drop 7).take (Tryz.prog.cellsOf 4)) a7:=r7
 rw[Xw]at g7
 clear t7 r7
 have t8:=hf 8 _ rfl
 obtain ⟨a8,r8,q8⟩:=(YA ud4) _ _ y8 t8
 have g8:XF w ((cs.drop 8).take (Tryz.prog.cellsOf 4)) a8:=r8
 rw[Xw]at g8
 clear t8 r8
 have t9:=hf 9 _ rfl
 obtain ⟨a9,r9,q9⟩:=(YA ud4) _ _ y9 t9
 have g9:XF w ((cs.drop 9).take (Tryz.prog.cellsOf 4)) a9:=r9
 rw[Xw]at g9
 clear t9 r9
 clear hf
 have hq:Rows.uptoBulk y0.1+(Rows.uptoBulk y1.1+(Rows.uptoBulk y2.1+(Rows.uptoBulk y3.1+(Rows.uptoBulk y4.1+(Rows.uptoBulk y5.1+(Rows.uptoBulk y6.1+(Rows.uptoBulk y7.1+(Rows.uptoBulk y8.1+(Rows.uptoBulk y9.1+0)))))))))+1≤Rows.uptoBulk (.agg ([y0,y1,y2,y3,y4,y5,y6,y7,y8,y9].map (·.1))):=by simp only[Rows.uptoBulk,Rows.uptoBulkAll,List.map_cons,List.map_nil];omega
 obtain ⟨c0,c1,c2,c3,c4,c5,c6,c7,c8,c9,rfl⟩:∃c0 c1 c2 c3 c4 c5 c6 c7 c8 c9,cs=[c0,c1,c2,c3,c4,c5,c6,c7,c8,c9]:=by
  clear h g0 g1 g2 g3 g4 g5 g6 g7 g8 g9
  rcases cs with _|⟨c0,cs⟩
  ·simp at hlen
  rcases cs with _|⟨c1,cs⟩
  ·simp at hlen
  rcases cs with _|⟨c2,cs⟩
  ·simp at hlen
  rcases cs with _|⟨c3,cs⟩
  ·simp at hlen
  rcases cs with _|⟨c4,cs⟩
  ·simp at hlen
  rcases cs with _|⟨c5,cs⟩
  ·simp at hlen
  rcases cs with _|⟨c6,cs⟩
  ·simp at hlen
  rcases cs with _|⟨c7,cs⟩
  ·simp at hlen
  rcases cs with _|⟨c8,cs⟩
  ·simp at hlen
  rcases cs with _|⟨c9,cs⟩
  ·simp at hlen
  rcases cs with _|⟨c,cs⟩
  ·exact ⟨_,_,_,_,_,_,_,_,_,_,rfl⟩
  ·simp at hlen
 have h0:(vu .u64) w [c0] a0:=g0
 have h1:(vu .u64) w [c1] a1:=g1
 have h2:(vu .u64) w [c2] a2:=g2
 have h3:(vu .u64) w [c3] a3:=g3
 have h4:xa w [c4] a4:=g4
 have h5:xa w [c5] a5:=g5
 have h6:XF w [c6] a6:=g6
 have h7:XF w [c7] a7:=g7
 have h8:XF w [c8] a8:=g8
 have h9:XF w [c9] a9:=g9
 obtain ⟨e0,h0⟩:=h0
 obtain rfl:=(List.cons.inj e0).1
 obtain ⟨e1,h1⟩:=h1
 obtain rfl:=(List.cons.inj e1).1
 obtain ⟨e2,h2⟩:=h2
 obtain rfl:=(List.cons.inj e2).1
 obtain ⟨e3,h3⟩:=h3
 obtain rfl:=(List.cons.inj e3).1
 have e4:=h4
 obtain rfl:=(List.cons.inj e4).1
 have e5:=h5
 obtain rfl:=(List.cons.inj e5).1
 have e6:=h6
 obtain rfl:=(List.cons.inj e6).1
 have e7:=h7
 obtain rfl:=(List.cons.inj e7).1
 have e8:=h8
 obtain rfl:=(List.cons.inj e8).1
 have e9:=h9
 obtain rfl:=(List.cons.inj e9).1
 have p0:0≤Rows.uptoBulk y0.1:=q0
 have p1:0≤Rows.uptoBulk y1.1:=q1
 have p2:0≤Rows.uptoBulk y2.1:=q2
 have p3:0≤Rows.uptoBulk y3.1:=q3
 have p4:a4.size+1≤Rows.uptoBulk y4.1:=q4
 have p5:a5.size+1≤Rows.uptoBulk y5.1:=q5
 have p6:0≤Rows.uptoBulk y6.1:=q6
 have p7:0≤Rows.uptoBulk y7.1:=q7
 have p8:0≤Rows.uptoBulk y8.1:=q8
 have p9:0≤Rows.uptoBulk y9.1:=q9
 refine ⟨⟨a0,a1,a2,a3,a4,a5,a6,a7,a8,a9⟩,⟨rfl,h0,h1,h2,h3⟩,?_⟩
 refine Nat.le_trans ?_ hq
 simp only[mMp];omega
theorem qiG:RD enc Tryz.prog w 114 JD mLn:=fun fuel cs x h=>by
 obtain ⟨xs,n, -,rfl,hlen,hxl,hf⟩:=DataW.trod_struct qgp h
 rw[Zw]at hlen
 replace hxl:xs.length=2:=hxl
 obtain ⟨y0,y1,rfl⟩:∃y0 y1,xs=[y0,y1]:=by
  clear hf h
  rcases xs with _|⟨y0,xs⟩
  ·simp at hxl
  rcases xs with _|⟨y1,xs⟩
  ·simp at hxl
  rcases xs with _|⟨y,xs⟩
  ·exact ⟨_,_,rfl⟩
  ·simp at hxl
 have t0:=hf 0 _ rfl
 obtain ⟨a0,r0,q0⟩:=(yP ud3) _ _ y0 t0
 have g0:(vu .i64) w ((cs.drop 0).take (Tryz.prog.cellsOf 3)) a0:=r0
 rw[Zv]at g0
 clear t0 r0
 have t1:=hf 1 _ rfl
 obtain ⟨a1,r1,q1⟩:=(yP ud2) _ _ y1 t1
 have g1:(vu .i64) w ((cs.drop 1).take (Tryz.prog.cellsOf 2)) a1:=r1
 rw[Kh]at g1
 clear t1 r1
 clear hf
 have hq:Rows.uptoBulk y0.1+(Rows.uptoBulk y1.1+0)+1≤Rows.uptoBulk (.agg ([y0,y1].map (·.1))):=by simp only[Rows.uptoBulk,Rows.uptoBulkAll,List.map_cons,List.map_nil];omega
 obtain ⟨c0,c1,rfl⟩:∃c0 c1,cs=[c0,c1]:=by
  clear h g0 g1
  rcases cs with _|⟨c0,cs⟩
  ·simp at hlen
  rcases cs with _|⟨c1,cs⟩
  ·simp at hlen
  rcases cs with _|⟨c,cs⟩
  ·exact ⟨_,_,rfl⟩
  ·simp at hlen
 have h0:(vu .i64) w [c0] a0:=g0
 have h1:(vu .i64) w [c1] a1:=g1
 obtain ⟨e0,h0⟩:=h0
 obtain rfl:=(List.cons.inj e0).1
 obtain ⟨e1,h1⟩:=h1
 obtain rfl:=(List.cons.inj e1).1
 have p0:0≤Rows.uptoBulk y0.1:=q0
 have p1:0≤Rows.uptoBulk y1.1:=q1
 refine ⟨⟨a0,a1⟩,⟨rfl,h0,h1⟩,?_⟩
 refine Nat.le_trans ?_ hq
 simp only[mLn];omega
theorem qcb:RD enc Tryz.prog w 77 Qa mLc:=fun fuel cs x h=>by
 obtain ⟨xs,n, -,rfl,hlen,hxl,hf⟩:=DataW.trod_struct ud77 h
 rw[qaB]at hlen
 replace hxl:xs.length=4:=hxl
 obtain ⟨y0,y1,y2,y3,rfl⟩:∃y0 y1 y2 y3,xs=[y0,y1,y2,y3]:=by
  clear hf h
  rcases xs with _|⟨y0,xs⟩
  ·simp at hxl
  rcases xs with _|⟨y1,xs⟩
  ·simp at hxl
  rcases xs with _|⟨y2,xs⟩
  ·simp at hxl
  rcases xs with _|⟨y3,xs⟩
  ·simp at hxl
  rcases xs with _|⟨y,xs⟩
  ·exact ⟨_,_,_,_,rfl⟩
  ·simp at hxl
 have t0:=hf 0 _ rfl
 obtain ⟨a0,r0,q0⟩:=(yP qaP) _ _ y0 t0
 have g0:(vu .u64) w ((cs.drop 0).take (Tryz.prog.cellsOf 71)) a0:=r0
 rw[Jg]at g0
 clear t0 r0
 have t1:=hf 1 _ rfl
 obtain ⟨a1,r1,q1⟩:=(yP ud3) _ _ y1 t1
 have g1:(vu .i64) w ((cs.drop 1).take (Tryz.prog.cellsOf 3)) a1:=r1
 rw[Zv]at g1
 clear t1 r1
 have t2:=hf 2 _ rfl
 obtain ⟨a2,r2,q2⟩:=(yP qaP) _ _ y2 t2
 have g2:(vu .u64) w ((cs.drop 2).take (Tryz.prog.cellsOf 71)) a2:=r2
 rw[Jg]at g2
 clear t2 r2
 have t3:=hf 3 _ rfl
 obtain ⟨a3,r3,q3⟩:=(xY ud75 Zw dq qiG) _ _ y3 t3
 have g3:(RSl JD 2) w ((cs.drop 3).take (Tryz.prog.cellsOf 75)) a3:=r3
 rw[qfR]at g3
 clear t3 r3
 clear hf
 have hq:Rows.uptoBulk y0.1+(Rows.uptoBulk y1.1+(Rows.uptoBulk y2.1+(Rows.uptoBulk y3.1+0)))+1≤Rows.uptoBulk (.agg ([y0,y1,y2,y3].map (·.1))):=by simp only[Rows.uptoBulk,Rows.uptoBulkAll,List.map_cons,List.map_nil];omega
 obtain ⟨c0,c1,c2,c3,rfl⟩:∃c0 c1 c2 c3,cs=[c0,c1,c2,c3]:=by
  clear h g0 g1 g2 g3
  rcases cs with _|⟨c0,cs⟩
  ·simp at hlen
  rcases cs with _|⟨c1,cs⟩
  ·simp at hlen
  rcases cs with _|⟨c2,cs⟩
  ·simp at hlen
  rcases cs with _|⟨c3,cs⟩
  ·simp at hlen
  rcases cs with _|⟨c,cs⟩
  ·exact ⟨_,_,_,_,rfl⟩
  ·simp at hlen
 have h0:(vu .u64) w [c0] a0:=g0
 have h1:(vu .i64) w [c1] a1:=g1
 have h2:(vu .u64) w [c2] a2:=g2
 have h3:(RSl JD 2) w [c3] a3:=g3
 obtain ⟨e0,h0⟩:=h0
 obtain rfl:=(List.cons.inj e0).1
 obtain ⟨e1,h1⟩:=h1
 obtain rfl:=(List.cons.inj e1).1
 obtain ⟨e2,h2⟩:=h2
 obtain rfl:=(List.cons.inj e2).1
 obtain ⟨v3,e3,h3⟩:=h3
 obtain rfl:=(List.cons.inj e3).1
 have p0:0≤Rows.uptoBulk y0.1:=q0
 have p1:0≤Rows.uptoBulk y1.1:=q1
 have p2:0≤Rows.uptoBulk y2.1:=q2
 have p3:(a3.map mLn).sum≤Rows.uptoBulk y3.1:=q3
 refine ⟨⟨a0,a1,a2,a3⟩,⟨_,rfl,h0,h1,h2,h3⟩,?_⟩
 refine Nat.le_trans ?_ hq
 simp only[mLc];omega
theorem qiH:RD enc Tryz.prog w 80 JE mFn:=fun fuel cs x h=>by
 obtain ⟨xs,n, -,rfl,hlen,hxl,hf⟩:=DataW.trod_struct qkH h
 rw[qaA]at hlen
 replace hxl:xs.length=5:=hxl
 obtain ⟨y0,y1,y2,y3,y4,rfl⟩:∃y0 y1 y2 y3 y4,xs=[y0,y1,y2,y3,y4]:=by
  clear hf h
  rcases xs with _|⟨y0,xs⟩
  ·simp at hxl
  rcases xs with _|⟨y1,xs⟩
  ·simp at hxl
  rcases xs with _|⟨y2,xs⟩
  ·simp at hxl
  rcases xs with _|⟨y3,xs⟩
  ·simp at hxl
  rcases xs with _|⟨y4,xs⟩
  ·simp at hxl
  rcases xs with _|⟨y,xs⟩
  ·exact ⟨_,_,_,_,_,rfl⟩
  ·simp at hxl
 have t0:=hf 0 _ rfl
 obtain ⟨a0,r0,q0⟩:=(yP qaP) _ _ y0 t0
 have g0:(vu .u64) w ((cs.drop 0).take (Tryz.prog.cellsOf 71)) a0:=r0
 rw[Jg]at g0
 clear t0 r0
 have t1:=hf 1 _ rfl
 obtain ⟨a1,r1,q1⟩:=(zH ud9) _ _ y1 t1
 have g1:xa w ((cs.drop 1).take (Tryz.prog.cellsOf 9)) a1:=r1
 rw[xQ]at g1
 clear t1 r1
 have t2:=hf 2 _ rfl
 obtain ⟨a2,r2,q2⟩:=(zH ud9) _ _ y2 t2
 have g2:xa w ((cs.drop 2).take (Tryz.prog.cellsOf 9)) a2:=r2
 rw[xQ]at g2
 clear t2 r2
 have t3:=hf 3 _ rfl
 obtain ⟨a3,r3,q3⟩:=(zH ud9) _ _ y3 t3
 have g3:xa w ((cs.drop 3).take (Tryz.prog.cellsOf 9)) a3:=r3
 rw[xQ]at g3
 clear t3 r3
 have t4:=hf 4 _ rfl
 obtain ⟨a4,r4,q4⟩:=(yP ud2) _ _ y4 t4
 have g4:(vu .i64) w ((cs.drop 4).take (Tryz.prog.cellsOf 2)) a4:=r4
 rw[Kh]at g4
 clear t4 r4
 clear hf
 have hq:Rows.uptoBulk y0.1+(Rows.uptoBulk y1.1+(Rows.uptoBulk y2.1+(Rows.uptoBulk y3.1+(Rows.uptoBulk y4.1+0))))+1≤Rows.uptoBulk (.agg ([y0,y1,y2,y3,y4].map (·.1))):=by simp only[Rows.uptoBulk,Rows.uptoBulkAll,List.map_cons,List.map_nil];omega
 obtain ⟨c0,c1,c2,c3,c4,rfl⟩:∃c0 c1 c2 c3 c4,cs=[c0,c1,c2,c3,c4]:=by
  clear h g0 g1 g2 g3 g4
  rcases cs with _|⟨c0,cs⟩
  ·simp at hlen
  rcases cs with _|⟨c1,cs⟩
  ·simp at hlen
  rcases cs with _|⟨c2,cs⟩
  ·simp at hlen
  rcases cs with _|⟨c3,cs⟩
  ·simp at hlen
  rcases cs with _|⟨c4,cs⟩
  ·simp at hlen
  rcases cs with _|⟨c,cs⟩
  ·exact ⟨_,_,_,_,_,rfl⟩
  ·simp at hlen
 have h0:(vu .u64) w [c0] a0:=g0
 have h1:xa w [c1] a1:=g1
 have h2:xa w [c2] a2:=g2
 have h3:xa w [c3] a3:=g3
 have h4:(vu .i64) w [c4] a4:=g4
 obtain ⟨e0,h0⟩:=h0
 obtain rfl:=(List.cons.inj e0).1
 have e1:=h1
 obtain rfl:=(List.cons.inj e1).1
 have e2:=h2
 obtain rfl:=(List.cons.inj e2).1
 have e3:=h3
 obtain rfl:=(List.cons.inj e3).1
 obtain ⟨e4,h4⟩:=h4
 obtain rfl:=(List.cons.inj e4).1
 have p0:0≤Rows.uptoBulk y0.1:=q0
 have p1:a1.size+1≤Rows.uptoBulk y1.1:=q1
 have p2:a2.size+1≤Rows.uptoBulk y2.1:=q2
 have p3:a3.size+1≤Rows.uptoBulk y3.1:=q3
 have p4:0≤Rows.uptoBulk y4.1:=q4
 refine ⟨⟨a0,a1,a2,a3,a4⟩,⟨rfl,h0,h4⟩,?_⟩
 refine Nat.le_trans ?_ hq
 simp only[mFn];omega
theorem Za:RD enc Tryz.prog w 31 qI mPf:=fun fuel cs x h=>by
 obtain ⟨xs,n, -,rfl,hlen,hxl,hf⟩:=DataW.trod_struct qkJ h
 rw[qfV]at hlen
 replace hxl:xs.length=13:=hxl
 obtain ⟨y0,y1,y2,y3,y4,y5,y6,y7,y8,y9,y10,y11,y12,rfl⟩:∃y0 y1 y2 y3 y4 y5 y6 y7 y8 y9 y10 y11 y12,xs=[y0,y1,y2,y3,y4,y5,y6,y7,y8,y9,y10,y11,y12]:=by
  clear hf h
  rcases xs with _|⟨y0,xs⟩
  ·simp at hxl
  rcases xs with _|⟨y1,xs⟩
  ·simp at hxl
  rcases xs with _|⟨y2,xs⟩
  ·simp at hxl
  rcases xs with _|⟨y3,xs⟩
  ·simp at hxl
  rcases xs with _|⟨y4,xs⟩
  ·simp at hxl
  rcases xs with _|⟨y5,xs⟩
  ·simp at hxl
  rcases xs with _|⟨y6,xs⟩
  ·simp at hxl
  rcases xs with _|⟨y7,xs⟩
  ·simp at hxl
  rcases xs with _|⟨y8,xs⟩
  ·simp at hxl
  rcases xs with _|⟨y9,xs⟩
  ·simp at hxl
  rcases xs with _|⟨y10,xs⟩
  ·simp at hxl
  rcases xs with _|⟨y11,xs⟩
  ·simp at hxl
  rcases xs with _|⟨y12,xs⟩
  ·simp at hxl
  rcases xs with _|⟨y,xs⟩
  ·exact ⟨_,_,_,_,_,_,_,_,_,_,_,_,_,rfl⟩
  ·simp at hxl
 have t0:=hf 0 _ rfl
 obtain ⟨a0,r0,q0⟩:=(xY ud22 XX dq qeh) _ _ y0 t0
 have g0:(RSl xz 2) w ((cs.drop 0).take (Tryz.prog.cellsOf 22)) a0:=r0
 rw[qga]at g0
 clear t0 r0
 have t1:=hf 1 _ rfl
 obtain ⟨a1,r1,q1⟩:=(zH ud9) _ _ y1 t1
 have g1:xa w ((cs.drop 1).take (Tryz.prog.cellsOf 9)) a1:=r1
 rw[xQ]at g1
 clear t1 r1
 have t2:=hf 2 _ rfl
 obtain ⟨a2,r2,q2⟩:=(xY ud23 qaD dq qfh) _ _ y2 t2
 have g2:(RSl vE 4) w ((cs.drop 2).take (Tryz.prog.cellsOf 23)) a2:=r2
 rw[qfZ]at g2
 clear t2 r2
 have t3:=hf 3 _ rfl
 obtain ⟨a3,r3,q3⟩:=(xY ud24 qaC dq qdv) _ _ y3 t3
 have g3:(RSl xm 10) w ((cs.drop 3).take (Tryz.prog.cellsOf 24)) a3:=r3
 rw[qfY]at g3
 clear t3 r3
 have t4:=hf 4 _ rfl
 obtain ⟨a4,r4,q4⟩:=(xY ud25 qaB dq qcb) _ _ y4 t4
 have g4:(RSl Qa 4) w ((cs.drop 4).take (Tryz.prog.cellsOf 25)) a4:=r4
 rw[qfX]at g4
 clear t4 r4
 have t5:=hf 5 _ rfl
 obtain ⟨a5,r5,q5⟩:=(xY ud26 qaA dq qiH) _ _ y5 t5
 have g5:(RSl JE 5) w ((cs.drop 5).take (Tryz.prog.cellsOf 26)) a5:=r5
 rw[qfW]at g5
 clear t5 r5
 have t6:=hf 6 _ rfl
 obtain ⟨a6,r6,q6⟩:=(xY ud27 xQ dq (zH ud9)) _ _ y6 t6
 have g6:(RSl xa 1) w ((cs.drop 6).take (Tryz.prog.cellsOf 27)) a6:=r6
 rw[qaF]at g6
 clear t6 r6
 have t7:=hf 7 _ rfl
 obtain ⟨a7,r7,q7⟩:=(zH ud9) _ _ y7 t7
 have g7:xa w ((cs.drop 7).take (Tryz.prog.cellsOf 9)) a7:=r7
 rw[xQ]at g7
 clear t7 r7
 have t8:=hf 8 _ rfl
 obtain ⟨a8,r8,q8⟩:=(zH ud9) _ _ y8 t8
 have g8:xa w ((cs.drop 8).take (Tryz.prog.cellsOf 9)) a8:=r8
 rw[xQ]at g8
 clear t8 r8
 have t9:=hf 9 _ rfl
 obtain ⟨a9,r9,q9⟩:=(yP ud2) _ _ y9 t9
 have g9:(vu .i64) w ((cs.drop 9).take (Tryz.prog.cellsOf 2)) a9:=r9
 rw[Kh]at g9
 clear t9 r9
 have t10:=hf 10 _ rfl
 obtain ⟨a10,r10,q10⟩:=(yP ud2) _ _ y10 t10
 have g10:(vu .i64) w ((cs.drop 10).take (Tryz.prog.cellsOf 2)) a10:=r10
 rw[Kh]at g10
 clear t10 r10
 have t11:=hf 11 _ rfl
 obtain ⟨a11,r11,q11⟩:=(yP ud2) _ _ y11 t11
 have g11:(vu .i64) w ((cs.drop 11).take (Tryz.prog.cellsOf 2)) a11:=r11
 rw[Kh]at g11
 clear t11 r11
 have t12:=hf 12 _ rfl
 obtain ⟨a12,r12,q12⟩:=qeh _ _ y12 t12
 have g12:xz w ((cs.drop 12).take (Tryz.prog.cellsOf 29)) a12:=r12
 rw[XX]at g12
 clear t12 r12
 clear hf
 have hq:Rows.uptoBulk y0.1+(Rows.uptoBulk y1.1+(Rows.uptoBulk y2.1+(Rows.uptoBulk y3.1+(Rows.uptoBulk y4.1+(Rows.uptoBulk y5.1+(Rows.uptoBulk y6.1+(Rows.uptoBulk y7.1+(Rows.uptoBulk y8.1+(Rows.uptoBulk y9.1+(Rows.uptoBulk y10.1+(Rows.uptoBulk y11.1+(Rows.uptoBulk y12.1+0))))))))))))+1≤Rows.uptoBulk (.agg ([y0,y1,y2,y3,y4,y5,y6,y7,y8,y9,y10,y11,y12].map (·.1))):=by simp only[Rows.uptoBulk,Rows.uptoBulkAll,List.map_cons,List.map_nil];omega
 obtain ⟨c0,c1,c2,c3,c4,c5,c6,c7,c8,c9,c10,c11,c12,c13,rfl⟩:∃c0 c1 c2 c3 c4 c5 c6 c7 c8 c9 c10 c11 c12 c13,cs=[c0,c1,c2,c3,c4,c5,c6,c7,c8,c9,c10,c11,c12,c13]:=by
  clear h g0 g1 g2 g3 g4 g5 g6 g7 g8 g9 g10 g11 g12
  rcases cs with _|⟨c0,cs⟩
  ·simp at hlen
  rcases cs with _|⟨c1,cs⟩
  ·simp at hlen
  rcases cs with _|⟨c2,cs⟩
  ·simp at hlen
  rcases cs with _|⟨c3,cs⟩
  ·simp at hlen
  rcases cs with _|⟨c4,cs⟩
  ·simp at hlen
  rcases cs with _|⟨c5,cs⟩
  ·simp at hlen
  rcases cs with _|⟨c6,cs⟩
  ·simp at hlen
  rcases cs with _|⟨c7,cs⟩
  ·simp at hlen
  rcases cs with _|⟨c8,cs⟩
  ·simp at hlen
  rcases cs with _|⟨c9,cs⟩
  ·simp at hlen
  rcases cs with _|⟨c10,cs⟩
  ·simp at hlen
  rcases cs with _|⟨c11,cs⟩
  ·simp at hlen
  rcases cs with _|⟨c12,cs⟩
  ·simp at hlen
  rcases cs with _|⟨c13,cs⟩
  ·simp at hlen
  rcases cs with _|⟨c,cs⟩
  ·exact ⟨_,_,_,_,_,_,_,_,_,_,_,_,_,_,rfl⟩
  ·simp at hlen
 have h0:(RSl xz 2) w [c0] a0:=g0
 have h1:xa w [c1] a1:=g1
 have h2:(RSl vE 4) w [c2] a2:=g2
 have h3:(RSl xm 10) w [c3] a3:=g3
 have h4:(RSl Qa 4) w [c4] a4:=g4
 have h5:(RSl JE 5) w [c5] a5:=g5
 have h6:(RSl xa 1) w [c6] a6:=g6
 have h7:xa w [c7] a7:=g7
 have h8:xa w [c8] a8:=g8
 have h9:(vu .i64) w [c9] a9:=g9
 have h10:(vu .i64) w [c10] a10:=g10
 have h11:(vu .i64) w [c11] a11:=g11
 have h12:xz w [c12,c13] a12:=g12
 obtain ⟨v0,e0,h0⟩:=h0
 obtain rfl:=(List.cons.inj e0).1
 have e1:=h1
 obtain rfl:=(List.cons.inj e1).1
 obtain ⟨v2,e2,h2⟩:=h2
 obtain rfl:=(List.cons.inj e2).1
 obtain ⟨v3,e3,h3⟩:=h3
 obtain rfl:=(List.cons.inj e3).1
 obtain ⟨v4,e4,h4⟩:=h4
 obtain rfl:=(List.cons.inj e4).1
 obtain ⟨v5,e5,h5⟩:=h5
 obtain rfl:=(List.cons.inj e5).1
 obtain ⟨v6,e6,h6⟩:=h6
 obtain rfl:=(List.cons.inj e6).1
 have e7:=h7
 obtain rfl:=(List.cons.inj e7).1
 have e8:=h8
 obtain rfl:=(List.cons.inj e8).1
 obtain ⟨e9,h9⟩:=h9
 obtain rfl:=(List.cons.inj e9).1
 obtain ⟨e10,h10⟩:=h10
 obtain rfl:=(List.cons.inj e10).1
 obtain ⟨e11,h11⟩:=h11
 obtain rfl:=(List.cons.inj e11).1
 have e12:=h12
 simp only[xz,List.cons.injEq,and_true]at e12
 obtain ⟨rfl,rfl⟩:=e12
 have p0:(a0.map mTy).sum≤Rows.uptoBulk y0.1:=q0
 have p1:a1.size+1≤Rows.uptoBulk y1.1:=q1
 have p2:(a2.map mSm).sum≤Rows.uptoBulk y2.1:=q2
 have p3:(a3.map mMp).sum≤Rows.uptoBulk y3.1:=q3
 have p4:(a4.map mLc).sum≤Rows.uptoBulk y4.1:=q4
 have p5:(a5.map mFn).sum≤Rows.uptoBulk y5.1:=q5
 have p6:(a6.map (fun s:ByteArray=>s.size+1)).sum≤Rows.uptoBulk y6.1:=q6
 have p7:a7.size+1≤Rows.uptoBulk y7.1:=q7
 have p8:a8.size+1≤Rows.uptoBulk y8.1:=q8
 have p9:0≤Rows.uptoBulk y9.1:=q9
 have p10:0≤Rows.uptoBulk y10.1:=q10
 have p11:0≤Rows.uptoBulk y11.1:=q11
 have p12:(a12.ty.size+1)+(a12.unit.size+1)≤Rows.uptoBulk y12.1:=q12
 refine ⟨⟨a0,a1,a2,a3,a4,a5,a6,a7,a8,a9,a10,a11,a12⟩,⟨_,_,_,_,_,_,rfl,h0,h2,h3,h4,h5,h6,h9,h10,h11⟩,?_⟩
 refine Nat.le_trans ?_ hq
 simp only[mPf];rw[show mTy ⟨a12.ty,a12.unit⟩=(a12.ty.size+1)+(a12.unit.size+1) from rfl];omega
end
theorem qlB {W W':World} (k:Fr 0 [] W W') (may:MemPlace→Prop):W.keptBut W' may:=by
 refine ⟨k.os,k.output,fun i hi=>?_⟩
 obtain ⟨o,ho⟩:∃o,W.heap[i]? =some o:=⟨_,Array.getElem?_eq_getElem hi⟩
 rw[ho,k.keep _ o ho (.inr zp)]
 cases o<;>simp
open Go Go.Fw Go.Proofs Go.Proofs.Tryz
theorem xj {α β:Type} {sz:Nat} {R:World→List Value→α→Prop} {bs:List β} {c:β→List Value} {f:β→α} {xs:List α} (h:OS T sz w v (bs.flatMap c)) (hx:bs.map f=xs) (hc:∀b,(c b).length=sz) (hp:0<sz) (hR:∀b∈bs,R w (c b) (f b)) (hl:xs.length≤1000000000):Lay R sz w v xs:=by
 subst hx
 obtain ⟨p,l,cc,rfl,hlen,hlc,ho⟩:=h.open
 have hfl:(bs.flatMap c).length=bs.length*sz:=qw hc _
 have hll:l=bs.length:=by
  rw[hfl]at hlen
  exact (Nat.eq_of_mul_eq_mul_right hp hlen).symm
 subst hll
 refine ⟨bs.map c,⟨⟨p,cc,by simp,by simpa using hlc,?_⟩,?_,by simp at hl⊢;omega⟩,by simp,fun q hq=>?_,fun i q x hq hx=>?_⟩
 ·by_cases h0:bs.length=0
  ·exact .inl (by simpa using h0)
  ·right
   obtain ⟨b,rfl,hcell⟩:=ho ox
   refine ⟨b,0,rfl,fun j u hu=>?_⟩
   rw[Nat.zero_add]
   exact hcell w (vQ.refl w) j u (by rw[List.flatMap_def];exact hu)
 ·rw[← List.flatMap_def,hfl];simp
 ·obtain ⟨b, -,rfl⟩:=List.mem_map.1 hq
  exact hc b
 ·rw[List.getElem?_map]at hq hx
  cases hb:bs[i]? with
  |none=>rw[hb]at hq;cases hq
  |some b=>
   rw[hb]at hq hx
   simp at hq hx
   subst hq;subst hx
   exact hR b (mG hb)
theorem qcs {α:Type} (g:α→Value) (xs:List α):xs.map g=xs.flatMap fun x=>[g x]:=by
 induction xs with
 |nil=>rfl
 |cons a r ih=>simp[ih]
theorem Jd {α:Type} {R:World→List Value→α→Prop} {xs:List α} {g:α→Value} (h:OS T 1 w v (xs.map g)) (hR:∀x∈xs,R w [g x] x) (hl:xs.length≤1000000000):Lay R 1 w v xs:=by
 rw[qcs]at h
 exact xj (f:=fun x=>x) h zp (fun _=>rfl) ox hR hl
theorem KG (a b:List ByteArray):xt (a++b)=xt a+xt b:=by simp[xt]
theorem qeX (a:ByteArray) (b:List ByteArray):xt (a::b)=a.size+1+xt b:=by simp[xt]
theorem JQ {α:Type} (f:α→List ByteArray):∀(xs:List α),xt (xs.flatMap f)=(xs.map fun x=>xt (f x)).sum
 |[]=>rfl
 |a::r=>by rw[List.flatMap_cons,KG,JQ f r,List.map_cons,List.sum_cons]
theorem qbN {α:Type} (f:α→ByteArray):∀(xs:List α),xt (xs.map f)=(xs.map fun x=>(f x).size+1).sum
 |[]=>rfl
 |a::r=>by rw[List.map_cons,qeX,qbN f r,List.map_cons,List.sum_cons]
theorem qgv (x:jD):xt (yz x)≤mPf x+1:=by
 have e1:∀s:ku,xt (YV s)=mSm s:=fun s=>by
  unfold YV mSm
  rw[KG,JQ,qbN]
  rfl
 have e2:∀t:xn,xt [t.ty,t.unit]=mTy t:=fun t=>by simp[xt,mTy]
 have e3:∀m:qK,xt [m.file,m.build]=mMp m:=fun m=>by simp[xt,mMp]
 have e4:∀f:yl,xt [f.name,f.system,f.file]=mFn f:=fun f=>by simp[xt,mFn]
 unfold yz mPf
 rw[KG,KG,KG,KG,JQ,JQ,JQ,JQ]
 rw[show (fun t:xn=>xt [t.ty,t.unit])=mTy from funext e2,show (fun s:ku=>xt (YV s))=mSm from funext e1,show (fun m:qK=>xt [m.file,m.build])=mMp from funext e3,show (fun f:yl=>xt [f.name,f.system,f.file])=mFn from funext e4]
 have e5:xt [eB,x.drop,x.keep,x.per.ty,x.per.unit]=1+((x.drop.size+1)+((x.keep.size+1)+mTy x.per)):=by simp[xt,mTy];rfl
 rw[e5]
 omega
theorem qgc {D:List Nat} (h:OS tU8 1 w v (D.map bv)) (hl:0<D.length):∃b c,v=.slice (some ⟨b,0,none⟩) D.length c∧Bys w b 0 c D:=by
 obtain ⟨y,p,l,c,rfl,hO,hb⟩:=h
 obtain ⟨e1,e2,e3,s1,s2,s3⟩:=hO
 have hll:l=D.length:=by simpa using s1.symm
 subst hll
 rcases s3 with ⟨h5,h6,⟨ex,h7⟩,h8⟩|⟨h5,h6,h7⟩
 ·refine ⟨y.b,c,by rw[h6],s2,y.cs,hb h5,fun j d hd=>?_⟩
  have hj:=(List.getElem?_eq_some_iff.1 hd).1
  rw[h7,Nat.zero_add,aq (by simpa using hj),List.getElem?_map,hd];rfl
 ·omega
abbrev tTx:Nat:=109
abbrev tNu:Nat:=112
theorem Zo {α:Type} (key:α→ByteArray):∀{xs:List α},(xs.map key).Nodup→∀{t:α},t∈xs→xs.find? (fun t'=>key t'=key t)=some t
 |[],_,_,h=>by cases h
 |a::r,hn,t,h=>by
    rw[List.map_cons,List.nodup_cons]at hn
    rcases mC h with rfl|h
    ·rw[List.find?_cons_of_pos zp]
    ·have hne:key a≠key t:=fun e=>hn.1 (e▸mq h)
     rw[List.find?_cons_of_neg (by simpa using hne)]
     exact Zo key hn.2 h
theorem Vw {ks:List ByteArray} (h:ks.Pairwise fun x y=>ltB x y=true):ks.Nodup:=h.imp fun {a b} h e=>by subst e;rw[zv]at h;cases h
theorem qin {ks rs:List ByteArray} (h1:ks.Pairwise fun x y=>ltB x y=true) (h2:rs.Pairwise fun x y=>ltB x y=true) (hm:∀k,k∈ks↔k∈rs):ks=rs:=by
 refine List.Perm.eq_of_pairwise (le:=fun a b=>ltB a b=true) (fun a b _ _ h1 h2=>?_) h1 h2 ((List.perm_ext_iff_of_nodup (Vw h1) (Vw h2)).2 hm)
 rw[XP]at h1 h2
 simp only[decide_eq_true_eq]at h1 h2
 exact absurd (List.lt_trans h1 h2) (List.lt_irrefl _)
theorem qdD (h:zQ s) {t:xB} (ht:t∈s.texts):fT s t.key=t.list:=by
 unfold fT
 rw[Zo (fun t:xB=>t.key) (Vw h.tpw) ht];rfl
theorem qdF (h:zQ s) {t:zf} (ht:t∈s.nums):fN s t.key=t.list:=by
 unfold fN
 rw[Zo (fun t:zf=>t.key) (Vw h.npw) ht];rfl
theorem qdE {k:ByteArray} (h:fT s k≠[]):∃t∈s.texts,t.key=k:=by
 unfold fT at h
 cases hf:s.texts.find? fun t=>t.key=k with
 |none=>rw[hf]at h;exact absurd rfl h
 |some t=>exact ⟨t,List.mem_of_find?_eq_some hf,by simpa using List.find?_some hf⟩
theorem qdG {k:ByteArray} (h:fN s k≠[]):∃t∈s.nums,t.key=k:=by
 unfold fN at h
 cases hf:s.nums.find? fun t=>t.key=k with
 |none=>rw[hf]at h;exact absurd rfl h
 |some t=>exact ⟨t,List.mem_of_find?_eq_some hf,by simpa using List.find?_some hf⟩
structure qbE {α:Type} (T:Nat) (enc:α→Value) (w:World) (f:ByteArray→List α) (mo:Option Nat) (es:List MapEntry) (ck:Nat) (ms:List (ByteArray×Value)):Prop where
 at_:Jq w mo es ck
 menc:vA Value.string ms es ck
 yes:∀k u,xK ms k=some u→f k≠[]∧OS T 1 w u ((f k).map enc)
 no:∀k,xK ms k=none→f k=[]
theorem Qb.y {α:Type} {enc:α→Value} {f:ByteArray→List α} (h:Qb T enc w v f):∃mo es ck ms,v=.map mo∧qbE T enc w f mo es ck ms:=by
 rcases h with ⟨rfl,h⟩|⟨b,ms,es,ck,rfl,h2,h3,h4,h5⟩
 ·exact ⟨none,[],0,[],rfl,.inl ⟨rfl,rfl,rfl⟩,vA.nil',fun k u h=>by simp[Kb]at h,fun k _=>h k⟩
 ·exact ⟨some b,es,ck,ms,rfl,.inr ⟨b,rfl,h2⟩,h3,h4,h5⟩
theorem qbE.keys {α:Type} {enc:α→Value} {f:ByteArray→List α} {ms:List (ByteArray×Value)} (h:qbE T enc w f mo es ck ms) (k:ByteArray):k∈ms.map (·.1)↔f k≠[]:=by
 constructor
 ·intro hm
  cases hg:xK ms k with
  |none=>exact absurd hm (JT.1 hg)
  |some u=>exact (h.yes k u hg).1
 ·intro hf
  cases hg:xK ms k with
  |none=>exact absurd (h.no k hg) hf
  |some u=>
   by_cases hm:k∈ms.map (·.1)
   ·exact hm
   ·rw[JT.2 hm]at hg;cases hg
theorem qbE.entry {α:Type} {enc:α→Value} {f:ByteArray→List α} {ms:List (ByteArray×Value)} (h:qbE T enc w f mo es ck ms) {x:MapEntry} (hx:x∈es):∃k p c,x.key=.string k∧f k≠[]∧x.val=.slice p (f k).length c∧OS T 1 w (.slice p (f k).length c) ((f k).map enc):=by
 obtain ⟨q,hq,h1,h2⟩:=Jc h.menc hx
 obtain ⟨h3,h4⟩:=h.yes q.1 q.2 (KR h.menc.keys hq)
 obtain ⟨p,l,c,e,hl, -⟩:=h4.open
 obtain rfl:(f q.1).length=l:=by simpa using hl
 exact ⟨q.1,p,c,h1,h3,by rw[h2,e],e▸h4⟩
theorem qbE.len {α β:Type} {enc:α→Value} {f:ByteArray→List α} {ms:List (ByteArray×Value)} (h:qbE T enc w f mo es ck ms) {xs:List β} {key:β→ByteArray} (hk:∀k,f k≠[]→∃t∈xs,key t=k):es.length≤xs.length:=by
 have h1:=h.menc.length
 have h2:(ms.map (·.1)).length≤(xs.map key).length:=h.menc.keys.length_le_of_subset fun k hm=>by
  obtain ⟨t,ht,e⟩:=hk k ((h.keys k).1 hm)
  exact e▸mq ht
 simp only[List.length_map]at h2
 omega
def Clo {α:Type} (T:Nat) (enc:α→Value) (f:ByteArray→List α) (qs:List LbE) (R:ko):Prop:=∀q∈qs,∃z∈R,q.2.2.1=(f q.1).length∧Own T 1 z q.2.1 q.2.2.1 q.2.2.2 ((f q.1).map enc)
theorem Clo.nil {α:Type} {enc:α→Value} {f:ByteArray→List α} {R:ko}:Clo T enc f [] R:=fun q h=>by cases h
theorem Clo.push {α:Type} {enc:α→Value} {f:ByteArray→List α} {qs:List LbE} {R R':ko} (h:Clo T enc f qs R) (hs:∀z∈R,z∈R') {k:ByteArray} {z:Ent} (hz:z∈R') (hO:Own T 1 z p (f k).length c ((f k).map enc)):Clo T enc f (qs++[(k,p,(f k).length,c)]) R':=fun q hq=>by
 rcases mA hq with hq|hq
 ·obtain ⟨z,h1,h2⟩:=h q hq
  exact ⟨z,hs z h1,h2⟩
 ·simp at hq;subst hq
  exact ⟨z,hz,rfl,hO⟩
theorem Hp.rot3 {a b c:Ent} {R:ko} (h:Hp f w (a::b::c::R)):Hp f w (b::c::a::R):=by
 have h1:=h.swap
 obtain ⟨h2,h3,h4,h5⟩:=h1
 exact ⟨h2,h3,fun he z hz hze=>h4 he z (by simp at hz⊢;rcases hz with h|h|h<;>simp[h]) hze,Hp.swap h5⟩
theorem Hp.rot4 {a b c d:Ent} {R:ko} (h:Hp f w (a::b::c::d::R)):Hp f w (b::c::d::a::R):=by
 have h1:=Hp.rot3 h
 obtain ⟨h2,h3,h4,h5,h6,h7,h8⟩:=h1
 exact ⟨h2,h3,fun he z hz hze=>h4 he z (by simp at hz⊢;rcases hz with h|h|h|h<;>simp[h]) hze,h5,h6,fun he z hz hze=>h7 he z (by simp at hz⊢;rcases hz with h|h|h<;>simp[h]) hze,Hp.swap h8⟩
section
variable {P:Program} {Q:Exit→Act→World→Prop} {n:Nat} {f:Fm} {e:Env} {H:ko} {ops:Array Oper} {rest:List Oper} {d ty:Nat} {pos:String} {af:Array Edge}
theorem Qm {sT by_ m c2:Nat} {s x:Operand} {y:Ent} {p2:Option Addr} {xs zs:List Value} (i:Nat) (hy:H[i]? =some y) (hO:Own T 1 y p l c xs)
  (hu:∀w,(underlying sT).run P w=.ok (.slice T) w) (hT:ElT P T 1 by_) (hby:Nat.ble by_ 1000=true)
  (hs:ev e s=some (.slice p l c)) (hxv:ev e x=some (.slice p2 m c2)) (hx:OS T 1 f.ws (.slice p2 m c2) zs) (hW:f.W.all (fun t=> !Nat.beq t T)=true) (hsc:∀z∈zs,scal z=true) (hbig:l+m≤100000000000) (hd:Nat.blt d n=true)
  (k:∀y' p' c',Own T 1 y' p' (l+m) c' (xs++zs)→J P ops Q n f ((d,.slice p' (l+m) c')::e) (yn H i y') rest):
  J P ops Q n f e H (⟨some d,.call ⟨.builtin .append, #[s,x], #[sT,sT]⟩,ty,pos,af,none⟩::rest):=by
 obtain ⟨y2,p',l',c',e1,h2,h3⟩:=hx
 cases e1
 have hl:zs.length=m:=by have:=h2.sl.1;simpa using this
 refine KU i hy hO.hT hO.ho hO.hw hu hu (.inl ⟨_,rfl⟩) hT hby hs hxv hO.sl (vJ _ _ _) (fun w w1 hH hf k=>?_) (by simp[hl]) (by simpa[List.all_eq_true]using hsc) hbig hd fun y' p' c' h1 h2 h3 h4=>k y' p' c' ⟨h1,h2,h3,h4⟩
 obtain ⟨-, -,h4⟩:=h2.sl
 rcases h4 with ⟨h5,h6,⟨ex,h7⟩, -⟩|⟨h5,h6,h7⟩
 ·subst h6
  have hb:Blk w1 y2.b T y2.cs:=k _ _ (kC hf (h3 h5) hW)
  exact Zq hb (by rw[List.drop_zero,h7,Nat.mul_one, ← hl,List.take_append_of_le_length (Nat.le_refl _),List.take_length]) (by simp[hl])
 ·subst h6
  have:m=0:=by have:=h2.sl.2.1;omega
  subst this
  rw[List.eq_nil_of_length_eq_zero hl]
  rfl
end
section
variable {Q:Exit→Act→World→Prop} {n:Nat} {f:Fm} {e:Env} {H:ko} {ops:Array Oper} {rest:List Oper} {d ty:Nat} {pos:String} {af:Array Edge}
theorem qcA {F:Nat} {fv:Value} {y:Ent} {xs:List LbE} {args:Array Operand} {tys:Array TypeId} (i:Nat) (hi:H[i]? =some y) (hO:Own T 2 y p l c (xs.flatMap xx))
  (hg:∀(az:Array Value) (w:World),(callFunc F az).run Tryz.prog w=.ok (.enter F az) w)
  (hc:∀w,(y.on=true→Blk w y.b T y.cs)→Calls Tryz.prog F #[.slice p l c,fv] w (Ret fun _ w'=>∃ys:List LbE,ys.Perm xs∧(ys.map (·.1)).Pairwise (fun a b=>ltB a b=true)∧((w'=w∧Own T 2 y p l c (ys.flatMap xx))∨y.on=true∧∃cs',Own T 2 { y with cs:=cs' } p l c (ys.flatMap xx)∧Blk w' y.b T cs'∧jv [y.b] w w')))
  (hargs:evL e args.toList=some [.slice p l c,fv]) (hd:Nat.blt d n=true)
  (k:∀v y' (ys:List LbE),ys.Perm xs→(ys.map (·.1)).Pairwise (fun a b=>ltB a b=true)→Own T 2 y' p l c (ys.flatMap xx)→J Tryz.prog ops Q n f ((d,v)::e) (yn H i y') rest):
  J Tryz.prog ops Q n f e H (⟨some d,.call ⟨.value (.func F),args,tys⟩,ty,pos,af,none⟩::rest):=
 kQ (R:=fun w _ w'=>∃ys:List LbE,ys.Perm xs∧(ys.map (·.1)).Pairwise (fun a b=>ltB a b=true)∧((w'=w∧Own T 2 y p l c (ys.flatMap xx))∨y.on=true∧∃cs',Own T 2 { y with cs:=cs' } p l c (ys.flatMap xx)∧Blk w' y.b T cs'∧jv [y.b] w w')) hg hargs hd (fun w hH _=>hc w fun ho=>by have:=hH.get hi ho;rwa [hO.hT]at this) fun w v w' hH hf hR=>by
  obtain ⟨ys,hp,hpw,hR⟩:=hR
  rcases hR with ⟨rfl,h1⟩|⟨hon,cs',h1,h2,h3⟩
  ·exact k v y ys hp hpw h1 w' (by rw[JR hi];exact hH) hf
  ·have hm:=hH.may (mG hi) hon hO.hw
   have hex:y.ex=true:=by simp[Ent.ex,hon]
   rw[hO.hT]at hm
   refine k v _ ys hp hpw h1 w' (hH.putX hi hex rfl (fun _ _=>by rw[h1.tag];exact hm) h3 ⟨fun _=>by simp only[hO.hT];exact h2,fun o ho=>by simp only[hO.ho]at ho;cases ho⟩) (okK hf h3 hm fun o ho=>?_)
   have h4:=hH.get hi hon
   rw[hO.hT]at h4
   have h5:w.heap[y.b]? =some (.cells y.cs.toArray T (0,0)):=h4
   rw[ho]at h5;cases h5;rfl
end
theorem qes {qs:List LbE} {xs:List MapEntry} {ks:List ByteArray} (h:xs.map (·.key)=qs.map fun q=>Value.string q.1) (hk:xs.map (·.key)=ks.map .string):qs.map (·.1)=ks:=by
 rw[h]at hk
 have h2:(qs.map (·.1)).map Value.string=ks.map .string:=by rw[← hk];simp
 exact Kc h2
theorem qgz {locs:List Nat} {b:Nat} (h:KY w locs b s):∃ls vs m1 m2 iv xv es1 ck1 ms1 es2 ck2 ms2,Blk w b kY [ls,vs,.map m1,.map m2,.map none,iv,xv]∧qbE qc .string w (fT s) m1 es1 ck1 ms1∧qbE qd (.int .i64) w (fN s) m2 es2 ck2 ms2:=by
 obtain ⟨ls,vs,lm,nm,iv,xv,h1, -, -,h4,h5, -⟩:=h
 obtain ⟨m1,es1,ck1,ms1,rfl,h6⟩:=h4.y
 obtain ⟨m2,es2,ck2,ms2,rfl,h7⟩:=h5.y
 exact ⟨ls,vs,m1,m2,iv,xv,es1,ck1,ms1,es2,ck2,ms2,h1,h6,h7⟩
theorem qfs {ys:List LbE} (hLab:zQ s) (hO:OS tTx 2 w v (ys.flatMap xx)) (hpw:(ys.map (·.1)).Pairwise fun a b=>ltB a b=true) (hk:∀k,k∈ys.map (·.1)↔fT s k≠[]) (hC:∀q∈ys,q.2.2.1=(fT s q.1).length∧OS qc 1 w (.slice q.2.1 q.2.2.1 q.2.2.2) ((fT s q.1).map .string)):Lay xA 2 w v s.texts:=by
 have e1:ys.map (·.1)=s.texts.map (·.key):=qin hpw hLab.tpw fun k=>by
  rw[hk]
  constructor
  ·intro h
   obtain ⟨t,ht,e⟩:=qdE h
   exact e▸mq ht
  ·intro h
   obtain ⟨t,ht,rfl⟩:=List.mem_map.1 h
   rw[qdD hLab ht];exact (hLab.tl t ht).1
 have e2:(ys.map fun q=>(⟨q.1,fT s q.1⟩:xB))=s.texts:=by
  have h:=congrArg (List.map fun k=>(⟨k,fT s k⟩:xB)) e1
  simp only[List.map_map]at h
  refine h.trans ((List.map_congr_left fun t ht=>?_).trans (List.map_id _))
  show (⟨t.key,fT s t.key⟩:xB)=t
  rw[qdD hLab ht]
 refine xj (f:=fun q=>(⟨q.1,fT s q.1⟩:xB)) hO e2 (fun _=>rfl) ox (fun q hq=>⟨_,rfl,?_⟩) (by have:=hLab.tlen;omega)
 have hm:(⟨q.1,fT s q.1⟩:xB)∈s.texts:=by rw[← e2];exact mq (f:=fun q:LbE=>(⟨q.1,fT s q.1⟩:xB)) hq
 have h60:=(hLab.tl _ hm).2.1
 simp only at h60
 exact Jd (hC q hq).2 (fun _ _=>rfl) (show (fT s q.1).length≤1000000000 by omega)
theorem qhr {ys:List LbE} (hLab:zQ s) (hr:∀t∈s.nums,∀n∈t.list,IntKind.i64.wrap n=n) (hO:OS tNu 2 w v (ys.flatMap xx)) (hpw:(ys.map (·.1)).Pairwise fun a b=>ltB a b=true) (hk:∀k,k∈ys.map (·.1)↔fN s k≠[]) (hC:∀q∈ys,q.2.2.1=(fN s q.1).length∧OS qd 1 w (.slice q.2.1 q.2.2.1 q.2.2.2) ((fN s q.1).map (.int .i64))):Lay yW 2 w v s.nums:=by
 have e1:ys.map (·.1)=s.nums.map (·.key):=qin hpw hLab.npw fun k=>by
  rw[hk]
  constructor
  ·intro h
   obtain ⟨t,ht,e⟩:=qdG h
   exact e▸mq ht
  ·intro h
   obtain ⟨t,ht,rfl⟩:=List.mem_map.1 h
   rw[qdF hLab ht];exact (hLab.nl t ht).1
 have e2:(ys.map fun q=>(⟨q.1,fN s q.1⟩:zf))=s.nums:=by
  have h:=congrArg (List.map fun k=>(⟨k,fN s k⟩:zf)) e1
  simp only[List.map_map]at h
  refine h.trans ((List.map_congr_left fun t ht=>?_).trans (List.map_id _))
  show (⟨t.key,fN s t.key⟩:zf)=t
  rw[qdF hLab ht]
 refine xj (f:=fun q=>(⟨q.1,fN s q.1⟩:zf)) hO e2 (fun _=>rfl) ox (fun q hq=>⟨_,rfl,?_⟩) (by have:=hLab.nlen;omega)
 have hm:(⟨q.1,fN s q.1⟩:zf)∈s.nums:=by rw[← e2];exact mq (f:=fun q:LbE=>(⟨q.1,fN s q.1⟩:zf)) hq
 have h60:=(hLab.nl _ hm).2
 simp only at h60
 exact Jd (hC q hq).2 (fun n hn=>⟨rfl,hr _ hm n hn⟩) (show (fN s q.1).length≤1000000000 by omega)
theorem qeE {α:Type} {enc:α→Value} {fn:ByteArray→List α} {qs ys:List LbE} {R H:ko} (h:Clo T enc fn qs R) (hs:∀z∈R,z∈H) (hH:Hp f w H) (hp:ys.Perm qs):∀q∈ys,q.2.2.1=(fn q.1).length∧OS T 1 w (.slice q.2.1 q.2.2.1 q.2.2.2) ((fn q.1).map enc):=fun q hq=>by
 obtain ⟨z,hz,h1,h2⟩:=h q (hp.mem_iff.1 hq)
 exact ⟨h1,z,_,_,_,rfl,h2,fun ho=>by have:=hH.blk (hs z hz) ho;rw[h2.hT]at this;exact this⟩
def TxV (w:World) (v:Value) (s:ku):Prop:=∃ys:List LbE,OS tTx 2 w v (ys.flatMap xx)∧(ys.map (·.1)).Pairwise (fun a b=>ltB a b=true)∧(∀k,k∈ys.map (·.1)↔fT s k≠[])∧∀q∈ys,q.2.2.1=(fT s q.1).length∧OS qc 1 w (.slice q.2.1 q.2.2.1 q.2.2.2) ((fT s q.1).map .string)
def NuV (w:World) (v:Value) (s:ku):Prop:=∃ys:List LbE,OS tNu 2 w v (ys.flatMap xx)∧(ys.map (·.1)).Pairwise (fun a b=>ltB a b=true)∧(∀k,k∈ys.map (·.1)↔fN s k≠[])∧∀q∈ys,q.2.2.1=(fN s q.1).length∧OS qd 1 w (.slice q.2.1 q.2.2.1 q.2.2.2) ((fN s q.1).map (.int .i64))
theorem TxV.mono (h:TxV w v s) (k1:∀b cs,Blk w b tTx cs→Blk w' b tTx cs) (k2:∀b cs,Blk w b qc cs→Blk w' b qc cs):TxV w' v s:=by
 obtain ⟨ys,h1,h2,h3,h4⟩:=h
 exact ⟨ys,h1.mono k1,h2,h3,fun q hq=>⟨(h4 q hq).1,(h4 q hq).2.mono k2⟩⟩
theorem NuV.mono (h:NuV w v s) (k1:∀b cs,Blk w b tNu cs→Blk w' b tNu cs) (k2:∀b cs,Blk w b qd cs→Blk w' b qd cs):NuV w' v s:=by
 obtain ⟨ys,h1,h2,h3,h4⟩:=h
 exact ⟨ys,h1.mono k1,h2,h3,fun q hq=>⟨(h4 q hq).1,(h4 q hq).2.mono k2⟩⟩
set_option maxHeartbeats 1000000 in
theorem qht (w:World) (locs:List Nat) (b:Nat) (s:ku) (h:KY w locs b s) (hLab:zQ s):
  Calls Tryz.prog 69 #[ptr b] w (Ret fun v w'=>(∃vt vn,v=.tuple #[vt,vn]∧TxV w' vt s∧NuV w' vn s)∧Fr 0 [] w w'):=by
 obtain ⟨ls,vs,m1,m2,iv,xv,es1,ck1,ms1,es2,ck2,ms2,hb,hT,hN⟩:=qgz h
 have hl1:es1.length≤60:=Nat.le_trans (hT.len fun k=>qdE) hLab.tlen
 have hl2:es2.length≤60:=Nat.le_trans (hN.len fun k=>qdG) hLab.nlen
 have hbt:∀k,fT s k≠[]→(fT s k).length≤60:=fun k hk=>by
  obtain ⟨t,ht,rfl⟩:=qdE hk
  rw[qdD hLab ht];exact (hLab.tl t ht).2.1
 have hbn:∀k,fN s k≠[]→(fN s k).length≤60:=fun k hk=>by
  obtain ⟨t,ht,rfl⟩:=qdG hk
  rw[qdF hLab ht];exact (hLab.nl t ht).2
 have hM1:∀w',Fm.ok ⟨w,0,[]⟩ w'→Jq w' m1 es1 ck1:=fun w' hf=>hT.at_.keep fun b es ck h=>qdC hf rfl _ _ h
 have hM2:∀w',Fm.ok ⟨w,0,[]⟩ w'→Jq w' m2 es2 ck2:=fun w' hf=>hN.at_.keep fun b es ck h=>qdC hf rfl _ _ h
 have hc0:=mc (f:=⟨w,0,[]⟩) hb rfl
 refine jr (args:=[_]) [(0,_)] 0 [] [] func69 rfl ntmps69 rfl rfl .nil ?_
 refine qP fun K1 hK1=>jb (jA (k:=jA (k:=jw (ji (hK1 _ _ _ ?_)))))
 refine qP fun K2 hK2=>jb (jA (k:=jw (ji (hK2 _ _ _ (sQ fun K3=>jb (jA (k:=K3 (sQ fun K4=>sQ fun K5=>jb (jM (k:=jN (k:=?_)))))))))))
 refine jF 2 vl VF (k:=jL qaH hc0 2 (k:=?_))
 refine Xp VH (fun w' hH hf=>hM1 w' hf) rfl rfl fun it1=>?_
 refine K5 (jh ?_)
 refine jZ (σ:=List Nat×List MapEntry×List LbE×Ent×Option Addr×Nat×ko) (fun s=>[(0,ptr b),(4,.slice s.2.2.2.2.1 s.2.2.1.length s.2.2.2.2.2.1),(5,.slice none 0 0),(14,ptr it1)])
  (fun s=>s.2.2.2.1::itM it1 m1 ck1 s.1 ck1::s.2.2.2.2.2.2) (fun s' _=>Vis es1 s'.2.1 s'.1∧s'.2.1.map (·.key)=(s'.2.2.1.map fun q=>Value.string q.1)∧Own tTx 2 s'.2.2.2.1 s'.2.2.2.2.1 s'.2.2.1.length s'.2.2.2.2.2.1 (s'.2.2.1.flatMap xx)∧Clo qc .string (fT s) s'.2.2.1 s'.2.2.2.2.2.2) (fun s=>es1.length - s.1.length)
  ([],[],[],qQ tTx,none,0,[]) sR (fun w' hH hf=>⟨hH.off,Vis.nil,rfl,Own.nil,Clo.nil⟩) ?_
 rintro ⟨seen,xs,qs,y,p,c,R⟩ wA ⟨hV,hK,hO,hC⟩ hfA hHA KLA hKLA
 try dsimp only at hV hK hO hC
 have hql:qs.length=seen.length:=by
  have h1:=congrArg List.length hV.sn
  have h2:=congrArg List.length hK
  simp at h1 h2;omega
 have hsl:=hV.len hT.menc.born
 refine C.begin _ _ hfA hHA ?_
 try dsimp only
 refine sQ fun K6=>jb ?_
 refine YG 1 rfl (fun w' hH hf=>hM1 w' hf) hT.menc.lt (Nat.le_refl _) rfl rfl (fun hall=>?_) (fun xe hxe hns=>?_)
 ·refine jX (k:=K6 (sQ fun K7=>?_))
  refine jO rfl (jt (K4 (sQ fun K8=>sQ fun K9=>jb (jM (k:=jN (k:=jF 3 vl VE (k:=jL qaG hc0 3 (k:=?_))))))))
  have hV1:=hV
  have hK1:=hK
  have hO1:=hO
  have hC1:=hC
  have hall1:=hall
  obtain ⟨ks1,hks1,hkn1,hkm1⟩:=hV.keys hT.menc hall
  have hqk1:=qes hK hks1
  refine Xp VG (fun w' hH hf=>hM2 w' hf) rfl rfl fun it2=>?_
  refine K9 (jh ?_)
  refine jZ (σ:=List Nat×List MapEntry×List LbE×Ent×Option Addr×Nat×ko) (fun s=>[(4,.slice p qs.length c),(5,.slice s.2.2.2.2.1 s.2.2.1.length s.2.2.2.2.2.1),(32,ptr it2)])
   (fun s=>s.2.2.2.1::itM it2 m2 ck2 s.1 ck2::y::s.2.2.2.2.2.2) (fun s' _=>Vis es2 s'.2.1 s'.1∧s'.2.1.map (·.key)=(s'.2.2.1.map fun q=>Value.string q.1)∧Own tNu 2 s'.2.2.2.1 s'.2.2.2.2.1 s'.2.2.1.length s'.2.2.2.2.2.1 (s'.2.2.1.flatMap xx)∧Clo qd (.int .i64) (fN s) s'.2.2.1 s'.2.2.2.2.2.2∧∀z∈R,z∈s'.2.2.2.2.2.2) (fun s=>es2.length - s.1.length)
   ([],[],[],qQ tNu,none,0,itM it1 m1 ck1 seen ck1::R) sR (fun w' hH hf=>⟨hH.off,Vis.nil,rfl,Own.nil,Clo.nil,fun z hz=>List.mem_cons_of_mem _ hz⟩) ?_
  rintro ⟨seen2,xs2,qs2,y2,p2,c2,R2⟩ wB ⟨hV2,hK2,hO2,hC2,hR2⟩ hfB hHB KLB hKLB
  try dsimp only at hV2 hK2 hO2 hC2 hR2
  have hql2:qs2.length=seen2.length:=by
   have h1:=congrArg List.length hV2.sn
   have h2:=congrArg List.length hK2
   simp at h1 h2;omega
  have hsl2:=hV2.len hN.menc.born
  refine C.begin _ _ hfB hHB ?_
  try dsimp only
  refine sQ fun K10=>jb ?_
  refine YG 1 rfl (fun w' hH hf=>hM2 w' hf) hN.menc.lt (Nat.le_refl _) rfl rfl (fun hall=>?_) (fun xe hxe hns=>?_)
  ·refine jX (k:=K10 (sQ fun K11=>?_))
   refine jO rfl (jt (K8 (sQ fun K12=>jb (jM (k:=?_)))))
   obtain ⟨ks2,hks2,hkn2,hkm2⟩:=hV2.keys hN.menc hall
   have hqk2:=qes hK2 hks2
   refine qcA (F:=98) 2 rfl hO1 call98 (fun w hb=>qeb Tryz.sortTx XD zl call99 (fun x y W=>clo1_c x.1 y.1 _ _ _ _ _ _ W) w y p qs.length c qs hO1 hb (by rw[hqk1];exact hkn1) ox) rfl rfl fun v1 y1 ys1 hp1 hpw1 hOs1=>?_
   refine K12 (sQ fun K13=>jb (jM (k:=?_)))
   refine qcA (F:=101) 0 rfl hO2 call101 (fun w hb=>qeb Tryz.sortNu XC zk call102 (fun x y W=>clo2_c x.1 y.1 _ _ _ _ _ _ W) w y2 p2 qs2.length c2 qs2 hO2 hb (by rw[hqk2];exact hkn2) ox) rfl rfl fun v2 y3 ys2 hp2 hpw2 hOs2=>?_
   refine K13 (sQ fun K14=>jb (jM (k:=jM (k:=jA (k:=jA (k:=K14 (CJ.t [(2,_),(3,_)] (k:=jj ?_))))))))
   exact Vr results69 rfl rfl fun w' hH hf=>⟨⟨_,_,rfl,⟨ys1,hOs1.os hH (i:=2) rfl,hpw1,fun k=>by rw[(hp1.map _).mem_iff,hqk1,hkm1,hT.keys],qeE hC1 (fun z hz=>by simp[yn];exact .inr (.inr (.inr (hR2 z hz)))) hH hp1⟩,⟨ys2,hOs2.os hH (i:=0) rfl,hpw2,fun k=>by rw[(hp2.map _).mem_iff,hqk2,hkm2,hN.keys],qeE hC2 (fun z hz=>by simp[yn];exact .inr (.inr (.inr hz))) hH hp2⟩⟩,hf⟩
  ·refine jX (k:=K10 (sQ fun K15=>?_))
   refine ql rfl (jg (K15 (jh (sQ fun K16=>jb (jp rfl (fun a w ha hH hf=>Xi 1 rfl (fun w' hH hf=>hM2 w' hf) rfl hxe hN.menc.born ha hH hf) (jX (k:=?_)))))))
   obtain ⟨k,pv,cv,hxk,hfk,hxv,hov⟩:=hN.entry hxe
   refine jV hxk ?_
   refine jX (k:=?_)
   refine jV hxv ?_
   refine jA (k:=jA (k:=K16 (jb (jM (k:=jM (k:=?_))))))
   refine vw xI so2 rfl fun b40=>jM (k:=?_)
   refine Qm 0 rfl Own.empty xI el2 rfl rfl rfl hov rfl (fun z hz=>by obtain ⟨u, -,rfl⟩:=List.mem_map.1 hz;rfl) (by have:=hbn k hfk;omega) rfl fun y42 p42 c42 hO42=>?_
   refine jn rfl (fun _ _ h=>vb (cs:=[_,_]) bt112 rfl rfl h) (kj Vz zk ZX rfl rfl rfl rfl rfl fun b44=>?_)
   refine qY 1 rfl hO2 Vz el112 rfl rfl rfl rfl rfl ox rfl fun y45 p45 c45 hO45=>?_
   refine jA (k:=jw (Qq (ji ?_)))
   have hlt:seen2.length<es2.length:=by
    have:=(hV2.push hxe hns).len hN.menc.born
    simp at this;omega
   exact fun w' hH hf=>hKLB (seen2++[xe.born],xs2++[xe],qs2++[(k,p42,0+(fN s k).length,c42)],y45,p45,c45,y42::R2) _ w' ⟨hV2.push hxe hns,by simp[hK2,hxk],by simpa[xx,Value.cells]using hO45,by rw[Nat.zero_add]at hO42⊢;exact hC2.push (fun z hz=>List.mem_cons_of_mem _ hz) (List.Mem.head _) (by simpa using hO42),fun z hz=>List.mem_cons_of_mem _ (hR2 z hz)⟩ hf (Hp.rot4 hH) (by simp only[lA,List.length_singleton];omega) ⟨rfl,by simp only[lA,List.length_singleton];rfl,rfl,trivial⟩
 ·refine jX (k:=K6 (CJ.t [(0,_),(4,_),(5,_),(14,_),(16,_)] (k:=sQ fun K17=>?_)))
  refine ql rfl (jg (K17 (jh (sQ fun K18=>jb (jp rfl (fun a w ha hH hf=>Xi 1 rfl (fun w' hH hf=>hM1 w' hf) rfl hxe hT.menc.born ha hH hf) (jX (k:=?_)))))))
  obtain ⟨k,pv,cv,hxk,hfk,hxv,hov⟩:=hT.entry hxe
  refine jV hxk ?_
  refine jX (k:=?_)
  refine jV hxv ?_
  refine jA (k:=jA (k:=K18 (jb (jM (k:=jM (k:=?_))))))
  refine vw vG so9 rfl fun b22=>jM (k:=?_)
  refine Qm 0 rfl Own.empty vG el9 rfl rfl rfl hov rfl (fun z hz=>by obtain ⟨u, -,rfl⟩:=List.mem_map.1 hz;rfl) (by have:=hbt k hfk;omega) rfl fun y24 p24 c24 hO24=>?_
  refine jn rfl (fun _ _ h=>vb (cs:=[_,_]) bt109 rfl rfl h) (kj VA zl ZY rfl rfl rfl rfl rfl fun b26=>?_)
  refine qY 1 rfl hO VA el109 rfl rfl rfl rfl rfl ox rfl fun y27 p27 c27 hO27=>?_
  refine jA (k:=jw (Qq (ji ?_)))
  have hlt:seen.length<es1.length:=by
   have:=(hV.push hxe hns).len hT.menc.born
   simp at this;omega
  exact fun w' hH hf=>hKLA (seen++[xe.born],xs++[xe],qs++[(k,p24,0+(fT s k).length,c24)],y27,p27,c27,y24::R) _ w' ⟨hV.push hxe hns,by simp[hK,hxk],by simpa[xx,Value.cells]using hO27,by rw[Nat.zero_add]at hO24⊢;exact hC.push (fun z hz=>List.mem_cons_of_mem _ hz) (List.Mem.head _) (by simpa using hO24)⟩ hf (Hp.rot3 hH) (by simp only[lA,List.length_singleton];omega) ⟨rfl,by simp only[lA,List.length_singleton];rfl,rfl,rfl,trivial⟩
end Go.Proofs.YtifdadlhmlhfiaaGreatDoor
namespace Go.Fw
open Go
section
variable {P:Program} {n:Nat} {e:Env} {d ty:Nat} {pos:String} {af:Array Edge}
theorem qbS (dd t:Nat) (q:Addr) {te:TypeId} (hu:P.underlying t=some (.pointer te)) (w:World):(Op.equalIn (dd+1) t (.pointer none) (.pointer (some q))).run P w=.ok false w:=by
 simp[Op.equalIn,run_underlying hu]
theorem qkZ {t t':Nat} {x y:Operand} {q:Addr} {te:TypeId} (hu:P.underlying t=some (.pointer te)) (hx:ev e x=some (.pointer none)) (hy:ev e y=some (.pointer (some q))) {a:Act} {w:World} (ha:Sat n e a):
  (execOp a.eval ⟨some d,.binOp .eql t x y t',ty,pos,af,none⟩).run P w=.ok (.value (.bool false)) w:=by
 have h:(binOp .eql t (.pointer none) (.pointer (some q))).run P w=.ok (.bool false) w:=by
  simp only[binOp]
  simp[Op.equal,Op.maxDepth,qbS 9999 t q hu]
 simp only[execOp,ha.ev hx,ha.ev hy]
 simp[eqGuard,h]
end
end Go.Fw
namespace Go.Proofs.YtifdadlhmlhfiaaGreatDoor
open Go Go.Fw Go.Proofs Go.Proofs.Tryz
section
variable {P:Program} {n:Nat} {e:Env} {d ty:Nat} {pos:String} {af:Array Edge}
theorem qaZ {t t' T i b:Nat} {x y:Operand} {te:TypeId} {j:TypeInfo} {bs:List Nat} {z:Int} (hu:P.underlying t=some (.pointer te)) (hj:P.info? te=some j) (hs:j.size≠0) (hx:ev e x=some (qe bs z)) (hy:ev e y=some (ptr b)) (hb:bs[i]? =some b) (hn:bs.Nodup) (hz:z<bs.length) {a:Act} {w:World} (hB:∀c∈bs,∃cs,Blk w c T cs) (ha:Sat n e a):
  (execOp a.eval ⟨some d,.binOp .eql t x y t',ty,pos,af,none⟩).run P w=.ok (.value (.bool (decide (z=i)))) w:=by
 have hi:=(List.getElem?_eq_some_iff.1 hb).1
 by_cases h:0≤z
 ·have hzl:z.toNat<bs.length:=by omega
  have e1:qe bs z=ptr bs[z.toNat]:=by unfold qe;rw[if_pos h,gE hzl];rfl
  rw[e1]at hx
  obtain ⟨cs1,h1⟩:=hB _ (List.getElem_mem hzl)
  obtain ⟨cs2,h2⟩:=hB _ (mG hb)
  rw[qkY hu hj hs hx hy h1 h2 ha]
  have e2:b=bs[i]:=(List.getElem?_eq_some_iff.1 hb).2.symm
  congr 3
  rw[Bool.eq_iff_iff,decide_eq_true_eq,decide_eq_true_eq,e2]
  constructor
  ·intro e3;have:=zN hn hzl hi e3;omega
  ·intro e3;subst e3;congr 1
 ·have e1:qe bs z=.pointer none:=by unfold qe;rw[if_neg h]
  rw[e1]at hx
  rw[qkZ hu hx hy ha]
  congr 3
  rw[eq_comm,decide_eq_false_iff_not]
  omega
end
set_option maxHeartbeats 1000000 in
theorem qhE (w:World) (bs:List Nat) (tv:Value) (z:Int) (hO:OS xZ 1 w tv (bs.map ptr)) (hB:∀b∈bs,∃cs,Blk w b vO cs) (hn:bs.Nodup) (h1: -1≤z) (h2:z<bs.length) (hl:bs.length≤1000000):
  Calls Tryz.prog 66 #[tv,qe bs z] w (Ret fun v w'=>v=.int .i64 z∧Fr 0 [] w w'):=by
 obtain ⟨p,l,c,rfl,hll, -,hx⟩:=hO.openF
 obtain rfl:l=bs.length:=by simpa using hll.symm
 refine jr (args:=[_,_]) [(0,_),(1,_)] 0 [] [] Tryz.func66 rfl Tryz.ntmps66 rfl rfl .nil ?_
 refine sQ fun K1=>jb (jA (k:=K1 (sQ fun K2=>sQ fun K3=>jb (jM (k:=jE zn (k:=jM (k:=K3 (jh ?_))))))))
 refine jZ (σ:=Nat) (fun s=>[(0,.slice p bs.length c),(1,qe bs z),(7,.int .i64 (bs.length:Nat)),(8,.int .i64 (s:Nat))]) (fun _=>[]) (fun s _=>s≤bs.length∧(z<0∨(s:Int)≤z)) (fun s=>bs.length - s) 0 sR (fun w' hH hf=>⟨hH,Nat.zero_le _,by omega⟩) ?_
 rintro k wk ⟨hk,hkz⟩ hfk hHk KL hKL
 try dsimp only at hk hkz
 refine C.begin _ _ hfk hHk ?_
 try dsimp only
 refine sQ fun K4=>jb (jS (k:=K4 (sQ fun K5=>?_)))
 refine jq rfl (fun h9=>?_) (fun h9=>?_)
 ·have hk':k<bs.length:=by omega
  obtain ⟨bq,rfl,hsq⟩:=hx ox
  have hcell:∀w',Fm.ok ⟨w,0,[]⟩ w'→w'.cell? ⟨bq,0+k*1,none⟩=some (ptr bs[k]):=fun w' hf=>by
   have h:=hsq ⟨w,0,[]⟩ rfl rfl w' hf k (ptr bs[k]) (by rw[List.getElem?_map,gE hk'];rfl)
   simpa using h
  refine jg (K5 (sQ fun K6=>jh (sQ fun K7=>jb (jM (k:=jA (k:=K7 (sQ fun K8=>jb (jM (k:=jM (k:=jM (k:=jJ zn zT (k:=?_))))))))))))
  refine jp rfl (fun a w ha hH hf=>kP Qw rfl (hcell w hf) ha) ?_
  refine jp rfl (fun a w ha hH hf=>qaZ (i:=k) (T:=vO) qbK qkn qkl rfl rfl (gE hk') hn h2 (fun c hc=>by obtain ⟨cs,h⟩:=hB c hc;exact ⟨cs,jk hf rfl _ _ h⟩) ha) ?_
  refine K8 ?_
  refine jq rfl (fun hq=>?_) (fun hq=>?_)
  ·refine sQ fun K9=>jb (jM (k:=jA (k:=K9 (CJ.t [(4,_)] (k:=jj ?_)))))
   first
    |exact je Tryz.results66 rfl fun w' hH hf=>⟨by rw[hq],hf⟩
    |exact je Tryz.results66 rfl fun w' hH hf=>⟨by rw[hz],hf⟩
  ·refine jg (K6 (jb (jI (k:=jM (k:=jw (ji ?_))))))
   exact fun w' hH hf=>hKL (k+1) _ w' ⟨hk',by omega⟩ hf hH (by first|omega|(simp only;omega)) ⟨rfl,rfl,rfl,rfl,trivial⟩
 ·have hz:z= -1:=by omega
  refine jt (K2 (sQ fun K10=>jb (jA (k:=K10 (jj ?_)))))
  first
   |exact je Tryz.results66 rfl fun w' hH hf=>⟨by rw[hq],hf⟩
   |exact je Tryz.results66 rfl fun w' hH hf=>⟨by rw[hz],hf⟩
set_option maxHeartbeats 1000000 in
theorem qlG (w:World) (bs:List Nat) (tv:Value) (z:Int) (hO:OS yq 1 w tv (bs.map ptr)) (hB:∀b∈bs,∃cs,Blk w b xi cs) (hn:bs.Nodup) (h1: -1≤z) (h2:z<bs.length) (hl:bs.length≤1000000):
  Calls Tryz.prog 67 #[tv,qe bs z] w (Ret fun v w'=>v=.int .i64 z∧Fr 0 [] w w'):=by
 obtain ⟨p,l,c,rfl,hll, -,hx⟩:=hO.openF
 obtain rfl:l=bs.length:=by simpa using hll.symm
 refine jr (args:=[_,_]) [(0,_),(1,_)] 0 [] [] Tryz.func67 rfl Tryz.ntmps67 rfl rfl .nil ?_
 refine sQ fun K1=>jb (jA (k:=K1 (sQ fun K2=>sQ fun K3=>jb (jM (k:=jE ze (k:=jM (k:=K3 (jh ?_))))))))
 refine jZ (σ:=Nat) (fun s=>[(0,.slice p bs.length c),(1,qe bs z),(7,.int .i64 (bs.length:Nat)),(8,.int .i64 (s:Nat))]) (fun _=>[]) (fun s _=>s≤bs.length∧(z<0∨(s:Int)≤z)) (fun s=>bs.length - s) 0 sR (fun w' hH hf=>⟨hH,Nat.zero_le _,by omega⟩) ?_
 rintro k wk ⟨hk,hkz⟩ hfk hHk KL hKL
 try dsimp only at hk hkz
 refine C.begin _ _ hfk hHk ?_
 try dsimp only
 refine sQ fun K4=>jb (jS (k:=K4 (sQ fun K5=>?_)))
 refine jq rfl (fun h9=>?_) (fun h9=>?_)
 ·have hk':k<bs.length:=by omega
  obtain ⟨bq,rfl,hsq⟩:=hx ox
  have hcell:∀w',Fm.ok ⟨w,0,[]⟩ w'→w'.cell? ⟨bq,0+k*1,none⟩=some (ptr bs[k]):=fun w' hf=>by
   have h:=hsq ⟨w,0,[]⟩ rfl rfl w' hf k (ptr bs[k]) (by rw[List.getElem?_map,gE hk'];rfl)
   simpa using h
  refine jg (K5 (sQ fun K6=>jh (sQ fun K7=>jb (jM (k:=jA (k:=K7 (sQ fun K8=>jb (jM (k:=jM (k:=jM (k:=jJ ze zd (k:=?_))))))))))))
  refine jp rfl (fun a w ha hH hf=>kP Kv rfl (hcell w hf) ha) ?_
  refine jp rfl (fun a w ha hH hf=>qaZ (i:=k) (T:=xi) qaa qkm qkk rfl rfl (gE hk') hn h2 (fun c hc=>by obtain ⟨cs,h⟩:=hB c hc;exact ⟨cs,jk hf rfl _ _ h⟩) ha) ?_
  refine K8 ?_
  refine jq rfl (fun hq=>?_) (fun hq=>?_)
  ·refine sQ fun K9=>jb (jM (k:=jA (k:=K9 (CJ.t [(4,_)] (k:=jj ?_)))))
   first
    |exact je Tryz.results67 rfl fun w' hH hf=>⟨by rw[hq],hf⟩
    |exact je Tryz.results67 rfl fun w' hH hf=>⟨by rw[hz],hf⟩
  ·refine jg (K6 (jb (jI (k:=jM (k:=jw (ji ?_))))))
   exact fun w' hH hf=>hKL (k+1) _ w' ⟨hk',by omega⟩ hf hH (by first|omega|(simp only;omega)) ⟨rfl,rfl,rfl,rfl,trivial⟩
 ·have hz:z= -1:=by omega
  refine jt (K2 (sQ fun K10=>jb (jA (k:=K10 (jj ?_)))))
  first
   |exact je Tryz.results67 rfl fun w' hH hf=>⟨by rw[hq],hf⟩
   |exact je Tryz.results67 rfl fun w' hH hf=>⟨by rw[hz],hf⟩
set_option maxHeartbeats 1000000 in
theorem qlF (w:World) (bs:List Nat) (tv:Value) (z:Int) (hO:OS vD 1 w tv (bs.map ptr)) (hB:∀b∈bs,∃cs,Blk w b qH cs) (hn:bs.Nodup) (h1: -1≤z) (h2:z<bs.length) (hl:bs.length≤1000000):
  Calls Tryz.prog 68 #[tv,qe bs z] w (Ret fun v w'=>v=.int .i64 z∧Fr 0 [] w w'):=by
 obtain ⟨p,l,c,rfl,hll, -,hx⟩:=hO.openF
 obtain rfl:l=bs.length:=by simpa using hll.symm
 refine jr (args:=[_,_]) [(0,_),(1,_)] 0 [] [] Tryz.func68 rfl Tryz.ntmps68 rfl rfl .nil ?_
 refine sQ fun K1=>jb (jA (k:=K1 (sQ fun K2=>sQ fun K3=>jb (jM (k:=jE xw (k:=jM (k:=K3 (jh ?_))))))))
 refine jZ (σ:=Nat) (fun s=>[(0,.slice p bs.length c),(1,qe bs z),(7,.int .i64 (bs.length:Nat)),(8,.int .i64 (s:Nat))]) (fun _=>[]) (fun s _=>s≤bs.length∧(z<0∨(s:Int)≤z)) (fun s=>bs.length - s) 0 sR (fun w' hH hf=>⟨hH,Nat.zero_le _,by omega⟩) ?_
 rintro k wk ⟨hk,hkz⟩ hfk hHk KL hKL
 try dsimp only at hk hkz
 refine C.begin _ _ hfk hHk ?_
 try dsimp only
 refine sQ fun K4=>jb (jS (k:=K4 (sQ fun K5=>?_)))
 refine jq rfl (fun h9=>?_) (fun h9=>?_)
 ·have hk':k<bs.length:=by omega
  obtain ⟨bq,rfl,hsq⟩:=hx ox
  have hcell:∀w',Fm.ok ⟨w,0,[]⟩ w'→w'.cell? ⟨bq,0+k*1,none⟩=some (ptr bs[k]):=fun w' hf=>by
   have h:=hsq ⟨w,0,[]⟩ rfl rfl w' hf k (ptr bs[k]) (by rw[List.getElem?_map,gE hk'];rfl)
   simpa using h
  refine jg (K5 (sQ fun K6=>jh (sQ fun K7=>jb (jM (k:=jA (k:=K7 (sQ fun K8=>jb (jM (k:=jM (k:=jM (k:=jJ xw JW (k:=?_))))))))))))
  refine jp rfl (fun a w ha hH hf=>kP VO rfl (hcell w hf) ha) ?_
  refine jp rfl (fun a w ha hH hf=>qaZ (i:=k) (T:=qH) qkf nf137 ns137 rfl rfl (gE hk') hn h2 (fun c hc=>by obtain ⟨cs,h⟩:=hB c hc;exact ⟨cs,jk hf rfl _ _ h⟩) ha) ?_
  refine K8 ?_
  refine jq rfl (fun hq=>?_) (fun hq=>?_)
  ·refine sQ fun K9=>jb (jM (k:=jA (k:=K9 (CJ.t [(4,_)] (k:=jj ?_)))))
   first
    |exact je Tryz.results68 rfl fun w' hH hf=>⟨by rw[hq],hf⟩
    |exact je Tryz.results68 rfl fun w' hH hf=>⟨by rw[hz],hf⟩
  ·refine jg (K6 (jb (jI (k:=jM (k:=jw (ji ?_))))))
   exact fun w' hH hf=>hKL (k+1) _ w' ⟨hk',by omega⟩ hf hH (by first|omega|(simp only;omega)) ⟨rfl,rfl,rfl,rfl,trivial⟩
 ·have hz:z= -1:=by omega
  refine jt (K2 (sQ fun K10=>jb (jA (k:=K10 (jj ?_)))))
  first
   |exact je Tryz.results68 rfl fun w' hH hf=>⟨by rw[hq],hf⟩
   |exact je Tryz.results68 rfl fun w' hH hf=>⟨by rw[hz],hf⟩
end Go.Proofs.YtifdadlhmlhfiaaGreatDoor
namespace Go.Fw
open Go
variable {w:World}
section
variable {P:Program} {Q:Exit→Act→World→Prop} {n:Nat} {f:Fm} {e:Env} {H:ko}
theorem Zs {fn:Func} {R:Value→World→Prop} {s T m:Nat} {b:Nat} {vs:List Value} (hres:fn.results= #[.cell s T]) (hag:∀w,(isAgg T).run P w=.ok true w) (hsz:∀w,(sizeOf T).run P w=.ok m w) (hvm:vs.length=m)
  (hs:look e s=some (.pointer (some ⟨b,0,none⟩))) (hb:∀w,Hp f w H→f.ok w→∃U,Blk w b U vs) (h:∀w,Hp f w H→f.ok w→R (.agg vs.toArray) w):
  EJ (bodyPost P fn (Ret R)) .ret n f e H:=fun w hH hf a ha=>by
 refine ⟨ha.defs,_,?_,h w hH hf⟩
 have h2:=ha.has s _ hs
 obtain ⟨U,hbk⟩:=hb w hH hf
 have h3:=vX (P:=P) (b:=b) w vs 0 hbk.cells
 simp only[results,hres]
 simp[Array.getD_eq_getD_getElem?,h2,asAddr,loadVar,hag,hsz, ← hvm,h3]
end
theorem Hp.sw2 {f:Fm} {a b c:Ent} {R:ko} (h:Hp f w (a::b::c::R)):Hp f w (a::c::b::R):=Go.Proofs.YtifdadlhmlhfiaaGreatDoor.Hp.rot3 (Hp.swap h)
theorem Hp.head2 {f:Fm} {a b:Ent} {R:ko} (h:Hp f w (a::b::R)):Hp f w [a,b]:=⟨h.1,h.2.1,fun he z hz hze=>h.2.2.1 he z (by simp at hz;subst hz;simp) hze,h.2.2.2.1,h.2.2.2.2.1,fun _ z hz=>(by cases hz),trivial⟩
theorem qhK {B:Nat} {w':World} (h:Fr B [] w w'):Fr 0 [] w w':=⟨h.os,h.tape,h.output,h.size,fun b o hb _=>h.keep b o hb (.inr zp)⟩
theorem JP {α:Type} {xs:List α} {c:α→List Value} {k:Nat} (hk:k<xs.length):(xs.take (k+1)).flatMap c=(xs.take k).flatMap c++c xs[k]:=by
 rw[← tG hk,List.flatMap_append];simp
end Go.Fw
namespace Go.Proofs.YtifdadlhmlhfiaaGreatDoor
open Go Go.Fw Go.Proofs Go.Proofs.Tryz
variable {g:G} {fs:List Fld} {W:List Nat} {B j k n:Nat} {s:ku} {w w':World}
abbrev tIP:Nat:=31
abbrev tTy:Nat:=29
abbrev tMp:Nat:=73
abbrev tFn:Nat:=80
abbrev tLc:Nat:=77
abbrev tLn:Nat:=114
abbrev Yp:Nat:=3
abbrev tSm:Nat:=57
def cTyI (t:xn):List Value:=[.string t.ty,.string t.unit]
def qdM (m:qK):List Value:=[.int .u64 m.id,.int .u64 m.start,.int .u64 m.limit,.int .u64 m.offset,.string m.file,.string m.build,.bool m.fu,.bool m.fi,.bool m.li,.bool m.inl]
def qdN (f:yl):List Value:=[.int .u64 f.id,.string f.name,.string f.system,.string f.file,.int .i64 f.start]
def KV (n:vz):List Value:=[.int .i64 n.fn,.int .i64 n.line]
def JM (q:vP×Value):List Value:=[.int .u64 q.1.id,.int .i64 q.1.mapping,.int .u64 q.1.addr,q.2]
structure SV where (st vs tx nu:Value)
def ZO (q:ku×SV):List Value:=[q.2.st,q.2.vs,q.2.tx,q.2.nu]
structure SmV (w:World) (q:ku×SV):Prop where
 st:OS Yp 1 w q.2.st (q.1.stack.map (.int .i64))
 vs:OS qd 1 w q.2.vs (q.1.values.map (.int .i64))
 tx:TxV w q.2.tx q.1
 nu:NuV w q.2.nu q.1
def LcsV (w:World) (qs:List (vP×Value)):Prop:=∀q∈qs,OS tLn 2 w q.2 (q.1.lines.flatMap KV)
def qir (w:World) (qs:List (ku×SV)):Prop:=∀q∈qs,SmV w q
theorem SmV.mono {q:ku×SV} (h:SmV w q) (k1:∀b cs,Blk w b Yp cs→Blk w' b Yp cs) (k2:∀b cs,Blk w b qd cs→Blk w' b qd cs) (k3:∀b cs,Blk w b tTx cs→Blk w' b tTx cs) (k4:∀b cs,Blk w b qc cs→Blk w' b qc cs) (k5:∀b cs,Blk w b tNu cs→Blk w' b tNu cs):SmV w' q:=
 ⟨h.st.mono k1,h.vs.mono k2,h.tx.mono k3 k4,h.nu.mono k5 k2⟩
def cOP (x:jD) (vT vS vM vL vF vC:Value) (p:xn):List Value:=[vT,.string x.deflt,vS,vM,vL,vF,vC,.string x.drop,.string x.keep,.int .i64 x.time,.int .i64 x.dur,.int .i64 x.period,.string p.ty,.string p.unit]
abbrev vN:Value:=.slice none 0 0
abbrev zIP:List Value:=[.slice none 0 0,.string ⟨#[]⟩,.slice none 0 0,.slice none 0 0,.slice none 0 0,.slice none 0 0,.slice none 0 0,.string ⟨#[]⟩,.string ⟨#[]⟩,.int .i64 0,.int .i64 0,.int .i64 0,.string ⟨#[]⟩,.string ⟨#[]⟩]
abbrev eI (b T:Nat) (cs:List Value):Ent:=⟨b,T,cs,true,true,none⟩
structure PV (w:World) (x:jD) (vT vM vF vL vC:Value):Prop where
 ty:OS tTy 2 w vT (x.types.flatMap cTyI)
 mp:OS tMp 10 w vM (x.mappings.flatMap qdM)
 fn:OS tFn 5 w vF (x.funcs.flatMap qdN)
 lc:∃lq:List (vP×Value),lq.map (·.1)=x.locs∧OS tLc 4 w vL (lq.flatMap JM)∧LcsV w lq
 co:OS qc 1 w vC (x.comments.map .string)
theorem PV.fr {x:jD} {vT vM vF vL vC:Value} (h:PV w x vT vM vF vL vC) (k:Fr B W w w') (hW:([tTy,tMp,tFn,tLc,tLn,qc].all fun T=>W.all fun t=> !Nat.beq t T)=true):PV w' x vT vM vF vL vC:=by
 simp only[List.all_cons,List.all_nil,Bool.and_true,Bool.and_eq_true]at hW
 obtain ⟨h1,h2,h3,h4,h5,h6⟩:=hW
 obtain ⟨lq,e,h7,h8⟩:=h.lc
 exact ⟨h.ty.mono (jk k h1),h.mp.mono (jk k h2),h.fn.mono (jk k h3),⟨lq,e,h7.mono (jk k h4),fun q hq=>(h8 q hq).mono (jk k h5)⟩,h.co.mono (jk k h6)⟩
theorem qir.fr {qs:List (ku×SV)} (h:qir w qs) (k:Fr B W w w') (hW:([Yp,qd,tTx,qc,tNu].all fun T=>W.all fun t=> !Nat.beq t T)=true):qir w' qs:=fun q hq=>by
 simp only[List.all_cons,List.all_nil,Bool.and_true,Bool.and_eq_true]at hW
 obtain ⟨h1,h2,h3,h4,h5⟩:=hW
 exact (h q hq).mono (jk k h1) (jk k h2) (jk k h3) (jk k h4) (jk k h5)
theorem Own.osM {T sz l c:Nat} {y:Ent} {p:Option Addr} {xs:List Value} {f:Fm} {H:ko} (h:Own T sz y p l c xs) (hH:Hp f w H) (hy:y∈H):OS T sz w (.slice p l c) xs:=
 ⟨y,p,l,c,rfl,h,fun ho=>by have:=hH.blk hy ho;rw[h.hT]at this;exact this⟩
def qiu (w:World) (cs:List Value) (x:jD):Prop:=∃vT vS vM vL vF vC sq,cs=cOP x vT vS vM vL vF vC x.per∧PV w x vT vM vF vL vC∧(sq:List (ku×SV)).map (·.1)=x.samples∧OS tSm 4 w vS (sq.flatMap ZO)∧qir w sq
set_option maxHeartbeats 4000000 in
theorem qiK (B:Nat) (w:World) (x:jD) (g:G) (hQ:OfQ B w x g) (hx:Pln x):Calls Tryz.prog 28 #[ptr g.pb] w (Ret fun v w'=>(∃cs,v=.agg (List.toArray cs)∧qiu w' cs x)∧Fr 0 [] w w'):=by
 obtain ⟨tyv,sav,mav,lov,fuv,cov,hpf,hty,hsa,hma,hlo,hfu,hco⟩:=hQ.prof
 obtain ⟨p1,l1,c1,rfl,hl1, -,hx1⟩:=hty.openF
 obtain ⟨p2,l2,c2,rfl,hl2, -,hx2⟩:=hsa.openF
 obtain ⟨p3,l3,c3,rfl,hl3, -,hx3⟩:=hma.openF
 obtain ⟨p4,l4,c4,rfl,hl4, -,hx4⟩:=hlo.openF
 obtain ⟨p5,l5,c5,rfl,hl5, -,hx5⟩:=hfu.openF
 obtain ⟨p6,l6,c6,rfl,hl6, -, -⟩:=hco.openF
 obtain rfl:l1=x.types.length:=by have:=hQ.types.1;simp at hl1;omega
 obtain rfl:l2=x.samples.length:=by have:=hQ.sams.1;simp at hl2;omega
 obtain rfl:l3=x.mappings.length:=by have:=hQ.maps.1;simp at hl3;omega
 obtain rfl:l4=x.locs.length:=by have:=hQ.locs.1;simp at hl4;omega
 obtain rfl:l5=x.funcs.length:=by have:=hQ.funs.1;simp at hl5;omega
 obtain rfl:l6=x.comments.length:=by simp at hl6;omega
 have hc0:=mc (f:=⟨w,w.heap.size,[]⟩) hpf rfl
 have hcp:=mc (f:=⟨w,w.heap.size,[]⟩) hQ.per rfl
 have hn1:=hx.ntyp
 have hn2:=hx.nsam
 have hn6:=hx.ncom
 have hn3:=hx.nm
 have hn5:=hx.nf
 have hn4:=hx.nl
 have hBm:∀b∈g.maps,∃cs,Blk w b vO cs:=qE.all (hQ.maps.mono (ψ:=fun b _=>∃cs,Blk w b vO cs) fun b m h=>⟨_,h⟩)
 have hBf:∀b∈g.funs,∃cs,Blk w b xi cs:=qE.all (hQ.funs.mono (ψ:=fun b _=>∃cs,Blk w b xi cs) fun b m h=>⟨_,h⟩)
 have hBl:∀b∈g.locs,∃cs,Blk w b qH cs:=qE.all (hQ.locs.mono (ψ:=fun b _=>∃cs,Blk w b qH cs) fun b m h=>by obtain ⟨ls,h1, -⟩:=h.ex;exact ⟨_,h1⟩)
 refine jr (args:=[_]) [(0,_)] w.heap.size [] [] Tryz.func28 rfl Tryz.ntmps28 rfl rfl .nil ?_
 refine sQ fun K1=>jb (jW (zs:=[(.slice none 0 0),(.string ⟨#[]⟩),(.slice none 0 0),(.slice none 0 0),(.slice none 0 0),(.slice none 0 0),(.slice none 0 0),(.string ⟨#[]⟩),(.string ⟨#[]⟩),(.int .i64 0),(.int .i64 0),(.int .i64 0),(.string ⟨#[]⟩),(.string ⟨#[]⟩)]) ZF rfl fun b2=>K1 ?_)
 refine qeF ((fun s:{q:Nat×Ent×Option Addr×Nat//Own qc 1 q.2.1 q.2.2.1 x.comments.length q.2.2.2 (x.comments.map .string)}=>[(0,ptr g.pb),(2,ptr b2),(3,ptr s.1.1)])) ((fun s=>[eI s.1.1 tIP (cOP x vN vN vN vN vN (.slice s.1.2.2.1 x.comments.length s.1.2.2.2) ⟨eB,eB⟩),eI b2 tIP zIP,s.1.2.1])) (fun KJ hKJ=>?_) (fun b3=>?_)
 ·refine qcO 33 31 (lts [0,1,2,3,5,6,7,8,10,11,12,13,14,15,16,17,18,19,20,21,22,23,24,25,26,27,28,29]++(4,false)::((9,false)::(lts [30]++(31,false)::(32,false)::[]))) [] rfl (by kernel_rfl) (by kernel_rfl) ?_
  refine vf rfl rfl (jd [] rfl) (fun _ _ h=>vm rfl h) (vf rfl rfl (jd [] rfl) (fun _ _ h=>yG rfl h) (vf rfl rfl (jd [] rfl) (fun _ _ h=>xR (q:=1) (ft:=9) jz rfl so9 rfl h) (Va rfl rfl (jd [] rfl) (fun a w ha hS=>kP ag9 rfl (hc0 w (hS.2) 1 _ rfl) ha) (vf rfl rfl (jd [] rfl) (fun _ _ h=>vm rfl h) (vf rfl rfl (jd [] rfl) (fun _ _ h=>yG rfl h) (vf rfl rfl (jd [] rfl) (fun _ _ h=>xR (q:=6) (ft:=27) jz rfl xH rfl h) (Va rfl rfl (jd [] rfl) (fun a w ha hS=>kP yv rfl (hc0 w (hS.2) 6 _ rfl) ha) (vf rfl rfl (jd [] rfl) (fun _ _ h=>vm rfl h) (vf rfl rfl (jd [] rfl) (fun _ _ h=>yG rfl h) (vf rfl rfl (jd [] rfl) (fun _ _ h=>xR (q:=7) (ft:=9) jz rfl so9 rfl h) (Va rfl rfl (jd [] rfl) (fun a w ha hS=>kP ag9 rfl (hc0 w (hS.2) 7 _ rfl) ha) (vf rfl rfl (jd [] rfl) (fun _ _ h=>vm rfl h) (vf rfl rfl (jd [] rfl) (fun _ _ h=>yG rfl h) ?_)))))))))))))
  refine vf rfl rfl (jd [] rfl) (fun _ _ h=>xR (q:=8) (ft:=9) jz rfl so9 rfl h) (Va rfl rfl (jd [] rfl) (fun a w ha hS=>kP ag9 rfl (hc0 w (hS.2) 8 _ rfl) ha) (vf rfl rfl (jd [] rfl) (fun _ _ h=>vm rfl h) (vf rfl rfl (jd [] rfl) (fun _ _ h=>yG rfl h) (vf rfl rfl (jd [] rfl) (fun _ _ h=>xR (q:=9) (ft:=2) jz rfl so2 rfl h) (Va rfl rfl (jd [] rfl) (fun a w ha hS=>kP ag2 rfl (hc0 w (hS.2) 9 _ rfl) ha) (vf rfl rfl (jd [] rfl) (fun _ _ h=>vm rfl h) (vf rfl rfl (jd [] rfl) (fun _ _ h=>yG rfl h) (vf rfl rfl (jd [] rfl) (fun _ _ h=>xR (q:=10) (ft:=2) jz rfl so2 rfl h) (Va rfl rfl (jd [] rfl) (fun a w ha hS=>kP ag2 rfl (hc0 w (hS.2) 10 _ rfl) ha) (vf rfl rfl (jd [] rfl) (fun _ _ h=>vm rfl h) (vf rfl rfl (jd [] rfl) (fun _ _ h=>yG rfl h) (vf rfl rfl (jd [] rfl) (fun _ _ h=>xR (q:=12) (ft:=2) jz rfl so2 rfl h) (Va rfl rfl (jd [] rfl) (fun a w ha hS=>kP ag2 rfl (hc0 w (hS.2) 12 _ rfl) ha) ?_)))))))))))))
  refine qbz rfl rfl rfl (fun K2 hK2=>?_) (fun K2 hK2=>?_)
  ·refine jW (zs:=[(.slice none 0 0),(.string ⟨#[]⟩),(.slice none 0 0),(.slice none 0 0),(.slice none 0 0),(.slice none 0 0),(.slice none 0 0),(.string ⟨#[]⟩),(.string ⟨#[]⟩),(.int .i64 0),(.int .i64 0),(.int .i64 0),(.string ⟨#[]⟩),(.string ⟨#[]⟩)]) ZF rfl fun b3=>jw (ji (hK2 _ _ (jd [] rfl) ?_));clear hK2 K2
   refine dE (h:=fun Kd=>vw vG so9 rfl fun b24=>Kd (sb []) (dE (h:=fun Kd=>?_)))
   first|refine Qm 0 rfl Own.empty vG el9 rfl rfl rfl hco rfl (fun z hz=>by obtain ⟨u, -,rfl⟩:=List.mem_map.1 hz;rfl) ox rfl fun y29 p29 c29 hO29=>?_|refine Qm 1 rfl Own.empty vG el9 rfl rfl rfl hco rfl (fun z hz=>by obtain ⟨u, -,rfl⟩:=List.mem_map.1 hz;rfl) ox rfl fun y29 p29 c29 hO29=>?_
   refine Kd (sb []) ?_
   rw[Nat.zero_add,List.nil_append]at hO29
   first|refine zi (u:=.slice p29 x.comments.length c29) (by rw[Nat.zero_add]) ?_|refine qdK (u:=.slice p29 x.comments.length c29) (by rw[Nat.zero_add]) ?_
   refine jo rfl rfl (jd [] rfl) (fun _ _ h=>vb (cs:=[(.slice none 0 0),_,(.slice none 0 0),(.slice none 0 0),(.slice none 0 0),(.slice none 0 0),_,_,_,_,_,_,(.string ⟨#[]⟩),(.string ⟨#[]⟩)]) qlX rfl rfl h) (dE (h:=fun Kd=>jB [_,_,_,_,_,_,_,_,_,_,_,_,_,_] (_::_::_::_) 1 yJ (k:=Kd (sb []) (QZ ?_))))
   first
    |exact ji (hKJ ⟨(b3,y29,p29,c29),hO29⟩ _ _ ⟨rfl,rfl,rfl,trivial⟩ fun w h=>Hp.sw2 h)
    |exact ji (hKJ ⟨(b3,y29,p29,c29),hO29⟩ _ _ ⟨rfl,rfl,rfl,trivial⟩ fun w h=>Hp.rot3 h)
  ·refine vw vG so9 rfl fun b24=>jw (ji (hK2 _ _ (jd [] rfl) ?_));clear hK2 K2
   refine qbz rfl rfl rfl (fun K2 hK2=>?_) (fun K2 hK2=>?_)
   ·refine jW (zs:=[(.slice none 0 0),(.string ⟨#[]⟩),(.slice none 0 0),(.slice none 0 0),(.slice none 0 0),(.slice none 0 0),(.slice none 0 0),(.string ⟨#[]⟩),(.string ⟨#[]⟩),(.int .i64 0),(.int .i64 0),(.int .i64 0),(.string ⟨#[]⟩),(.string ⟨#[]⟩)]) ZF rfl fun b3=>jw (ji (hK2 _ _ (jd [] rfl) ?_));clear hK2 K2
    refine dE (h:=fun Kd=>?_)
    first|refine Qm 0 rfl Own.empty vG el9 rfl rfl rfl hco rfl (fun z hz=>by obtain ⟨u, -,rfl⟩:=List.mem_map.1 hz;rfl) ox rfl fun y29 p29 c29 hO29=>?_|refine Qm 1 rfl Own.empty vG el9 rfl rfl rfl hco rfl (fun z hz=>by obtain ⟨u, -,rfl⟩:=List.mem_map.1 hz;rfl) ox rfl fun y29 p29 c29 hO29=>?_
    refine Kd (sb []) ?_
    rw[Nat.zero_add,List.nil_append]at hO29
    first|refine zi (u:=.slice p29 x.comments.length c29) (by rw[Nat.zero_add]) ?_|refine qdK (u:=.slice p29 x.comments.length c29) (by rw[Nat.zero_add]) ?_
    refine jo rfl rfl (jd [] rfl) (fun _ _ h=>vb (cs:=[(.slice none 0 0),_,(.slice none 0 0),(.slice none 0 0),(.slice none 0 0),(.slice none 0 0),_,_,_,_,_,_,(.string ⟨#[]⟩),(.string ⟨#[]⟩)]) qlX rfl rfl h) (dE (h:=fun Kd=>jB [_,_,_,_,_,_,_,_,_,_,_,_,_,_] (_::_::_::_) 0 yJ (k:=Kd (sb []) (QZ ?_))))
    first
     |exact ji (hKJ ⟨(b3,y29,p29,c29),hO29⟩ _ _ ⟨rfl,rfl,rfl,trivial⟩ fun w h=>Hp.sw2 h)
     |exact ji (hKJ ⟨(b3,y29,p29,c29),hO29⟩ _ _ ⟨rfl,rfl,rfl,trivial⟩ fun w h=>Hp.rot3 h)
   ·first|refine Qm 0 rfl Own.empty vG el9 rfl rfl rfl hco rfl (fun z hz=>by obtain ⟨u, -,rfl⟩:=List.mem_map.1 hz;rfl) ox rfl fun y29 p29 c29 hO29=>?_|refine Qm 1 rfl Own.empty vG el9 rfl rfl rfl hco rfl (fun z hz=>by obtain ⟨u, -,rfl⟩:=List.mem_map.1 hz;rfl) ox rfl fun y29 p29 c29 hO29=>?_
    refine jw (ji (hK2 _ _ (jd [] rfl) ?_));clear hK2 K2
    rw[Nat.zero_add,List.nil_append]at hO29
    first|refine zi (u:=.slice p29 x.comments.length c29) (by rw[Nat.zero_add]) ?_|refine qdK (u:=.slice p29 x.comments.length c29) (by rw[Nat.zero_add]) ?_
    refine vf rfl rfl (jd [] rfl) (fun _ _ h=>vb (cs:=[(.slice none 0 0),_,(.slice none 0 0),(.slice none 0 0),(.slice none 0 0),(.slice none 0 0),_,_,_,_,_,_,(.string ⟨#[]⟩),(.string ⟨#[]⟩)]) qlX rfl rfl h) ?_
    refine qkv rfl fun K2 hK2=>?_
    refine jW (zs:=[(.slice none 0 0),(.string ⟨#[]⟩),(.slice none 0 0),(.slice none 0 0),(.slice none 0 0),(.slice none 0 0),(.slice none 0 0),(.string ⟨#[]⟩),(.string ⟨#[]⟩),(.int .i64 0),(.int .i64 0),(.int .i64 0),(.string ⟨#[]⟩),(.string ⟨#[]⟩)]) ZF rfl fun b3=>jw (ji (hK2 _ _ (jd [] rfl) ?_));clear hK2 K2
    refine dE (h:=fun Kd=>jB [_,_,_,_,_,_,_,_,_,_,_,_,_,_] (_::_::_::_) 0 yJ (k:=Kd (sb []) (QZ ?_)))
    first
     |exact ji (hKJ ⟨(b3,y29,p29,c29),hO29⟩ _ _ ⟨rfl,rfl,rfl,trivial⟩ fun w h=>Hp.sw2 h)
     |exact ji (hKJ ⟨(b3,y29,p29,c29),hO29⟩ _ _ ⟨rfl,rfl,rfl,trivial⟩ fun w h=>Hp.rot3 h)
 ·obtain ⟨⟨b3,yC,pC,cC⟩,hOC⟩:=b3
  replace hOC:Own qc 1 yC pC x.comments.length cC (x.comments.map .string):=hOC
  refine qP fun K2 hK2=>sQ fun K3=>jb (jM (k:=jN (k:=jF 11 jz yO (k:=jL Jp hc0 11 (k:=?_)))))
  refine jn rfl (fun _ _ h=>zJ YO rfl h) (K3 (CJ.t [(0,_),(2,_),(3,_),(55,_)] (k:=?_)))
  refine ql rfl (jC 17 (lts [0,1,2,3,4,5,6,7,8,9,10,11,12,13,14,15]++(16,false)::[]) [] rfl (by kernel_rfl) (by kernel_rfl) (dM [] (k:=dN [] (k:=dF [] 11 jz yO (k:=dL [] Jp hc0 11 (k:=dN [] (k:=dF [] 0 xF so9 (k:=dL [] ag9 hcp 0 (k:=dM [] (k:=dN [] (k:=dF [] 11 jz yO (k:=dL [] Jp hc0 11 (k:=dN [] (k:=?_))))))))))))))
  refine dF [] 1 xF so9 (k:=dL [] ag9 hcp 1 (k:=?_))
  refine jo rfl rfl (jd [] rfl) (fun _ _ h=>vb (cs:=[_,_]) bt29 rfl rfl h) (dF [] 12 kW zq (k:=dE (h:=fun Kd=>jB [_,_,_,_,_,_,_,_,_,_,_,_,_,_] (_::_::_::_) 0 zq (k:=Kd (sb []) (QZ (ji (hK2 _ _ _ (CJ.t [(0,_),(2,_),(3,_)] (k:=sQ fun K4=>sQ fun K5=>jb (jM (k:=jN (k:=jF 0 jz JA (k:=?_)))))))))))))
  refine jL Qx hc0 0 (k:=jE zV (k:=jM (k:=K5 (jh ?_))))
  refine jZ (σ:=Nat×Ent×Option Addr×Nat) (fun s=>[(0,ptr g.pb),(2,ptr b2),(3,ptr b3),(75,.slice p1 x.types.length c1),(76,.int .i64 (x.types.length:Nat)),(77,.int .i64 (s.1:Nat))])
   (fun s=>s.2.1::eI b3 tIP (cOP x (.slice s.2.2.1 s.1 s.2.2.2) (vN) (vN) (vN) (vN) (.slice pC x.comments.length cC) x.per)::eI b2 tIP zIP::[yC])
   (fun s _=>s.1≤x.types.length∧Own tTy 2 s.2.1 s.2.2.1 s.1 s.2.2.2 ((x.types.take s.1).flatMap cTyI)) (fun s=>x.types.length - s.1)
   (0,qQ tTy,none,0) sR (fun w' hH hf=>⟨Hp.off hH,Nat.zero_le _,Own.nil⟩) ?_
  rintro ⟨k1,y1,q1,d1⟩ w1 ⟨hk1,hO1⟩ hf1 hH1 KL1 hKL1
  try dsimp only at hk1 hO1
  refine C.begin _ _ hf1 hH1 ?_
  try dsimp only
  refine sQ fun K6=>jb (jS (k:=K6 (sQ fun K7=>?_)))
  refine jq rfl (fun h78=>?_) (fun h78=>?_)
  ·have hk':k1<x.types.length:=by omega
   obtain ⟨bq,rfl,hsq⟩:=hx1 ox
   have hkb:k1<g.types.length:=by rw[hQ.types.1];exact hk'
   have hst:=hQ.types.2 _ _ _ (gE hkb) (gE hk')
   have hcell:∀w',Fm.ok ⟨w,w.heap.size,[]⟩ w'→w'.cell? ⟨bq,0+k1*1,none⟩=some (ptr g.types[k1]):=fun w' hf=>by
    have h:=hsq ⟨w,w.heap.size,[]⟩ rfl rfl w' hf k1 (ptr g.types[k1]) (by rw[List.getElem?_map,gE hkb];rfl)
    simpa using h
   have hcm:=mc (f:=⟨w,w.heap.size,[]⟩) (T:=tVT) hst rfl
   refine jg (K7 (sQ fun K8=>jh (sQ fun K9=>jb (jJ zV yO (k:=?_)))))
   refine jp rfl (fun a w ha hH hf=>kP Jp rfl (hcell w hf) ha) (jA (k:=K9 ?_))
   refine jC 14 (lts [0,1,2,3,4,5,6,7,8,9,10]++(11,false)::((12,false)::(lts [13]++(14,false)::[]))) [1] rfl (by kernel_rfl) (by kernel_rfl) (dF [1] 0 kW Yq (k:=dH [1] 0 ZR (k:=dM [1] (k:=dN [1] (k:=dF [1] 0 xF so9 (k:=dL [1] ag9 hcm 0 (k:=dM [1] (k:=dN [1] (k:=dF [1] 1 xF so9 (k:=dL [1] ag9 hcm 1 (k:=?_)))))))))))
   refine jo rfl rfl (jd [1] rfl) (fun _ _ h=>vb (cs:=[_,_]) bt29 rfl rfl h) (dE (h:=fun Kd=>kj KI zq qkF rfl rfl rfl rfl rfl fun b92=>Kd (sb [2]) (dE (h:=fun Kd=>?_))))
   refine qY 0 rfl hO1 KI el29 rfl rfl rfl rfl rfl ox rfl fun y93 p93 c93 hO93=>?_
   refine Kd (sb [1]) (dF [1] 0 kW Yq (k:=dE (h:=fun Kd=>jB [_,_,_,_,_,_,_,_,_,_,_,_,_,_] (_::_::_) 1 Yq (k:=Kd (.inl rfl) (K8 (CJ.t [(0,_),(2,_),(3,_),(75,_),(76,_),(77,_)] (k:=jb (jI (k:=jM (k:=jw (ji ?_)))))))))))
   exact fun w' hH hf=>hKL1 (k1+1,y93,p93,c93) _ w' ⟨hk',by rw[JP hk'];exact hO93⟩ hf hH (by simp only;omega) sR
  ·have hke1:k1=x.types.length:=by omega
   rw[tL ox]at hO1
   refine jt (K4 (sQ fun K10=>sQ fun K11=>jb (jM (k:=jN (k:=jF 3 jz zD (k:=jL KX hc0 3 (k:=jE zn (k:=jM (k:=K11 (jh ?_))))))))))
   refine jZ (σ:=Nat×Ent×Option Addr×Nat) (fun s=>[(0,ptr g.pb),(2,ptr b2),(3,ptr b3),(99,.slice p3 x.mappings.length c3),(100,.int .i64 (x.mappings.length:Nat)),(101,.int .i64 (s.1:Nat))])
    (fun s=>s.2.1::eI b3 tIP (cOP x (.slice q1 k1 d1) (vN) (.slice s.2.2.1 s.1 s.2.2.2) (vN) (vN) (.slice pC x.comments.length cC) x.per)::eI b2 tIP zIP::y1::[yC])
    (fun s _=>s.1≤x.mappings.length∧Own tMp 10 s.2.1 s.2.2.1 s.1 s.2.2.2 ((x.mappings.take s.1).flatMap qdM)) (fun s=>x.mappings.length - s.1)
    (0,qQ tMp,none,0) sR (fun w' hH hf=>⟨Hp.off (Hp.rot3 hH),Nat.zero_le _,Own.nil⟩) ?_
   rintro ⟨k3,y3,q3,d3⟩ w3 ⟨hk3,hO3⟩ hf3 hH3 KL3 hKL3
   try dsimp only at hk3 hO3
   refine C.begin _ _ hf3 hH3 ?_
   try dsimp only
   refine sQ fun K12=>jb (jS (k:=K12 (sQ fun K13=>?_)))
   refine jq rfl (fun h102=>?_) (fun h102=>?_)
   ·have hk':k3<x.mappings.length:=by omega
    obtain ⟨bq,rfl,hsq⟩:=hx3 ox
    have hkb:k3<g.maps.length:=by rw[hQ.maps.1];exact hk'
    have hst:=hQ.maps.2 _ _ _ (gE hkb) (gE hk')
    have hcell:∀w',Fm.ok ⟨w,w.heap.size,[]⟩ w'→w'.cell? ⟨bq,0+k3*1,none⟩=some (ptr g.maps[k3]):=fun w' hf=>by
     have h:=hsq ⟨w,w.heap.size,[]⟩ rfl rfl w' hf k3 (ptr g.maps[k3]) (by rw[List.getElem?_map,gE hkb];rfl)
     simpa using h
    have hcm:=mc (f:=⟨w,w.heap.size,[]⟩) (T:=vO) hst rfl
    refine jg (K13 (sQ fun K14=>jh (sQ fun K15=>jb (jJ zn zT (k:=?_)))))
    refine jp rfl (fun a w ha hH hf=>kP Qw rfl (hcell w hf) ha) (jA (k:=K15 ?_))
    refine jC 46 (lts [0,1,2,3,4,5,6,7,8,9,10,11,12,13,14,15,16,17,18,19,20,21,22,23,24,25,26,27,28,29,30,31,32,33,34,35,36,37,38,39,40,41,42]++(43,false)::((44,false)::(lts [45]++(46,false)::[]))) [1] rfl (by kernel_rfl) (by kernel_rfl) (dF [1] 3 kW QB (k:=dH [1] 0 Yw (k:=dM [1] (k:=dN [1] (k:=dF [1] 0 vg kU (k:=dL [1] vy hcm 0 (k:=dM [1] (k:=dN [1] (k:=dF [1] 1 vg kU (k:=dL [1] vy hcm 1 (k:=dM [1] (k:=dN [1] (k:=dF [1] 2 vg kU (k:=?_))))))))))))))
    refine dL [1] vy hcm 2 (k:=dM [1] (k:=dN [1] (k:=dF [1] 3 vg kU (k:=dL [1] vy hcm 3 (k:=dM [1] (k:=dN [1] (k:=dF [1] 4 vg so9 (k:=dL [1] ag9 hcm 4 (k:=dM [1] (k:=dN [1] (k:=dF [1] 5 vg so9 (k:=dL [1] ag9 hcm 5 (k:=dM [1] (k:=?_))))))))))))))
    refine dN [1] (k:=dF [1] 6 vg so4 (k:=dL [1] ag4 hcm 6 (k:=dM [1] (k:=dN [1] (k:=dF [1] 7 vg so4 (k:=dL [1] ag4 hcm 7 (k:=dM [1] (k:=dN [1] (k:=dF [1] 8 vg so4 (k:=dL [1] ag4 hcm 8 (k:=dM [1] (k:=dN [1] (k:=dF [1] 9 vg so4 (k:=?_))))))))))))))
    refine dL [1] ag4 hcm 9 (k:=?_)
    refine jo rfl rfl (jd [1] rfl) (fun _ _ h=>vb (cs:=[_,_,_,_,_,_,_,_,_,_]) bt73 rfl rfl h) (dE (h:=fun Kd=>kj JH Ky qeS rfl rfl rfl rfl rfl fun b148=>Kd (sb [2]) (dE (h:=fun Kd=>?_))))
    refine qY 0 rfl hO3 JH qjL rfl rfl rfl rfl rfl ox rfl fun y149 p149 c149 hO149=>?_
    refine Kd (sb [1]) (dF [1] 3 kW QB (k:=dE (h:=fun Kd=>jB [_,_,_,_,_,_,_,_,_,_,_,_,_,_] (_::_::_) 1 QB (k:=Kd (.inl rfl) (K14 (CJ.t [(0,_),(2,_),(3,_),(99,_),(100,_),(101,_)] (k:=jb (jI (k:=jM (k:=jw (ji ?_)))))))))))
    exact fun w' hH hf=>hKL3 (k3+1,y149,p149,c149) _ w' ⟨hk',by rw[JP hk'];exact hO149⟩ hf hH (by simp only;omega) sR
   ·have hke3:k3=x.mappings.length:=by omega
    rw[tL ox]at hO3
    refine jt (K10 (sQ fun K16=>sQ fun K17=>jb (jM (k:=jN (k:=jF 5 jz zw (k:=jL Kw hc0 5 (k:=jE ze (k:=jM (k:=K17 (jh ?_))))))))))
    refine jZ (σ:=Nat×Ent×Option Addr×Nat) (fun s=>[(0,ptr g.pb),(2,ptr b2),(3,ptr b3),(155,.slice p5 x.funcs.length c5),(156,.int .i64 (x.funcs.length:Nat)),(157,.int .i64 (s.1:Nat))])
     (fun s=>s.2.1::eI b3 tIP (cOP x (.slice q1 k1 d1) (vN) (.slice q3 k3 d3) (vN) (.slice s.2.2.1 s.1 s.2.2.2) (.slice pC x.comments.length cC) x.per)::eI b2 tIP zIP::y3::y1::[yC])
     (fun s _=>s.1≤x.funcs.length∧Own tFn 5 s.2.1 s.2.2.1 s.1 s.2.2.2 ((x.funcs.take s.1).flatMap qdN)) (fun s=>x.funcs.length - s.1)
     (0,qQ tFn,none,0) sR (fun w' hH hf=>⟨Hp.off (Hp.rot3 hH),Nat.zero_le _,Own.nil⟩) ?_
    rintro ⟨k5,y5,q5,d5⟩ w5 ⟨hk5,hO5⟩ hf5 hH5 KL5 hKL5
    try dsimp only at hk5 hO5
    refine C.begin _ _ hf5 hH5 ?_
    try dsimp only
    refine sQ fun K18=>jb (jS (k:=K18 (sQ fun K19=>?_)))
    refine jq rfl (fun h158=>?_) (fun h158=>?_)
    ·have hk':k5<x.funcs.length:=by omega
     obtain ⟨bq,rfl,hsq⟩:=hx5 ox
     have hkb:k5<g.funs.length:=by rw[hQ.funs.1];exact hk'
     have hst:=hQ.funs.2 _ _ _ (gE hkb) (gE hk')
     have hcell:∀w',Fm.ok ⟨w,w.heap.size,[]⟩ w'→w'.cell? ⟨bq,0+k5*1,none⟩=some (ptr g.funs[k5]):=fun w' hf=>by
      have h:=hsq ⟨w,w.heap.size,[]⟩ rfl rfl w' hf k5 (ptr g.funs[k5]) (by rw[List.getElem?_map,gE hkb];rfl)
      simpa using h
     have hcm:=mc (f:=⟨w,w.heap.size,[]⟩) (T:=xi) hst rfl
     refine jg (K19 (sQ fun K20=>jh (sQ fun K21=>jb (jJ ze zd (k:=?_)))))
     refine jp rfl (fun a w ha hH hf=>kP Kv rfl (hcell w hf) ha) (jA (k:=K21 ?_))
     refine jC 26 (lts [0,1,2,3,4,5,6,7,8,9,10,11,12,13,14,15,16,17,18,19,20,21,22]++(23,false)::((24,false)::(lts [25]++(26,false)::[]))) [1] rfl (by kernel_rfl) (by kernel_rfl) (dF [1] 5 kW Qz (k:=dH [1] 0 Yu (k:=dM [1] (k:=dN [1] (k:=dF [1] 0 xc kU (k:=dL [1] vy hcm 0 (k:=dM [1] (k:=dN [1] (k:=dF [1] 1 xc so9 (k:=dL [1] ag9 hcm 1 (k:=dM [1] (k:=dN [1] (k:=dF [1] 2 xc so9 (k:=?_))))))))))))))
     refine dL [1] ag9 hcm 2 (k:=dM [1] (k:=dN [1] (k:=dF [1] 3 xc so9 (k:=dL [1] ag9 hcm 3 (k:=dM [1] (k:=dN [1] (k:=dF [1] 4 xc so2 (k:=dL [1] ag2 hcm 4 (k:=?_)))))))))
     refine jo rfl rfl (jd [1] rfl) (fun _ _ h=>vb (cs:=[_,_,_,_,_]) bt80 rfl rfl h) (dE (h:=fun Kd=>kj JF Kx qeR rfl rfl rfl rfl rfl fun b184=>Kd (sb [2]) (dE (h:=fun Kd=>?_))))
     refine qY 0 rfl hO5 JF qjJ rfl rfl rfl rfl rfl ox rfl fun y185 p185 c185 hO185=>?_
     refine Kd (sb [1]) (dF [1] 5 kW Qz (k:=dE (h:=fun Kd=>jB [_,_,_,_,_,_,_,_,_,_,_,_,_,_] (_::_::_) 1 Qz (k:=Kd (.inl rfl) (K20 (CJ.t [(0,_),(2,_),(3,_),(155,_),(156,_),(157,_)] (k:=jb (jI (k:=jM (k:=jw (ji ?_)))))))))))
     exact fun w' hH hf=>hKL5 (k5+1,y185,p185,c185) _ w' ⟨hk',by rw[JP hk'];exact hO185⟩ hf hH (by simp only;omega) sR
    ·have hke5:k5=x.funcs.length:=by omega
     rw[tL ox]at hO5
     refine jt (K16 (sQ fun K22=>sQ fun K23=>jb (jM (k:=jN (k:=jF 4 jz xq (k:=jL zY hc0 4 (k:=jE xw (k:=jM (k:=K23 (jh ?_))))))))))
     refine jZ (σ:=Nat×Ent×Option Addr×Nat×List (vP×Value)×ko) (fun s=>[(0,ptr g.pb),(2,ptr b2),(3,ptr b3),(191,.slice p4 x.locs.length c4),(192,.int .i64 (x.locs.length:Nat)),(193,.int .i64 (s.1:Nat))])
      (fun s=>s.2.1::eI b3 tIP (cOP x (.slice q1 k1 d1) (vN) (.slice q3 k3 d3) (.slice s.2.2.1 s.1 s.2.2.2.1) (.slice q5 k5 d5) (.slice pC x.comments.length cC) x.per)::eI b2 tIP zIP::s.2.2.2.2.2)
      (fun s _=>s.1≤x.locs.length∧s.2.2.2.2.1.map (·.1)=x.locs.take s.1∧Own tLc 4 s.2.1 s.2.2.1 s.1 s.2.2.2.1 (s.2.2.2.2.1.flatMap JM)∧(∀q∈s.2.2.2.2.1,∃z∈s.2.2.2.2.2,∃p c,q.2=.slice p q.1.lines.length c∧Own tLn 2 z p q.1.lines.length c (q.1.lines.flatMap KV))∧∀z∈[y5,y3,y1,yC],z∈s.2.2.2.2.2) (fun s=>x.locs.length - s.1)
      (0,qQ tLc,none,0,[],[y5,y3,y1,yC]) sR (fun w' hH hf=>⟨Hp.off (Hp.rot3 hH),Nat.zero_le _,rfl,Own.nil,fun q hq=>(by cases hq),fun z hz=>hz⟩) ?_
     rintro ⟨k4,y4,q4,d4,lq,RL⟩ w4 ⟨hk4,hlq,hO4,hLQ,hRL⟩ hf4 hH4 KL4 hKL4
     try dsimp only at hk4 hlq hO4 hLQ hRL
     refine C.begin _ _ hf4 hH4 ?_
     try dsimp only
     refine sQ fun K24=>jb (jS (k:=K24 (sQ fun K25=>?_)))
     refine jq rfl (fun h194=>?_) (fun h194=>?_)
     ·have hk':k4<x.locs.length:=by omega
      obtain ⟨bq,rfl,hsq⟩:=hx4 ox
      have hkb:k4<g.locs.length:=by rw[hQ.locs.1];exact hk'
      obtain ⟨lsv,hst,hls⟩:=(hQ.locs.2 _ _ _ (gE hkb) (gE hk')).ex
      obtain ⟨pL,lL,cL,rfl,hlL, -,hLx⟩:=hls.openF
      obtain rfl:lL=x.locs[k4].lines.length:=by rw[qw (c:=qk g.funs) (sz:=3) (fun _=>rfl)]at hlL;omega
      have hcell:∀w',Fm.ok ⟨w,w.heap.size,[]⟩ w'→w'.cell? ⟨bq,0+k4*1,none⟩=some (ptr g.locs[k4]):=fun w' hf=>by
       have h:=hsq ⟨w,w.heap.size,[]⟩ rfl rfl w' hf k4 (ptr g.locs[k4]) (by rw[List.getElem?_map,gE hkb];rfl)
       simpa using h
      have hcl:=mc (f:=⟨w,w.heap.size,[]⟩) (T:=qH) hst rfl
      obtain ⟨⟨hm1,hm2⟩,hl60,hln⟩:=hx.locs _ (List.getElem_mem hk')
      refine jg (K25 (sQ fun K26=>jh (sQ fun K27=>jb (jJ xw JW (k:=?_)))))
      refine jp rfl (fun a w ha hH hf=>kP VO rfl (hcell w hf) ha) (jA (k:=K27 ?_))
      refine qeF ((fun b12:Nat=>[(0,ptr g.pb),(2,ptr b2),(3,ptr b3),(11,ptr g.locs[k4]),(12,ptr b12),(191,.slice (some ⟨bq,0,none⟩) x.locs.length c4),(192,.int .i64 (x.locs.length:Nat)),(193,.int .i64 (k4:Nat))])) ((fun b12:Nat=>eI b12 tLc [.int .u64 x.locs[k4].id,.int .i64 x.locs[k4].mapping,.int .u64 x.locs[k4].addr,vN]::y4::eI b3 tIP (cOP x (.slice q1 k1 d1) (vN) (.slice q3 k3 d3) (.slice q4 k4 d4) (.slice q5 k5 d5) (.slice pC x.comments.length cC) x.per)::eI b2 tIP zIP::RL)) (fun KJ hKJ=>?_) (fun b12=>?_)
      ·refine qcO 20 18 (lts [0,1,2,3,4,5,6,7,8,9,10,11,13,14,15,16]++(12,false)::(lts [17]++(18,false)::(19,false)::[])) [] rfl (by kernel_rfl) (by kernel_rfl) ?_
       refine vf rfl rfl (jd [] rfl) (fun _ _ h=>vm rfl h) (vf rfl rfl (jd [] rfl) (fun _ _ h=>yG rfl h) (vf rfl rfl (jd [] rfl) (fun _ _ h=>xR (q:=0) (ft:=71) vc rfl kU rfl h) (Va rfl rfl (jd [] rfl) (fun a w ha hS=>kP vy rfl (hcl w (hS.2) 0 _ rfl) ha) (vf rfl rfl (jd [] rfl) (fun _ _ h=>vm rfl h) (vf rfl rfl (jd [] rfl) (fun _ _ h=>yG rfl h) (vf rfl rfl (jd [] rfl) (fun _ _ h=>xR (q:=3) (ft:=120) jz rfl zD rfl h) (Va rfl rfl (jd [] rfl) (fun a w ha hS=>kP KX rfl (hc0 w (hS.2) 3 _ rfl) ha) (vf rfl rfl (jd [] rfl) (fun _ _ h=>vm rfl h) (vf rfl rfl (jd [] rfl) (fun _ _ h=>yG rfl h) (vf rfl rfl (jd [] rfl) (fun _ _ h=>xR (q:=1) (ft:=128) vc rfl zT rfl h) (Va rfl rfl (jd [] rfl) (fun a w ha hS=>kP Qw rfl (hcl w (hS.2) 1 _ rfl) ha) (vf rfl rfl (jd [] rfl) (fun _ _ h=>vm rfl h) (vf rfl rfl (jd [] rfl) (fun _ _ h=>yG rfl h) ?_)))))))))))))
       refine vf rfl rfl (jd [] rfl) (fun _ _ h=>xR (q:=2) (ft:=71) vc rfl kU rfl h) (Va rfl rfl (jd [] rfl) (fun a w ha hS=>kP vy rfl (hcl w (hS.2) 2 _ rfl) ha) ?_)
       refine qbz rfl rfl rfl (fun K2 hK2=>?_) (fun K2 hK2=>?_)
       ·refine jW (zs:=[(.int .u64 0),(.int .i64 0),(.int .u64 0),(.slice none 0 0)]) YL rfl fun b12=>jw (ji (hK2 _ _ (jd [] rfl) ?_));clear hK2 K2
        refine dE (h:=fun Kd=>?_)
        refine kg (φ:=fun v=>v=.int .i64 x.locs[k4].mapping) Tryz.call66 rfl rfl (fun w3 hH hf=>qhE w3 g.maps _ x.locs[k4].mapping (hma.mono (jk hf rfl)) (fun b hb=>by obtain ⟨cs,h⟩:=hBm b hb;exact ⟨cs,jk hf rfl _ _ h⟩) hQ.nmaps hm1 (by rw[hQ.maps.1];exact hm2) (by rw[hQ.maps.1];omega)) fun v hv=>?_
        subst hv
        refine Kd (sb []) (jo rfl rfl (jd [] rfl) (fun _ _ h=>vb (cs:=[_,_,_,(.slice none 0 0)]) bt77 rfl rfl h) (dE (h:=fun Kd=>jB [_,_,_,_] (_::_::_::_::_) 0 zg (k:=Kd (sb []) (QZ ?_)))))
        exact ji (hKJ b12 _ _ ⟨rfl,rfl,rfl,rfl,rfl,rfl,rfl,rfl,trivial⟩ fun w h=>h)
       ·refine kg (φ:=fun v=>v=.int .i64 x.locs[k4].mapping) Tryz.call66 rfl rfl (fun w3 hH hf=>qhE w3 g.maps _ x.locs[k4].mapping (hma.mono (jk hf rfl)) (fun b hb=>by obtain ⟨cs,h⟩:=hBm b hb;exact ⟨cs,jk hf rfl _ _ h⟩) hQ.nmaps hm1 (by rw[hQ.maps.1];exact hm2) (by rw[hQ.maps.1];omega)) fun v hv=>?_
        subst hv
        refine jw (ji (hK2 _ _ (jd [] rfl) ?_));clear hK2 K2
        refine vf rfl rfl (jd [] rfl) (fun _ _ h=>vb (cs:=[_,_,_,(.slice none 0 0)]) bt77 rfl rfl h) ?_
        refine qkv rfl fun K2 hK2=>?_
        refine jW (zs:=[(.int .u64 0),(.int .i64 0),(.int .u64 0),(.slice none 0 0)]) YL rfl fun b12=>jw (ji (hK2 _ _ (jd [] rfl) ?_));clear hK2 K2
        refine dE (h:=fun Kd=>jB [_,_,_,_] (_::_::_::_::_) 0 zg (k:=Kd (sb []) (QZ ?_)))
        exact ji (hKJ b12 _ _ ⟨rfl,rfl,rfl,rfl,rfl,rfl,rfl,rfl,trivial⟩ fun w h=>h)
      ·refine sQ fun K28=>sQ fun K29=>jb (jM (k:=jN (k:=jF 3 vc xW (k:=jL zX hcl 3 (k:=jE xX (k:=jM (k:=K29 (CJ.t [(0,_),(2,_),(3,_),(12,_),(191,_),(192,_),(193,_),(218,_),(219,_),(220,_)] (k:=jh ?_)))))))))
       refine jZ (σ:=Nat×Ent×Option Addr×Nat) (fun s=>[(0,ptr g.pb),(2,ptr b2),(3,ptr b3),(12,ptr b12),(191,.slice (some ⟨bq,0,none⟩) x.locs.length c4),(192,.int .i64 (x.locs.length:Nat)),(193,.int .i64 (k4:Nat)),(218,.slice pL x.locs[k4].lines.length cL),(219,.int .i64 (x.locs[k4].lines.length:Nat)),(220,.int .i64 (s.1:Nat))])
        (fun s=>s.2.1::eI b12 tLc [.int .u64 x.locs[k4].id,.int .i64 x.locs[k4].mapping,.int .u64 x.locs[k4].addr,.slice s.2.2.1 s.1 s.2.2.2]::y4::eI b3 tIP (cOP x (.slice q1 k1 d1) (vN) (.slice q3 k3 d3) (.slice q4 k4 d4) (.slice q5 k5 d5) (.slice pC x.comments.length cC) x.per)::eI b2 tIP zIP::RL)
        (fun s _=>s.1≤x.locs[k4].lines.length∧Own tLn 2 s.2.1 s.2.2.1 s.1 s.2.2.2 ((x.locs[k4].lines.take s.1).flatMap KV)) (fun s=>x.locs[k4].lines.length - s.1)
        (0,qQ tLn,none,0) sR (fun w' hH hf=>⟨Hp.off hH,Nat.zero_le _,Own.nil⟩) ?_
       rintro ⟨j,yj,qj,dj⟩ wj ⟨hj,hOj⟩ hfj hHj KLj hKLj
       try dsimp only at hj hOj
       refine C.begin _ _ hfj hHj ?_
       try dsimp only
       refine sQ fun K30=>jb (jS (k:=K30 (sQ fun K31=>?_)))
       refine jq rfl (fun h221=>?_) (fun h221=>?_)
       ·have hj':j<x.locs[k4].lines.length:=by omega
        obtain ⟨bl,rfl,hlc⟩:=hLx ox
        obtain ⟨hfn1,hfn2⟩:=hln _ (List.getElem_mem hj')
        have hcr:∀w',Fm.ok ⟨w,w.heap.size,[]⟩ w'→∀(i:Nat) (u:Value),(qk g.funs x.locs[k4].lines[j])[i]? =some u→w'.cell? ⟨bl,0+j*3+i,none⟩=some u:=fun w' hf i u hu=>by rw[Nat.zero_add];exact hlc ⟨w,w.heap.size,[]⟩ rfl rfl w' hf _ _ (xg (c:=qk g.funs) (sz:=3) (fun _=>rfl) (gE hj') i u hu)
        refine jg (K31 (sQ fun K32=>jh (sQ fun K33=>jb (jJ xX xE (k:=?_)))))
        refine jp rfl (fun a w ha hH hf=>kD (vs:=qk g.funs x.locs[k4].lines[j]) Yo xE rfl rfl (hcr w hf) ha) (jW (zs:=[(.pointer none),(.int .i64 0),(.int .u64 0)]) QH rfl fun b14=>jB [_,_,_] (_::_::_::_::_::_::_) 0 xE (k:=K33 ?_))
        refine jC 15 (lts [0,1,2,3,4,5,6,7,9,10]++(8,false)::(lts [11]++(12,false)::((13,false)::(lts [14]++(15,false)::[])))) [2,0] rfl (by kernel_rfl) (by kernel_rfl) (dF [2,0] 3 zr Vx (k:=dH [2,0] 0 Yt (k:=dM [2,0] (k:=dN [2,0] (k:=dF [2,0] 5 jz zw (k:=dL [2,0] Kw hc0 5 (k:=dF [2,0] 0 Jj zd (k:=dH [2,0] 1 Kv (k:=dF [2,0] 1 Jj so2 (k:=dH [2,0] 1 ag2 (k:=dE (h:=fun Kd=>?_))))))))))))
        refine kg (φ:=fun v=>v=.int .i64 x.locs[k4].lines[j].fn) Tryz.call67 rfl rfl (fun w3 hH hf=>qlG w3 g.funs _ x.locs[k4].lines[j].fn (hfu.mono (jk hf rfl)) (fun b hb=>by obtain ⟨cs,h⟩:=hBf b hb;exact ⟨cs,jk hf rfl _ _ h⟩) hQ.nfuns hfn1 (by rw[hQ.funs.1];exact hfn2) (by rw[hQ.funs.1];omega)) fun v hv=>?_
        subst hv
        refine Kd (sb [2,0]) (jo rfl rfl (jd [2,0] rfl) (fun _ _ h=>vb (cs:=[_,_]) bt114 rfl rfl h) (dE (h:=fun Kd=>kj Kz zU qdU rfl rfl rfl rfl rfl fun b236=>Kd (sb [3,1]) (dE (h:=fun Kd=>?_)))))
        refine qY 1 rfl hOj Kz qku rfl rfl rfl rfl rfl ox rfl fun y237 p237 c237 hO237=>?_
        refine Kd (sb [2,0]) (dF [2,0] 3 zr Vx (k:=dE (h:=fun Kd=>jB [_,_,_,_] (_::_::_::_::_::_::_) 2 Vx (k:=Kd (.inl rfl) (K32 (CJ.t [(0,_),(2,_),(3,_),(12,_),(191,_),(192,_),(193,_),(218,_),(219,_),(220,_)] (k:=jb (jI (k:=jM (k:=jw (ji ?_)))))))))))
        exact fun w' hH hf=>hKLj (j+1,y237,p237,c237) _ w' ⟨hj',by rw[JP hj'];exact hO237⟩ hf (hH.drop 0) (by simp only;omega) sR
       ·have hje:j=x.locs[k4].lines.length:=by omega
        subst hje
        rw[tL (Nat.le_refl _)]at hOj
        clear hKLj hj h221
        refine jt (K28 (jb (jF 4 kW QA (k:=jH 3 Yv (k:=?_)))))
        refine jp rfl (fun a w ha hH hf=>vo (vs:=[_,_,_,_]) 1 rfl rfl XA zg rfl rfl rfl ha hH) (kj JG zg YL rfl rfl rfl rfl rfl fun b243=>?_)
        refine qY 2 rfl hO4 JG qjK rfl rfl rfl rfl rfl ox rfl fun y244 p244 c244 hO244=>?_
        refine jF 4 kW QA (k:=jB [_,_,_,_,_,_,_,_,_,_,_,_,_,_] (_::_::_::_::_::_) 3 QA (k:=K26 (jb (jI (k:=jM (k:=jw (ji ?_)))))))
        exact fun w' hH hf=>hKL4 (k4+1,y244,p244,c244,lq++[(x.locs[k4],.slice qj x.locs[k4].lines.length dj)],yj::RL) _ w' ⟨hk',by rw[List.map_append,hlq, ← tG hk'];rfl,by rw[List.flatMap_append];exact hO244,fun q hq=>by
          rcases mA hq with hq|hq
          ·obtain ⟨z,hz,h⟩:=hLQ q hq
           exact ⟨z,List.mem_cons_of_mem _ hz,h⟩
          ·simp at hq;subst hq
           exact ⟨yj,List.Mem.head _,qj,dj,rfl,hOj⟩,fun z hz=>List.mem_cons_of_mem _ (hRL z hz)⟩ hf (Hp.rot4 (hH.drop 1)) (by simp only;omega) ⟨rfl,rfl,rfl,rfl,rfl,rfl,trivial⟩
     ·have hke4:k4=x.locs.length:=by omega
      subst hke4
      rw[tL (Nat.le_refl _)]at hlq
      clear hKL4 hk4 h194
      refine jt (K22 (CJ.t [(0,_),(2,_),(3,_)] (k:=sQ fun K34=>sQ fun K35=>jb (jM (k:=jN (k:=jF 2 jz Jz (k:=jL VP hc0 2 (k:=jE JB (k:=jM (k:=K35 (jh ?_)))))))))))
      intro v5 hH5' hf5'
      have hPV:PV v5 x (.slice q1 k1 d1) (.slice q3 k3 d3) (.slice q5 k5 d5) (.slice q4 x.locs.length d4) (.slice pC x.comments.length cC):=⟨?h1,?h2,?h3,⟨lq,hlq,hO4.os hH5' (i:=0) rfl,fun q hq=>?h4⟩,?h5⟩
      case h1=>exact Own.osM hO1 hH5' (by simp only[List.mem_cons];exact .inr (.inr (.inr (hRL y1 zp))))
      case h2=>exact Own.osM hO3 hH5' (by simp only[List.mem_cons];exact .inr (.inr (.inr (hRL y3 zp))))
      case h3=>exact Own.osM hO5 hH5' (by simp only[List.mem_cons];exact .inr (.inr (.inr (hRL y5 zp))))
      case h4=>
       obtain ⟨z,hz,p,c,e,h⟩:=hLQ q hq
       rw[e]
       exact Own.osM h hH5' (by simp only[List.mem_cons];exact .inr (.inr (.inr hz)))
      case h5=>exact Own.osM hOC hH5' (by simp only[List.mem_cons];exact .inr (.inr (.inr (hRL yC zp))))
      refine vk (σ:=Nat×List (ku×SV)×Ent×Option Addr×Nat) (fun s=>[(0,ptr g.pb),(2,ptr b2),(3,ptr b3),(250,.slice p2 x.samples.length c2),(251,.int .i64 (x.samples.length:Nat)),(252,.int .i64 (s.1:Nat))])
       (fun s w'=>s.1≤x.samples.length∧Hp ⟨w,w.heap.size,[]⟩ w' [s.2.2.1,eI b3 tIP (cOP x (.slice q1 k1 d1) (.slice s.2.2.2.1 s.1 s.2.2.2.2) (.slice q3 k3 d3) (.slice q4 x.locs.length d4) (.slice q5 k5 d5) (.slice pC x.comments.length cC) x.per),eI b2 tIP zIP]∧Fm.ok ⟨w,w.heap.size,[]⟩ w'∧PV w' x (.slice q1 k1 d1) (.slice q3 k3 d3) (.slice q5 k5 d5) (.slice q4 x.locs.length d4) (.slice pC x.comments.length cC)∧s.2.1.map (·.1)=x.samples.take s.1∧Own tSm 4 s.2.2.1 s.2.2.2.1 s.1 s.2.2.2.2 (s.2.1.flatMap ZO)∧qir w' s.2.1) (fun s=>x.samples.length - s.1)
       (0,[],qQ tSm,none,0) sR ⟨Nat.zero_le _,Hp.off (Hp.head2 (hH5'.drop 0)),hf5',hPV,rfl,Own.nil,fun q hq=>(by cases hq)⟩ ?_
      clear hPV hH5' hf5'
      rintro ⟨k2,sq,y2,q2,d2⟩ u2 ⟨hk2,hHu,hfu,hPV,hsq2,hO2,hSM⟩ KL2 hKL2
      try dsimp only at hk2 hHu hfu hPV hsq2 hO2 hSM
      have hsz:w.heap.size≤u2.heap.size:=hfu.size
      have hc0:=mc (f:=⟨u2,w.heap.size,[tSm,tIP]⟩) (jk hfu rfl _ _ hpf) rfl
      refine C.begin ⟨u2,w.heap.size,[tSm,tIP]⟩ [y2,eI b3 tIP (cOP x (.slice q1 k1 d1) (.slice q2 k2 d2) (.slice q3 k3 d3) (.slice q4 x.locs.length d4) (.slice q5 k5 d5) (.slice pC x.comments.length cC) x.per),eI b2 tIP zIP] jx (Hp.again (Nat.le_refl _) hHu (yV.own (.row (.row .nil rfl) rfl) hO2 rfl)) ?_
      try dsimp only
      refine sQ fun K36=>jb (jS (k:=K36 (sQ fun K37=>?_)))
      refine jq rfl (fun h253=>?_) (fun h253=>?_)
      ·have hk':k2<x.samples.length:=by omega
       obtain ⟨bq,rfl,hsq⟩:=hx2 ox
       have hkb:k2<g.sams.length:=by rw[hQ.sams.1];exact hk'
       have hSQ:=hQ.sams.2 _ _ _ (gE hkb) (gE hk')
       have hSQu:KY u2 g.locs g.sams[k2] x.samples[k2]:=hSQ.mono (fun cs=>jk hfu rfl _ cs) (jk hfu rfl) (jk hfu rfl) (jk hfu rfl) fun b es ck h=>yo hfu rfl es ck h
       obtain ⟨ls,vs,lm,nm,iv,xv,hst,hls,hvs, -⟩:=id hSQu
       obtain ⟨pS,lS,cS,rfl,hlS, -,hSx⟩:=hls.openF
       obtain rfl:lS=x.samples[k2].stack.length:=by simpa using hlS.symm
       obtain ⟨pV,lV,cV,rfl,hlV, -, -⟩:=hvs.openF
       obtain rfl:lV=x.samples[k2].values.length:=by simpa using hlV.symm
       obtain ⟨hval,hs60,hLab,hsk⟩:=hx.samples _ (List.getElem_mem hk')
       have hcell:∀w',Fm.ok ⟨u2,w.heap.size,[tSm,tIP]⟩ w'→w'.cell? ⟨bq,0+k2*1,none⟩=some (ptr g.sams[k2]):=fun w' hf=>by
        have hfw:Fm.ok ⟨w,w.heap.size,[tSm,tIP]⟩ w':=Fr.trans (hfu.mono (.inl (Nat.le_refl _))) hf (.inl (Nat.le_refl _))
        have h:=hsq ⟨w,w.heap.size,[tSm,tIP]⟩ rfl rfl w' hfw k2 (ptr g.sams[k2]) (by rw[List.getElem?_map,gE hkb];rfl)
        simpa using h
       have hcs:=mc (f:=⟨u2,w.heap.size,[tSm,tIP]⟩) (T:=kY) hst rfl
       have hloU:OS vD 1 u2 _ (g.locs.map ptr):=hlo.mono (jk hfu rfl)
       have hBlU:∀b∈g.locs,∃cs,Blk u2 b qH cs:=fun b hb=>by obtain ⟨cs,h⟩:=hBl b hb;exact ⟨cs,jk hfu rfl _ _ h⟩
       refine jg (K37 (sQ fun K38=>jh (sQ fun K39=>jb (jJ JB YT (k:=?_)))))
       refine jp rfl (fun a w ha hH hf=>kP qcV rfl (hcell w hf) ha) (jA (k:=K39 (sQ fun K40=>jb ?_)))
       refine vw xI so2 rfl fun b256=>jM (k:=jN (k:=jF 1 vl Jt (k:=jL KC hcs 1 (k:=?_))))
       refine Qm 0 rfl Own.empty xI el2 rfl rfl rfl hvs rfl (fun z hz=>by obtain ⟨u, -,rfl⟩:=List.mem_map.1 hz;rfl) ox rfl fun y261 p261 c261 hO261=>?_
       rw[Nat.zero_add,List.nil_append]at hO261
       refine jV (u:=.slice p261 x.samples[k2].values.length c261) (by rw[Nat.zero_add]) ?_
       refine jn rfl (fun _ _ h=>vb (cs:=[(.slice none 0 0),_,(.slice none 0 0),(.slice none 0 0)]) bt57 rfl rfl h) (jW (zs:=[(.slice none 0 0),(.slice none 0 0),(.slice none 0 0),(.slice none 0 0)]) qaK rfl fun b17=>jB [_,_,_,_] (_::_::_::_::_::_) 0 zC (k:=K40 (CJ.t [(0,_),(2,_),(3,_),(16,_),(17,_),(250,_),(251,_),(252,_)] (k:=sQ fun K41=>sQ fun K42=>jb (jM (k:=jN (k:=jF 0 vl xq (k:=jL zY hcs 0 (k:=jE xw (k:=jM (k:=?_)))))))))))
       refine K42 (jh ?_)
       refine jZ (σ:=Nat×Ent×Option Addr×Nat) (fun s=>[(0,ptr g.pb),(2,ptr b2),(3,ptr b3),(16,ptr g.sams[k2]),(17,ptr b17),(250,.slice (some ⟨bq,0,none⟩) x.samples.length c2),(251,.int .i64 (x.samples.length:Nat)),(252,.int .i64 (k2:Nat)),(266,.slice pS x.samples[k2].stack.length cS),(267,.int .i64 (x.samples[k2].stack.length:Nat)),(268,.int .i64 (s.1:Nat))])
        (fun s=>s.2.1::eI b17 tSm [.slice s.2.2.1 s.1 s.2.2.2,.slice p261 x.samples[k2].values.length c261,vN,vN]::y261::y2::eI b3 tIP (cOP x (.slice q1 k1 d1) (.slice q2 k2 d2) (.slice q3 k3 d3) (.slice q4 x.locs.length d4) (.slice q5 k5 d5) (.slice pC x.comments.length cC) x.per)::[eI b2 tIP zIP])
        (fun s _=>s.1≤x.samples[k2].stack.length∧Own Yp 1 s.2.1 s.2.2.1 s.1 s.2.2.2 ((x.samples[k2].stack.take s.1).map (.int .i64))) (fun s=>x.samples[k2].stack.length - s.1)
        (0,qQ Yp,none,0) sR (fun w' hH hf=>⟨Hp.off hH,Nat.zero_le _,Own.nil⟩) ?_
       rintro ⟨m,ym,qm,dm⟩ wm ⟨hm,hOm⟩ hfm hHm KLm hKLm
       try dsimp only at hm hOm
       refine C.begin _ _ hfm hHm ?_
       try dsimp only
       refine sQ fun K43=>jb (jS (k:=K43 (sQ fun K44=>?_)))
       refine jq rfl (fun h269=>?_) (fun h269=>?_)
       ·have hm':m<x.samples[k2].stack.length:=by omega
        obtain ⟨bi,rfl,hcx⟩:=hSx ox
        obtain ⟨hz0,hzl⟩:=hsk _ (List.getElem_mem hm')
        have hci1:∀w',Fm.ok ⟨u2,w.heap.size,[tSm,tIP]⟩ w'→w'.cell? ⟨bi,0+m*1,none⟩=some (qe g.locs x.samples[k2].stack[m]):=fun w' hf=>by
         have h:=hcx ⟨u2,w.heap.size,[tSm,tIP]⟩ rfl rfl w' hf m (qe g.locs x.samples[k2].stack[m]) (by rw[List.getElem?_map,gE hm'];rfl)
         simpa using h
        refine jg (K44 (sQ fun K45=>jh (sQ fun K46=>jb (jJ xw JW (k:=?_)))))
        refine jp rfl (fun a w ha hH hf=>kP VO rfl (hci1 w hf) ha) (jA (k:=K46 ?_))
        refine jC 11 (lts [0,1,2,3,4,5,6]++(7,false)::((8,false)::((9,false)::(lts [10]++(11,false)::[])))) [1] rfl (by kernel_rfl) (by kernel_rfl) (dF [1] 0 zh Xe (k:=dH [1] 0 ZP (k:=dM [1] (k:=dN [1] (k:=dF [1] 4 jz xq (k:=dL [1] zY hc0 4 (k:=dM [1] (k:=dE (h:=fun Kd=>?_)))))))))
        refine kg (φ:=fun v=>v=.int .i64 x.samples[k2].stack[m]) Tryz.call68 rfl rfl (fun w3 hH hf=>qlF w3 g.locs _ x.samples[k2].stack[m] (hloU.mono (jk hf rfl)) (fun b hb=>by obtain ⟨cs,h⟩:=hBlU b hb;exact ⟨cs,jk hf rfl _ _ h⟩) hQ.nlocs ox (by rw[hQ.locs.1];exact hzl) (by rw[hQ.locs.1];omega)) fun v hv=>?_
        subst hv
        refine Kd (sb [1]) (dE (h:=fun Kd=>kj QC so3 zv3 rfl rfl rfl rfl rfl fun b280=>Kd (sb [2]) (dE (h:=fun Kd=>?_))))
        refine qY 0 rfl hOm QC el3 rfl rfl rfl rfl rfl ox rfl fun y281 p281 c281 hO281=>?_
        refine Kd (sb [1]) (dF [1] 0 zh Xe (k:=dE (h:=fun Kd=>jB [_,_,_,_] (_::_::_::_::_::_::_) 1 Xe (k:=Kd (.inl rfl) (K45 (CJ.t [(0,_),(2,_),(3,_),(16,_),(17,_),(250,_),(251,_),(252,_),(266,_),(267,_),(268,_)] (k:=jb (jI (k:=jM (k:=jw (ji ?_)))))))))))
        exact fun w' hH hf=>hKLm (m+1,y281,p281,c281) _ w' ⟨hm',by rw[← tG hm',List.map_append];exact hO281⟩ hf hH (by simp only;omega) sR
       ·have hme:m=x.samples[k2].stack.length:=by omega
        subst hme
        rw[tL (Nat.le_refl _)]at hOm
        clear hKLm hm h269
        refine jt (K41 (sQ fun K47=>jb (jM (k:=?_))))
        refine kQ (R:=fun w1 v w2=>(∃vt vn,v=.tuple #[vt,vn]∧TxV w2 vt x.samples[k2]∧NuV w2 vn x.samples[k2])∧Fr 0 [] w1 w2) Tryz.call69 rfl rfl (fun w1 hH hf=>qht w1 g.locs g.sams[k2] x.samples[k2] (hSQu.mono (fun cs=>jk hf rfl _ cs) (jk hf rfl) (jk hf rfl) (jk hf rfl) fun b es ck h=>yo hf rfl es ck h) hLab) fun w1 v w2 hH1 hf1 hR=>?_
        obtain ⟨⟨vt,vn,rfl,hTx,hNu⟩,hf12⟩:=hR
        obtain ⟨pt9,lt9,ct9,rfl⟩:∃p l c,vt=.slice p l c:=by obtain ⟨_,⟨_,p,l,c,e,_⟩,_⟩:=hTx;exact ⟨p,l,c,e⟩
        obtain ⟨pn9,ln9,cn9,rfl⟩:∃p l c,vn=.slice p l c:=by obtain ⟨_,⟨_,p,l,c,e,_⟩,_⟩:=hNu;exact ⟨p,l,c,e⟩
        have hH2:=hH1.fr hf12
        have hfu2:Fm.ok ⟨u2,w.heap.size,[tSm,tIP]⟩ w2:=hf1.fr hf12
        have hst4:OS Yp 1 w2 (.slice qm x.samples[k2].stack.length dm) (x.samples[k2].stack.map (.int .i64)):=hOm.os hH2 (i:=0) rfl
        have hvs4:OS qd 1 w2 (.slice p261 x.samples[k2].values.length c261) (x.samples[k2].values.map (.int .i64)):=hO261.os hH2 (i:=2) rfl
        refine J.begin ⟨w2,w.heap.size,[tSm,tIP]⟩ [eI b17 tSm [.slice qm x.samples[k2].stack.length dm,.slice p261 x.samples[k2].values.length c261,vN,vN],y2,eI b3 tIP (cOP x (.slice q1 k1 d1) (.slice q2 k2 d2) (.slice q3 k3 d3) (.slice q4 x.locs.length d4) (.slice q5 k5 d5) (.slice pC x.comments.length cC) x.per),eI b2 tIP zIP] jx (Hp.again hsz ((hH2.drop 0).drop 1) (yV.row (yV.own (.row (.row .nil rfl) rfl) hO2 rfl) rfl)) ?_
        refine jM (k:=jX (k:=jX (k:=jF 2 zh qaT (k:=jB [_,_,_,_] (_::_::_::_::_) 0 qaT (k:=jF 3 zh qaS (k:=jB [_,_,_,_] (_::_::_::_::_) 0 qaS (k:=K47 (jb (jF 2 kW Vy (k:=jH 2 ZQ (k:=?_)))))))))))
        refine jp rfl (fun a w ha hH hf=>vo (vs:=[_,_,_,_]) 0 rfl rfl XY zC rfl rfl rfl ha hH) (kj KA zC qaK rfl rfl rfl rfl rfl fun b294=>?_)
        refine qY 1 rfl hO2 KA qlL rfl rfl rfl rfl rfl ox rfl fun y295 p295 c295 hO295=>?_
        refine jF 2 kW Vy (k:=jB [_,_,_,_,_,_,_,_,_,_,_,_,_,_] (_::_::_::_::_) 2 Vy (k:=K38 (CJ.t [(0,_),(2,_),(3,_),(250,_),(251,_),(252,_)] (k:=jb (jI (k:=jM (k:=jw (ji ?_))))))))
        intro w9 hH hf
        have hsz2:w.heap.size≤w2.heap.size:=Nat.le_trans hsz hfu2.size
        have hfr29:Fr w.heap.size [tSm,tIP] u2 w9:=Fr.trans hfu2 hf (.inr ⟨Nat.le_refl _,fun _ h=>h⟩)
        have hfw:Fm.ok ⟨w,w.heap.size,[]⟩ w9:=qW (W0:=[]) hfu (.inl (Nat.le_refl _)) hfr29
        exact hKL2 (k2+1,sq++[(x.samples[k2],⟨.slice qm x.samples[k2].stack.length dm,.slice p261 x.samples[k2].values.length c261,.slice pt9 lt9 ct9,.slice pn9 ln9 cn9⟩)],y295,p295,c295) _ w9 ⟨hk',Hp.back hsz2 (.inl (Nat.le_refl _)) (hH.drop 0),hfw,hPV.fr hfr29 rfl,by rw[List.map_append,hsq2, ← tG hk'];rfl,by rw[List.flatMap_append];exact hO295,fun q hq=>by
          rcases mA hq with hq|hq
          ·exact hSM.fr hfr29 rfl q hq
          ·simp at hq;subst hq
           exact ⟨hst4.mono (jk hf rfl),hvs4.mono (jk hf rfl),hTx.mono (jk hf rfl) (jk hf rfl),hNu.mono (jk hf rfl) (jk hf rfl)⟩⟩ (by simp only;omega) ⟨rfl,rfl,rfl,rfl,rfl,rfl,trivial⟩
      ·have hke2:k2=x.samples.length:=by omega
       subst hke2
       rw[tL (Nat.le_refl _)]at hsq2
       refine jt (K34 (sQ fun K48=>jb (jp rfl (fun a w ha hH hf=>vo (vs:=[_,_,_,_,_,_,_,_,_,_,_,_,_,_]) 1 rfl rfl Ki yJ rfl rfl rfl ha hH) ?_)))
       refine yt 2 rfl rfl rfl rfl yJ rfl rfl rfl rfl rfl ?_
       refine K48 (jj ?_)
       exact Zs Tryz.results28 Ki yJ rfl rfl (fun w' hH hf=>⟨_,hH.get (i:=2) rfl rfl⟩) fun w' hH hf=>⟨⟨_,rfl,_,_,_,_,_,_,sq,rfl,hPV.fr hf rfl,hsq2,hO2.os hH (i:=0) rfl,hSM.fr hf rfl⟩,qhK (qW (W0:=[]) hfu (.inl (Nat.le_refl _)) hf)⟩
theorem yX.mk' {α:Type} {bb:Nat} {u:World} {f:FuncId} {bs:List Nat} {xs:List α} {φ:Nat→α→Prop} {R:α→List Nat→Prop} (h:qE bs xs φ) (hn:xs.length≤60) (hp:∀b x,x∈xs→φ b x→∃M,R x M∧Enc B bb u f (ptr b) M):∃Ms,QG xs Ms R∧yX B bb u f bs Ms:=by
 obtain ⟨Ms,h1,h2⟩:=h.pick (R:=fun b x M=>R x M∧Enc B bb u f (ptr b) M) hp
 refine ⟨Ms,⟨h1,fun i a M ha hM=>?_⟩,⟨by rw[h.1,h1],fun i b M hb hM=>?_,by omega⟩⟩
 ·have hl:=(List.getElem?_eq_some_iff.1 ha).1
  have hb:bs[i]? =some (bs[i]'(by rw[h.1];exact hl)):=gE _
  exact (h2 i _ a M hb ha hM).1
 ·have hl:=(List.getElem?_eq_some_iff.1 hb).1
  have ha:xs[i]? =some (xs[i]'(by rw[← h.1];exact hl)):=gE _
  exact (h2 i b _ M hb ha hM).2
section
variable {B B0 bb:Nat} {w0 u:World} {x:jD} {g:G} {T:List ByteArray}
theorem qfF (hE:qcY B0 w0 u x g T) (hl:T.length≤100000000) (hn:x.types.length≤60):∃Ms,QG x.types Ms (MT T)∧yX B bb u 223 g.types Ms:=
 yX.mk' hE.types hn fun b t _ h=>by
  obtain ⟨n,m,hb,h1,h2⟩:=h
  exact ⟨vtB n m,⟨n,m,rfl,h1,h2⟩,fun w1 D hF hB hl'=>qaM B w1 bb D n m (h1.wrap hl) (h2.wrap hl) (jk hF rfl _ _ hb) hB ox⟩
theorem qhT (hE:qcY B0 w0 u x g T) (hr:Rng x) (hl:T.length≤100000000) (hn:x.mappings.length≤60):∃Ms,QG x.mappings Ms (MM T)∧yX B bb u 228 g.maps Ms:=
 yX.mk' hE.maps hn fun b t ht h=>by
  obtain ⟨n,k,hb,h1,h2⟩:=h
  obtain ⟨r1,r2,r3,r4⟩:=hr.maps t ht
  have q1:=qN r1
  have q2:=qN r2
  have q3:=qN r3
  have q4:=qN r4
  refine ⟨_,⟨n,k,rfl,h1,h2⟩,fun w1 D hF hB hl'=>qiX B w1 bb D t.id.toNat t.start.toNat t.limit.toNat t.offset.toNat n k t.fu t.fi t.li t.inl ox ox ox ox (h1.wrap hl) (h2.wrap hl) (b:=b) (fi:=t.file) (bu:=t.build) ?_ hB ox⟩
  simp only[Int.toNat_of_nonneg q1.1,Int.toNat_of_nonneg q2.1,Int.toNat_of_nonneg q3.1,Int.toNat_of_nonneg q4.1]
  exact jk hF rfl _ _ hb
theorem qhV (hE:qcY B0 w0 u x g T) (hr:Rng x) (hl:T.length≤100000000) (hn:x.funcs.length≤60):∃Ms,QG x.funcs Ms (MF T)∧yX B bb u 246 g.funs Ms:=
 yX.mk' hE.funs hn fun b t ht h=>by
  obtain ⟨n,k,i,hb,h1,h2,h3⟩:=h
  obtain ⟨r1,r2⟩:=hr.funs t ht
  have q1:=qN r1
  refine ⟨_,⟨n,k,i,rfl,h1,h2,h3⟩,fun w1 D hF hB hl'=>qjE B w1 bb D t.id.toNat n k i t.start ox (h1.wrap hl) (h2.wrap hl) (h3.wrap hl) r2 (b:=b) (na:=t.name) (sy:=t.system) (fi:=t.file) ?_ hB ox⟩
  simp only[Int.toNat_of_nonneg q1.1]
  exact jk hF rfl _ _ hb
def Zh (x:jD) (g:G) (l:vP):List (Value×Int×Nat):=l.lines.map fun n=>(qe g.funs n.fn,n.line,(fnid x n.fn).toNat)
theorem qgS (hr:Rng x) (hL:Ya (Qn x g) w0 u) {ls:Value} {l:vP} (hos:OS kq 3 w0 ls (l.lines.flatMap (qk g.funs))) (hF:Yc x u ls l.lines):OS kq 3 u ls ((Zh x g l).flatMap cLn):=by
 obtain ⟨y,p,n,c,rfl,hO,hy⟩:=hos
 have hl1:(l.lines.flatMap (qk g.funs)).length=l.lines.length*3:=qw (sz:=3) (fun _=>rfl) _
 have hl2:((Zh x g l).flatMap cLn).length=l.lines.length*3:=by rw[qw (c:=cLn) (sz:=3) (fun _=>rfl)];simp[Zh]
 obtain ⟨s1,s2,s3⟩:=hO.sl
 rcases s3 with ⟨hon,hp,⟨ex,hex⟩,hc⟩|⟨hon,hp,hc⟩
 ·obtain ⟨cs',hb,hlc⟩:=hL _ _ (hy hon)
  refine ⟨{ y with cs:=cs' },p,n,c,rfl,⟨hO.hT,hO.hw,hO.ho,by rw[hl2, ← hl1];exact s1,s2,.inl ⟨hon,hp,⟨cs'.drop (l.lines.length*3),?_⟩,by simp only;rw[hlc.1];exact hc⟩⟩,fun _=>hb⟩
  have hcl:l.lines.length*3≤cs'.length:=by rw[hlc.1,hex,lA];omega
  have key:cs'.take (l.lines.length*3)=(Zh x g l).flatMap cLn:=by
   apply List.ext_getElem?
   intro j
   by_cases hj:j<l.lines.length*3
   ·rw[List.getElem?_take_of_lt hj]
    have hi:j/3<l.lines.length:=by omega
    have hlx:(Zh x g l)[j/3]? =some (qe g.funs l.lines[j/3].fn,l.lines[j/3].line,(fnid x l.lines[j/3].fn).toNat):=by simp[Zh,hi]
    have hg:=xg (c:=cLn) (sz:=3) (fun _=>rfl) hlx (j%3)
    have hg0:=xg (c:=qk g.funs) (sz:=3) (fun _=>rfl) (gE hi) (j%3)
    have hjj:j/3*3+j%3=j:=by omega
    rw[hjj]at hg hg0
    have h3:j%3=0∨j%3=1∨j%3=2:=by omega
    rcases h3 with h3|h3|h3
    ·rw[(hlc.2 j).1 ox,hex,aq ox,hg0 (qe g.funs l.lines[j/3].fn) (by rw[h3];rfl),hg (qe g.funs l.lines[j/3].fn) (by rw[h3];rfl)]
    ·rw[(hlc.2 j).1 ox,hex,aq ox,hg0 (.int .i64 l.lines[j/3].line) (by rw[h3];rfl),hg (.int .i64 l.lines[j/3].line) (by rw[h3];rfl)]
    ·have h4:=hF p n c y.b rfl hp (j/3) _ (gE hi)
     rw[hb.cell,show j/3*3+2=j by omega]at h4
     rw[h4,hg (.int .u64 ((fnid x l.lines[j/3].fn).toNat:Nat)) (by rw[h3];rfl),Int.toNat_of_nonneg (hr.fnid _).1]
   ·rw[List.getElem?_eq_none (by simp;omega),List.getElem?_eq_none ox]
  rw[← key,List.take_append_drop]
 ·have hn0:n=0:=by omega
  have hz:l.lines.length=0:=by omega
  refine ⟨y,p,n,c,rfl,⟨hO.hT,hO.hw,hO.ho,by rw[hl2, ← hl1];exact s1,s2,.inr ⟨hon,hp,hc⟩⟩,fun h=>by rw[hon]at h;cases h⟩
theorem qhU (hE:qcY B0 w0 u x g T) (hr:Rng x) (hx:vW x) (hn:x.locs.length≤60):∃Ms,QG x.locs Ms (ML x)∧yX B bb u 254 g.locs Ms:=
 yX.mk' hE.locs hn fun b t ht h=>by
  obtain ⟨ls,hb,hos,hF⟩:=h
  obtain ⟨r1,r2,r3⟩:=hr.locs t ht
  have q1:=qN r1
  have q2:=qN r2
  have q3:=hr.mid t.mapping
  have hlen:=(hx.tab.locs t ht).2.1
  obtain ⟨mp,hmp⟩:∃mp,qe g.maps t.mapping=.pointer mp:=⟨_,rfl⟩
  rw[hmp]at hb
  have hq:LnOK (Zh x g t):=⟨fun q hq=>by
   obtain ⟨n,hn,rfl⟩:=List.mem_map.1 hq
   have:=hr.fnid n.fn
   exact ⟨by simp only;omega,r3 n hn⟩,by simp[Zh];omega⟩
  have:=qjl B u bb b t.id.toNat (mid x t.mapping).toNat t.addr.toNat mp ls false (Zh x g t) ox ox ox hq (by
   simp only[Int.toNat_of_nonneg q1.1,Int.toNat_of_nonneg q2.1,Int.toNat_of_nonneg q3.1];exact hb) (qgS hr hE.lines hos hF)
  refine ⟨_,rfl,?_⟩
  have e:lcB t.id.toNat (mid x t.mapping).toNat t.addr.toNat (Zh x g t)=ki 1 t.id.toNat++(ki 2 (mid x t.mapping).toNat++(ki 3 t.addr.toNat++msB 4 (t.lines.map fun n=>lnB (fnid x n.fn).toNat n.line))):=by
   unfold lcB Zh
   rw[List.map_map];rfl
  rw[← e];exact this
theorem Zk (h:zQ s):(QE s).length≤7200:=by
 have h0:(s.texts.flatMap xG).length≤60*s.texts.length:=xV fun t ht=>by
  simp only[xG,List.length_map]
  exact (h.tl t ht).2.1
 have h1:(s.nums.flatMap yr).length≤60*s.nums.length:=xV fun t ht=>by
  simp only[yr,List.length_map]
  exact (h.nl t ht).2
 have h3:=h.nlen
 have h4:=h.tlen
 simp only[QE,lA]
 omega
theorem LbR.wraps {lbs:List (Int×Int×Int)} (h:LbR T lbs (QE s)) (hl:T.length≤100000000) (hz:∀t∈s.nums,∀z∈t.list,IntKind.i64.wrap z=z):∀q∈lbs,IntKind.i64.wrap q.1=q.1∧IntKind.i64.wrap q.2.1=q.2.1∧IntKind.i64.wrap q.2.2=q.2.2:=by
 intro q hq
 obtain ⟨i,hi⟩:=List.mem_iff_getElem?.1 hq
 have hil:=(List.getElem?_eq_some_iff.1 hi).1
 have he:(QE s)[i]? =some ((QE s)[i]'(by rw[← h.1];exact hil)):=gE _
 obtain ⟨h1,h2⟩:=h.2 i _ _ hi he
 refine ⟨h1.wrap hl,?_⟩
 have hm:=mG he
 generalize (QE s)[i]'(by rw[← h.1];exact hil)=e at*
 simp only[QE,List.mem_append,List.mem_flatMap]at hm
 rcases hm with ⟨t,ht,hm⟩|⟨t,ht,hm⟩
 ·obtain ⟨v,hv,rfl⟩:=List.mem_map.1 hm
  obtain ⟨h2,h3⟩:=h2
  exact ⟨h2.wrap hl,by rw[h3];rfl⟩
 ·obtain ⟨v,hv,rfl⟩:=List.mem_map.1 hm
  obtain ⟨h2,h3⟩:=h2
  simp only at h3
  exact ⟨by rw[h2];rfl,by rw[h3];exact hz t ht v hv⟩
theorem qhR (hE:qcY B0 w0 u x g T) (hr:Rng x) (hx:vW x) (hl:T.length≤100000000) (hn:x.samples.length≤60):∃Ms,QG x.samples Ms (MS T x)∧yX B bb u 261 g.sams Ms:=
 yX.mk' hE.sams hn fun b t ht h=>by
  obtain ⟨ls,vs,lm,nm,iv,xv,lbs,hb,hv,hi,hxv,hlb⟩:=h
  obtain ⟨r1,r2,r3,r4,r5⟩:=hx.samples t ht
  have hv':OS qd 1 u vs (t.values.map (.int .i64)):=hv.mono (jk hE.fr rfl)
  have hi':OS vR 1 u iv ((t.stack.map fun z=>(lid x z).toNat).map fun (n:Nat)=>Value.int .u64 (n:Int)):=by
   rw[List.map_map]
   have e:(t.stack.map fun z=>Value.int .u64 (lid x z))=t.stack.map ((fun (n:Nat)=>Value.int .u64 (n:Int))∘fun z=>(lid x z).toNat):=List.map_congr_left fun z _=>by
    simp only[Function.comp_apply,Int.toNat_of_nonneg (hr.lid z).1]
   rw[← e];exact hi
  have hlbl:lbs.length≤7200:=by rw[hlb.1];exact Zk r4
  have hq:SmOK (t.stack.map fun z=>(lid x z).toNat) t.values lbs:=⟨fun n hn=>by
   obtain ⟨z,hz,rfl⟩:=List.mem_map.1 hn
   have:=hr.lid z
   omega,hlb.wraps hl (hr.nums t ht),by simp;omega,by have:=hx.ntyp;omega,by omega⟩
  exact ⟨_,⟨lbs,hlb,rfl⟩,qiA B u bb b ls vs lm nm (.map none) iv xv _ _ lbs hq hb hi' hv' hxv⟩
end
theorem qjd (v a:Value) (w:World):(callMethod (.iface 59 v) qbx #[a]).run Tryz.prog w=.ok (.enter 192 #[v,a]) w:=by kernel_rfl
theorem QG.all {α:Type} {xs:List α} {Ms:List (List Nat)} {R:α→List Nat→Prop} {φ:List Nat→Prop} (h:QG xs Ms R) (hp:∀a M,a∈xs→R a M→φ M):∀M∈Ms,φ M:=by
 intro M hM
 obtain ⟨i,hi⟩:=List.mem_iff_getElem?.1 hM
 have hl:=(List.getElem?_eq_some_iff.1 hi).1
 have ha:xs[i]? =some (xs[i]'(by rw[← h.1];exact hl)):=gE _
 exact hp _ M (mG ha) (h.2 i _ M ha hi)
section
variable {B B0 bb:Nat} {w0 u:World} {x:jD} {g:G} {T:List ByteArray} {q:PIn}
theorem qgQ (h:PR x T q) (hr:Rng x) (hx:vW x) (hT:xt T≤100000000):(pfB q).length≤2000000000:=by
 have hl:T.length≤100000000:=Nat.le_trans QU hT
 have n1:=hx.ntyp
 have n2:=hx.nsam
 have n3:=hx.tab.m.2.2
 have n5:=hx.tab.f.2.2
 have n4:=hx.tab.l.2.2
 simp only[List.length_map]at n3 n4 n5
 have b1:=Qh (tag:=1) (c:=40) ox ox (h.ts.all fun t M _ hM=>by
  obtain ⟨n,m,rfl,h1,h2⟩:=hM
  exact qaO n m (h1.wrap hl) (h2.wrap hl))
 have b2:=Qh (tag:=2) (c:=600000) ox ox (h.ss.all fun t M ht hM=>by
  obtain ⟨lbs,hlb,rfl⟩:=hM
  obtain ⟨r1,r2,r3,r4,r5⟩:=hx.samples t ht
  have hw:=hlb.wraps hl (hr.nums t ht)
  have hll:lbs.length≤7200:=by rw[hlb.1];exact Zk r4
  have o1:=qdY (tag:=1) (ns:=t.stack.map fun z=>(lid x z).toNat) ox (fun n hn=>by
   obtain ⟨z,hz,rfl⟩:=List.mem_map.1 hn
   have:=hr.lid z
   omega) (by simp;omega)
  have o2:=qdV (tag:=2) ox t.values
  have o3:=Qh (tag:=3) (c:=60) (Ms:=lbs.map fun q=>lbB q.1 q.2.1 q.2.2) ox ox fun M hM=>by
   obtain ⟨q,hq,rfl⟩:=List.mem_map.1 hM
   exact qjv _ _ _ (hw q hq).1 (hw q hq).2.1 (hw q hq).2.2
  simp only[List.length_map]at o1 o3
  have:=hx.ntyp
  simp only[smB,lA]
  omega)
 have b3:=Qh (tag:=3) (c:=200) ox ox (h.ms.all fun t M ht hM=>by
  obtain ⟨n,k,rfl,h1,h2⟩:=hM
  obtain ⟨r1,r2,r3,r4⟩:=hr.maps t ht
  have q1:=qN r1
  have q2:=qN r2
  have q3:=qN r3
  have q4:=qN r4
  exact qja _ _ _ _ _ _ _ _ _ _ ox ox ox ox (h1.wrap hl) (h2.wrap hl))
 have b4:=Qh (tag:=4) (c:=5000) ox ox (h.ls.all fun t M ht hM=>by
  unfold ML at hM
  subst hM
  obtain ⟨r1,r2,r3⟩:=hr.locs t ht
  have q1:=qN r1
  have q2:=qN r2
  have q3:=hr.mid t.mapping
  have hlen:=(hx.tab.locs t ht).2.1
  have o1:=kh (k:=1) (n:=t.id.toNat) ox ox
  have o2:=kh (k:=2) (n:=(mid x t.mapping).toNat) ox ox
  have o3:=kh (k:=3) (n:=t.addr.toNat) ox ox
  have o4:=Qh (tag:=4) (c:=40) (Ms:=t.lines.map fun n=>lnB (fnid x n.fn).toNat n.line) ox ox fun M hM=>by
   obtain ⟨n,hn,rfl⟩:=List.mem_map.1 hM
   have:=hr.fnid n.fn
   exact qji _ _ ox (r3 n hn)
  simp only[List.length_map]at o4
  simp only[lA]
  omega)
 have b5:=Qh (tag:=5) (c:=100) ox ox (h.fs.all fun t M ht hM=>by
  obtain ⟨n,k,i,rfl,h1,h2,h3⟩:=hM
  obtain ⟨r1,r2⟩:=hr.funs t ht
  have q1:=qN r1
  exact qjH _ _ _ _ _ ox (h1.wrap hl) (h2.wrap hl) (h3.wrap hl) r2)
 have b6:=qac (tag:=6) ox hT
 have o7:=kh (k:=7) (n:=u64 q.dx) ox (kX _)
 have o8:=kh (k:=8) (n:=u64 q.kx) ox (kX _)
 have o9:=kh (k:=9) (n:=u64 q.ti) ox (kX _)
 have o10:=kh (k:=10) (n:=u64 q.du) ox (kX _)
 have o12:=kh (k:=12) (n:=u64 q.pe) ox (kX _)
 have o11:(if q.tx≠0∨q.ux≠0 then xO (.bys 11 (vtB q.tx q.ux)) else []).length≤51:=by
  split
  ·have h1:=qaO q.tx q.ux (h.tx.wrap hl) (h.ux.wrap hl)
   have:=Zr (tag:=11) (M:=vtB q.tx q.ux) ox ox
   omega
  ·simp
 have e1:=h.ts.1
 have e2:=h.ss.1
 have e3:=h.ms.1
 have e4:=h.ls.1
 have e5:=h.fs.1
 have e6:=h.tab
 rw[← e6]at b6 hT
 simp only[pfB,lA]
 omega
theorem qhS (hE:qcY B0 w0 u x g T) (hr:Rng x) (hx:vW x) (hT:xt T≤100000000) (bb:Nat):∃q,PR x T q∧Enc B bb u 192 (ptr g.pb) (pfB q):=by
 have hl:T.length≤100000000:=Nat.le_trans QU hT
 have n3:=hx.tab.m.2.2
 have n5:=hx.tab.f.2.2
 have n4:=hx.tab.l.2.2
 simp only[List.length_map]at n3 n4 n5
 obtain ⟨ty,sa,ma,lo,fu,co,dx,kx,sx,hb,h1,h2,h3,h4,h5,h6,hdx,hkx⟩:=hE.prof
 obtain ⟨tx,ux,hper,htx,hux⟩:=hE.per
 have f:=hE.fr
 obtain ⟨ts,a1,e1⟩:=qfF (B:=B) (bb:=bb) hE hl hx.ntyp
 obtain ⟨ss,a2,e2⟩:=qhR (B:=B) (bb:=bb) hE hr hx hl hx.nsam
 obtain ⟨ms,a3,e3⟩:=qhT (B:=B) (bb:=bb) hE hr hl n3
 obtain ⟨ls,a4,e4⟩:=qhU (B:=B) (bb:=bb) hE hr hx n4
 obtain ⟨fs,a5,e5⟩:=qhV (B:=B) (bb:=bb) hE hr hl n5
 refine ⟨⟨ts,ss,ms,ls,fs,T,dx,kx,x.time,x.dur,x.period,tx,ux⟩,⟨a1,a2,a3,a4,a5,rfl,hE.zero,hE.sub,hE.nd,hdx,hkx,rfl,rfl,rfl,htx,hux⟩,?_⟩
 exact qiN B u bb g.pb g.per ⟨ts,ss,ms,ls,fs,T,dx,kx,x.time,x.dur,x.period,tx,ux⟩ _ _ _ _ _ _ _ _ _ _ _ _ sx 0 _ _ _ _ _ ⟨hdx.wrap hl,hkx.wrap hl,hr.time,hr.dur,hr.period,htx.wrap hl,hux.wrap hl⟩ hb hper
  (h1.mono (jk f rfl)) (h2.mono (jk f rfl)) (h3.mono (jk f rfl)) (h4.mono (jk f rfl)) (h5.mono (jk f rfl)) h6 e1 e2 e3 e4 e5
end
theorem OfP.keep' {x:jD} (h:OfP B w x g) (k:Fr 0 [] w w'):OfP B w' x g:=by
 have kr:=fun (b T:Nat) (cs:List Value) (hb:Blk w b T cs)=>k.blk hb (.inr zp)
 have km:=fun (b:Nat) es ck (hb:w.heap[b]? =some (.map es ck))=>k.keep _ _ hb (.inr zp)
 obtain ⟨ty,sa,ma,lo,fu,co,h1,h2,h3,h4,h5,h6,h7⟩:=h.prof
 exact { prof:=⟨ty,sa,ma,lo,fu,co,kr _ _ _ h1,h2.mono fun b cs=>kr _ _ cs,h3.mono fun b cs=>kr _ _ cs,h4.mono fun b cs=>kr _ _ cs,h5.mono fun b cs=>kr _ _ cs,h6.mono fun b cs=>kr _ _ cs,h7.mono fun b cs=>kr _ _ cs⟩
         per:=kr _ _ _ h.per
         types:=h.types.mono fun b t=>kr _ _ _
         maps:=h.maps.mono fun b t=>kr _ _ _
         funs:=h.funs.mono fun b t=>kr _ _ _
         locs:=h.locs.mono fun b l hl=>hl.mono (fun b cs=>kr _ _ cs) (fun b cs=>kr _ _ cs)
         sams:=h.sams.mono fun b l hl=>hl.mono (fun b cs=>kr _ _ cs) (fun b cs=>kr _ _ cs) (fun b cs=>kr _ _ cs) (fun b cs=>kr _ _ cs) (fun b es ck=>km _ _ _)
         ntypes:=h.ntypes
         nmaps:=h.nmaps
         nfuns:=h.nfuns
         nlocs:=h.nlocs
         nsams:=h.nsams
         fresh:=h.fresh
         rows:=fun b hb=>(h.rows b hb).mono fun b cs=>kr _ _ cs }
theorem qfk (w:World) (v0:Value) (φ:List Nat→Prop) (he:∀bb,∃M,φ M∧Enc w.heap.size bb w 192 v0 M∧M.length≤2000000000):
  Calls Tryz.prog 87 #[.iface 59 v0] w (Ret fun v w'=>(∃M,φ M∧OS tU8 1 w' v (M.map bv))∧Fr 0 [] w w'):=by
 refine jr (args:=[_]) [(0,_)] 0 [] [] func87 rfl ntmps87 rfl rfl .nil ?_
 refine sQ fun K1=>jb (jA (k:=K1 (sQ fun K2=>jb ?_)))
 refine jW (zs:=[(.int .i64 0),(.int .i64 0),(.int .u64 0),(.slice none 0 0),(.int .u8 0),(.int .u8 0),(.int .u8 0),(.int .u8 0),(.int .u8 0),(.int .u8 0),(.int .u8 0),(.int .u8 0),(.int .u8 0),(.int .u8 0),(.int .u8 0),(.int .u8 0),(.int .u8 0),(.int .u8 0),(.int .u8 0),(.int .u8 0)]) qka rfl fun b3=>K2 (sQ fun K3=>jb (jM (k:=?_)))
 refine qew (R:=fun w1 _ w2=>(∃M,φ M∧Bf w.heap.size w2 b3 M)∧Fr w.heap.size wE w1 w2) (g:=192) (as':=[v0,ptr b3]) (fun w=>qjd v0 (ptr b3) w) rfl rfl rfl (fun w1 hH hf=>by
   obtain ⟨M,h1,h2,h3⟩:=he b3
   refine Calls.mono (h2 w1 [] (hf.quiet _ _) ⟨hH.fresh (i:=0) rfl rfl rfl,_,_,_,_,_,_,qQ tU8,hH.get (i:=0) rfl rfl,rfl,rfl,Own.nil,fun h=>by simp[qQ]at h⟩ (by simp;omega)) fun e w2 hR=>?_
   cases e with
   |returned v=>exact ⟨⟨M,h1,by simpa using hR.1⟩,hR.2⟩
   |panicked c=>exact hR.elim
   |outgrown=>exact hR.elim) fun w1 v w2 hH1 hf1 hR=>?_
 obtain ⟨⟨M,hφ,hB2⟩,hF2⟩:=hR
 obtain ⟨f,t,u,p,c,tmp,y,hblk,htl,hts,hO,hy⟩:=hB2.ex
 have hfr:Fr 0 [] w w2:=Fr.trans hf1 hF2 (.inl (Nat.le_refl _))
 refine J.begin ⟨w2,0,[]⟩ [⟨b3,qx,yg f t u (.slice p M.length c) tmp,false,true,none⟩] jx (Hp.add trivial hblk (fun h=>by cases h) zp) ?_
 refine K3 (sQ fun K4=>jb (jF 3 qh ye (k:=jH 0 JN (k:=jA (k:=K4 (jj ?_))))))
 exact je results87 rfl fun w' hH hf=>⟨⟨M,hφ,y,p,M.length,c,rfl,hO,fun ho=>hf.blk (hy ho).2 (.inr zp)⟩,hfr.trans hf (.inr ⟨Nat.le_refl _,fun _ h=>h⟩)⟩
def cM (fs:List Fld):Msg:=fs.map fun f=>(.fld f,xO f)
theorem qep (fs:List Fld):mB (cM fs)=qX fs:=by simp[mB,cM,qX,List.flatMap_map]
theorem kZ (fs:List Fld):kV (cM fs)=fs:=by
 unfold kV cM
 rw[List.filterMap_map]
 exact List.filterMap_some
def WfT (tb:Nat→Nat) (f:Fld):Prop:=match f with
 | .num k n=>k<1048576∧n<18446744073709551616∧tb k≠2
 | .bys k _=>k<1048576∧tb k≠1
abbrev Wft (tb:Nat→Nat) (gs:List Fld):Prop:=∀f∈gs,WfT tb f
theorem Wft.app {tb:Nat→Nat} {a b:List Fld} (h:Wft tb a) (k:Wft tb b):Wft tb (a++b):=fun f hf=>(mA hf).elim (h f) (k f)
theorem Wft.opt {tb:Nat→Nat} (hk:k<1048576) (hn:n<18446744073709551616) (ht:tb k≠2):Wft tb (qu k n):=fun f hf=>by
 unfold qu at hf
 split at hf
 ·cases hf
 ·simp at hf;subst hf;exact ⟨hk,hn,ht⟩
theorem qcJ (f:Fld):(qn f).length+2≤(xO f).length:=by
 cases f with
 |num k n=>have:=KD (8*k);have:=KD n;simp only[xO,qn,lA,List.length_nil];omega
 |bys k b=>have:=KD (8*k+2);have:=KD b.length;simp only[xO,qn,lA];omega
theorem Vq:∀{f:Fld},f∈fs→(qn f).length≤(qX fs).length:=by
 induction fs with
 |nil=>intro f h;cases h
 |cons a r ih=>
  intro f hf
  rw[qdH,lA]
  rcases mC hf with rfl|hf
  ·have:=qcJ f;omega
  ·have:=ih hf;omega
theorem MOK.canon {tb:Nat→Nat} (h:Wft tb fs) (hl:(qX fs).length≤2000000000):MOK tb (cM fs):=by
 refine ⟨fun g hg=>?_,fun g hg=>?_,by rw[qep];exact hl⟩
 ·obtain ⟨f,hf,rfl⟩:=List.mem_map.1 hg
  have h1:=h f hf
  have h2:=Vq hf
  cases f with
  |num k n=>exact ⟨_,_,rfl,yh.canon (by have:=h1.1;omega),yh.canon h1.2.1,h1.1,h1.2.1⟩
  |bys k B=>
   simp only[qn]at h2
   exact ⟨_,_,by simp only[xO,List.append_assoc],yh.canon (by have:=h1.1;omega),yh.canon ox,h1.1,by omega⟩
 ·obtain ⟨f,hf,rfl⟩:=List.mem_map.1 hg
  have h1:=h f hf
  cases f with
  |num k n=>exact h1.2.2
  |bys k B=>exact h1.2
theorem qen {s:Nat}:∀{fs:List Fld},(∀f∈fs,kn f≠k)→jP k s fs=s
 |[],_=>rfl
 |a::r,h=>by
    have h1:=h a zp
    show jP k (if kn a=k then qfC a else s) r=s
    rw[if_neg h1]
    exact qen fun f hf=>h f (by simp[hf])
theorem qJ (k j n s:Nat):jP k s (qu j n)=if j=k then (if n=0 then s else n) else s:=by
 unfold qu jP
 by_cases hn:n=0
 ·simp[hn]
 ·by_cases hj:j=k<;>simp[hn,hj,kn,qfC]
theorem kw (n:Nat):(if n=0 then 0 else n)=n:=by split<;>omega
abbrev msF (k:Nat) (Ms:List (List Nat)):List Fld:=Ms.map (.bys k)
abbrev qbO (k:Nat) (ss:List ByteArray):List Fld:=ss.map fun s=>.bys k (sB s)
theorem Ke {Ms:List (List Nat)}:∀f∈msF k Ms,kn f=k:=fun f hf=>by
 obtain ⟨M, -,rfl⟩:=List.mem_map.1 hf;rfl
theorem YF {ss:List ByteArray}:∀f∈qbO k ss,kn f=k:=fun f hf=>by
 obtain ⟨M, -,rfl⟩:=List.mem_map.1 hf;rfl
theorem JK:∀f∈qu k n,kn f=k:=fun f hf=>by
 unfold qu at hf;split at hf
 ·cases hf
 ·simp at hf;subst hf;rfl
theorem qet {ns:List Nat}:∀f∈ns.map (Fld.num k),kn f=k:=fun f hf=>by
 obtain ⟨M, -,rfl⟩:=List.mem_map.1 hf;rfl
theorem Vi {s:Nat} (h:∀f∈fs,kn f=j) (hj:j≠k):jP k s fs=s:=qen fun f hf=>by rw[h f hf];exact hj
theorem QX (h:∀f∈fs,kn f=j) (hj:j≠k):(fs.filter fun f=>kn f=k)=[]:=List.filter_eq_nil_iff.2 fun f hf=>by rw[h f hf];simpa using hj
theorem Xt (h:∀f∈fs,kn f=k):(fs.filter fun f=>kn f=k)=fs:=List.filter_eq_self.2 fun f hf=>by simp[h f hf]
theorem qhQ (k:Nat) (Ms:List (List Nat)):(msF k Ms).map qn=Ms:=by simp[msF,Function.comp_def,qn]
theorem qlI (k:Nat) (ss:List ByteArray):(qbO k ss).map qn=ss.map sB:=by simp[qbO,Function.comp_def,qn]
theorem Qo (k n:Nat):qX (qu k n)=ki k n:=by
 unfold qu ki JZ
 split<;>simp[qX,xO]
theorem qbw (k:Nat) (Ms:List (List Nat)):qX (msF k Ms)=msB k Ms:=List.flatMap_map ..
theorem qjI (k:Nat) (ss:List ByteArray):qX (qbO k ss)=xD k ss:=List.flatMap_map ..
theorem zR.app {a b:List Fld} {na nb:List (List Nat)} (h:zR k a na) (g:zR k b nb):zR k (a++b) (na++nb):=by
 refine ⟨by simp[h.len,g.len],fun i f ns hf hn=>?_⟩
 by_cases hi:i<a.length
 ·rw[aq hi]at hf
  rw[aq (by rw[h.len];exact hi)]at hn
  exact h.at_ i f ns hf hn
 ·rw[List.getElem?_append_right ox]at hf
  rw[List.getElem?_append_right (by rw[h.len];omega),h.len]at hn
  exact g.at_ _ f ns hf hn
theorem zR.none {a:List Fld} (h:∀f∈a,kn f≠k):zR k a (a.map fun _=>[]):=by
 refine ⟨by simp,fun i f ns hf hn=>?_⟩
 rw[if_neg (h f (mG hf))]
 rw[List.getElem?_map,hf]at hn
 simpa using hn.symm
theorem zR.nums (k:Nat) (ns:List Nat) (h:∀n∈ns,n<18446744073709551616):zR k (ns.map (.num k)) (ns.map fun n=>[n]):=by
 refine ⟨by simp,fun i f ms hf hn=>?_⟩
 rw[List.getElem?_map]at hf hn
 obtain ⟨n,h1,rfl⟩:=Option.map_eq_some_iff.1 hf
 rw[h1]at hn
 simp at hn
 rw[if_pos (show kn (Fld.num k n)=k from rfl)]
 exact ⟨hn.symm,h n (mG h1)⟩
theorem zR.one {f:Fld} {ns:List Nat} (hk:kn f=k) (hv:GV f ns):zR k [f] [ns]:=⟨rfl,fun i g ms hf hn=>by
 cases i with
 |zero=>simp at hf hn;subst hf;subst hn;rw[if_pos hk];exact hv
 |succ i=>simp at hf⟩
theorem Vp (a:List Fld):(a.map fun _=>([]:List Nat)).flatten=[]:=by
 induction a with
 |nil=>rfl
 |cons x r ih=>simp
theorem QY:∀ns:List Nat,(ns.map fun n=>[n]).flatten=ns
 |[]=>rfl
 |a::r=>by have:=QY r;simp only[List.map_cons,List.flatten_cons,this];rfl
theorem Vs.canon:∀(ns:List Nat),(∀n∈ns,n<18446744073709551616)→Vs ns (ns.flatMap vint)
 |[],_=>rfl
 |n::r,h=>⟨_,_,by rw[List.flatMap_cons],yh.canon (h n zp),h n zp,Vs.canon r fun m hm=>h m (by simp[hm])⟩
def usF (k:Nat) (ns:List Nat):List Fld:=if 2<ns.length then [.bys k (ns.flatMap vint)] else ns.map (.num k)
theorem qlK (k:Nat) (ns:List Nat):qX (usF k ns)=usB k ns:=by
 unfold usF usB
 split
 ·simp[qX]
 ·rw[qX,List.flatMap_map];rfl
theorem qhv {ns:List Nat}:∀f∈usF k ns,kn f=k:=fun f hf=>by
 unfold usF at hf;split at hf
 ·simp at hf;subst hf;rfl
 ·exact qet f hf
theorem zR.us (k:Nat) (ns:List Nat) (h:∀n∈ns,n<18446744073709551616):∃nss,zR k (usF k ns) nss∧nss.flatten=ns:=by
 unfold usF
 split
 ·exact ⟨_,zR.one rfl (Vs.canon ns h),by simp⟩
 ·exact ⟨_,zR.nums k ns h,QY ns⟩
theorem QG.choose {α:Type} {S:α→List Fld→Prop} {R:α→List Nat→Prop}:∀{xs:List α} {ys:List (List Nat)},QG xs ys R→(∀M∈ys,M.length≤2000000000)→(∀a∈xs,∀M,M.length≤2000000000→R a M→∃gs,qX gs=M∧S a gs)→∃gss:List (List Fld),gss.map qX=ys∧QG xs gss S
 |[],[],_,_,_=>⟨[],rfl,rfl,by simp⟩
 |[],_::_,h,_,_=>by have:=h.1;simp at this
 |_::_,[],h,_,_=>by have:=h.1;simp at this
 |a::xs,M::ys,h,hb,hp=>by
    obtain ⟨gss,h1,h3⟩:=QG.choose (S:=S) (R:=R) (xs:=xs) (ys:=ys) ⟨by have:=h.1;simpa using this,fun i a' M' ha hM=>h.2 (i+1) a' M' (by simpa using ha) (by simpa using hM)⟩ (fun M hM=>hb M (by simp[hM])) fun a' ha=>hp a' (by simp[ha])
    obtain ⟨g,h4,h6⟩:=hp a zp M (hb M zp) (h.2 0 a M rfl rfl)
    refine ⟨g::gss,by simp[h1,h4],by simp[h3.1],fun i a' g' ha hg=>?_⟩
    cases i with
    |zero=>simp at ha hg;subst ha;subst hg;exact h6
    |succ i=>exact h3.2 i a' g' (by simpa using ha) (by simpa using hg)
theorem Kk.of {α:Type} {xs:List α} {gss:List (List Fld)} {S:α→Msg→Prop} (he:(fs.filter fun f=>kn f=k).map qn=gss.map qX) (h:QG xs gss fun a gs=>S a (cM gs)):(gss.map cM).length=xs.length∧Kk k fs (gss.map cM) fun i q=>∀t,xs[i]? =some t→S t q:=
 ⟨by simpa using h.1,by rw[he,List.map_map];exact List.map_congr_left fun g _=>(qep g).symm,fun i m hm t ht=>by
  rw[List.getElem?_map]at hm
  obtain ⟨g,h1,rfl⟩:=Option.map_eq_some_iff.1 hm
  exact h.2 i t g ht h1⟩
theorem qdZ (h:k<18446744073709551616):u64 (k:Int)=k:=by
 have:=Xd (k:Int)
 rw[qbI h]at this
 omega
theorem At.u64 {T:List ByteArray} {n:Int} {s:ByteArray} (h:At T n s) (hl:T.length≤100000000):T[u64 n]? =some s:=by
 obtain ⟨k,rfl,hk⟩:=h
 have:=(List.getElem?_eq_some_iff.1 hk).1
 rw[qdZ ox];exact hk
theorem JU {z:Int} (h:IntKind.i64.wrap z=z):IntKind.i64.wrap ((Go.Proofs.YtifdadlhmlhfiaaGreatDoor.u64 z:Nat):Int)=z:=by
 rw[Xd]
 simp[IntKind.wrap,IntKind.bits,IntKind.signed]at h⊢
 omega
def tyF (n m:Int):List Fld:=qu 1 (Go.Proofs.YtifdadlhmlhfiaaGreatDoor.u64 n)++qu 2 (Go.Proofs.YtifdadlhmlhfiaaGreatDoor.u64 m)
theorem qaQ (n m:Int):qX (tyF n m)=vtB n m:=by simp[tyF,vtB,xo,Qo]
theorem qgq {T:List ByteArray} {t:xn} {n m:Int} (hl:T.length≤100000000) (hb:(vtB n m).length≤2000000000) (h1:At T n t.ty) (h2:At T m t.unit):TyM T t (cM (tyF n m)):=by
 refine ⟨.canon ((Wft.opt ox (kX _) dq).app (Wft.opt ox (kX _) dq)) (by rw[qaQ];exact hb),?_,?_⟩
 ·rw[kZ];unfold tyF kE;simp only[kz,qJ,kw, ↓reduceIte,Nat.reduceEqDiff];exact h1.u64 hl
 ·rw[kZ];unfold tyF kE;simp only[kz,qJ,kw, ↓reduceIte,Nat.reduceEqDiff];exact h2.u64 hl
theorem MT.go {T:List ByteArray} {t:xn} {M:List Nat} (hl:T.length≤100000000) (hb:M.length≤2000000000) (h:MT T t M):∃gs,qX gs=M∧TyM T t (cM gs):=by
 obtain ⟨n,m,rfl,h1,h2⟩:=h
 exact ⟨tyF n m,qaQ n m,qgq hl hb h1 h2⟩
theorem Vv (b:Bool):zc b<18446744073709551616:=by cases b<;>simp[zc]
theorem YK (b:Bool):decide (zc b≠0)=b:=by cases b<;>simp[zc]
theorem MM.go {T:List ByteArray} {m:qK} {M:List Nat} (hl:T.length≤100000000) (hb:M.length≤2000000000) (hr:IntKind.u64.wrap m.id=m.id∧IntKind.u64.wrap m.start=m.start∧IntKind.u64.wrap m.limit=m.limit∧IntKind.u64.wrap m.offset=m.offset) (h:MM T m M):∃gs,qX gs=M∧MpM T m (cM gs):=by
 obtain ⟨n,k,rfl,h1,h2⟩:=h
 obtain ⟨r1,r2,r3,r4⟩:=hr
 have r1:=qN r1
 have r2:=qN r2
 have r3:=qN r3
 have r4:=qN r4
 have he:qX (qu 1 m.id.toNat++(qu 2 m.start.toNat++(qu 3 m.limit.toNat++(qu 4 m.offset.toNat++(qu 5 (Go.Proofs.YtifdadlhmlhfiaaGreatDoor.u64 n)++(qu 6 (Go.Proofs.YtifdadlhmlhfiaaGreatDoor.u64 k)++(qu 7 (zc m.fu)++(qu 8 (zc m.fi)++(qu 9 (zc m.li)++qu 10 (zc m.inl))))))))))=mpB m.id.toNat m.start.toNat m.limit.toNat m.offset.toNat n k m.fu m.fi m.li m.inl:=by simp[mpB,xo,Qo]
 refine ⟨_,he,?_⟩
 constructor
 ·exact .canon ((Wft.opt ox ox dq).app ((Wft.opt ox ox dq).app ((Wft.opt ox ox dq).app ((Wft.opt ox ox dq).app ((Wft.opt ox (kX _) dq).app ((Wft.opt ox (kX _) dq).app ((Wft.opt ox (Vv _) dq).app ((Wft.opt ox (Vv _) dq).app ((Wft.opt ox (Vv _) dq).app (Wft.opt ox (Vv _) dq)))))))))) (by rw[he];exact hb)
 ·rw[kZ];unfold kE;simp only[kz,qJ,kw, ↓reduceIte,Nat.reduceEqDiff];omega
 ·rw[kZ];unfold kE;simp only[kz,qJ,kw, ↓reduceIte,Nat.reduceEqDiff];omega
 ·rw[kZ];unfold kE;simp only[kz,qJ,kw, ↓reduceIte,Nat.reduceEqDiff];omega
 ·rw[kZ];unfold kE;simp only[kz,qJ,kw, ↓reduceIte,Nat.reduceEqDiff];omega
 ·rw[kZ];unfold kE;simp only[kz,qJ,kw, ↓reduceIte,Nat.reduceEqDiff];exact h1.u64 hl
 ·rw[kZ];unfold kE;simp only[kz,qJ,kw, ↓reduceIte,Nat.reduceEqDiff];exact h2.u64 hl
 ·rw[kZ];unfold kE;simp only[kz,qJ,kw, ↓reduceIte,Nat.reduceEqDiff];exact YK m.fu
 ·rw[kZ];unfold kE;simp only[kz,qJ,kw, ↓reduceIte,Nat.reduceEqDiff];exact YK m.fi
 ·rw[kZ];unfold kE;simp only[kz,qJ,kw, ↓reduceIte,Nat.reduceEqDiff];exact YK m.li
 ·rw[kZ];unfold kE;simp only[kz,qJ,kw, ↓reduceIte,Nat.reduceEqDiff];exact YK m.inl
theorem MF.go {T:List ByteArray} {f:yl} {M:List Nat} (hl:T.length≤100000000) (hb:M.length≤2000000000) (hr:IntKind.u64.wrap f.id=f.id∧IntKind.i64.wrap f.start=f.start) (h:MF T f M):∃gs,qX gs=M∧FnM T f (cM gs):=by
 obtain ⟨n,k,i,rfl,h1,h2,h3⟩:=h
 have r1:=qN hr.1
 have he:qX (qu 1 f.id.toNat++(qu 2 (Go.Proofs.YtifdadlhmlhfiaaGreatDoor.u64 n)++(qu 3 (Go.Proofs.YtifdadlhmlhfiaaGreatDoor.u64 k)++(qu 4 (Go.Proofs.YtifdadlhmlhfiaaGreatDoor.u64 i)++qu 5 (Go.Proofs.YtifdadlhmlhfiaaGreatDoor.u64 f.start)))))=fnB f.id.toNat n k i f.start:=by simp[fnB,xo,Qo]
 refine ⟨_,he,?_⟩
 constructor
 ·exact .canon ((Wft.opt ox ox dq).app ((Wft.opt ox (kX _) dq).app ((Wft.opt ox (kX _) dq).app ((Wft.opt ox (kX _) dq).app (Wft.opt ox (kX _) dq))))) (by rw[he];exact hb)
 ·rw[kZ];unfold kE;simp only[kz,qJ,kw, ↓reduceIte,Nat.reduceEqDiff];omega
 ·rw[kZ];unfold kE;simp only[kz,qJ,kw, ↓reduceIte,Nat.reduceEqDiff];exact h1.u64 hl
 ·rw[kZ];unfold kE;simp only[kz,qJ,kw, ↓reduceIte,Nat.reduceEqDiff];exact h2.u64 hl
 ·rw[kZ];unfold kE;simp only[kz,qJ,kw, ↓reduceIte,Nat.reduceEqDiff];exact h3.u64 hl
 ·rw[kZ];unfold kE;simp only[kz,qJ,kw, ↓reduceIte,Nat.reduceEqDiff];exact JU hr.2
theorem Ks {tb:Nat→Nat} {Ms:List (List Nat)} (hk:k<1048576) (ht:tb k≠1):Wft tb (msF k Ms):=fun f hf=>by
 obtain ⟨M, -,rfl⟩:=List.mem_map.1 hf
 exact ⟨hk,ht⟩
theorem ML.go {x:jD} {l:vP} {M:List Nat} (hr:Rng x) (hlx:l∈x.locs) (hb:M.length≤2000000000) (h:ML x l M):∃gs,qX gs=M∧LcM x l (cM gs):=by
 unfold ML at h
 obtain ⟨r1,r2,r3⟩:=hr.locs l hlx
 have r1:=qN r1
 have r2:=qN r2
 have rm:=hr.mid l.mapping
 have hf:∀n:vz,(fnid x n.fn).toNat<18446744073709551616:=fun n=>by have:=hr.fnid n.fn;omega
 obtain ⟨g,hg⟩:∃g,g=l.lines.map fun n=>qu 1 (fnid x n.fn).toNat++qu 2 (Go.Proofs.YtifdadlhmlhfiaaGreatDoor.u64 n.line):=⟨_,rfl⟩
 have hge:g.map qX=l.lines.map fun n=>lnB (fnid x n.fn).toNat n.line:=by rw[hg];simp[Function.comp_def,xo,Qo,lnB]
 obtain ⟨gs,hgs⟩:∃gs,gs=qu 1 l.id.toNat++(qu 2 (mid x l.mapping).toNat++(qu 3 l.addr.toNat++msF 4 (g.map qX))):=⟨_,rfl⟩
 have henc:qX gs=M:=by rw[h,hgs];simp only[xo,Qo,qbw,hge]
 have hk4:∀f∈msF 4 (g.map qX),kn f=4:=Ke
 have hlen:∀a∈g,(qX a).length≤2000000000:=fun a ha=>by
  have h1:Fld.bys 4 (qX a)∈gs:=by
   rw[hgs];simp only[List.mem_append]
   exact .inr (.inr (.inr (mq (mq ha))))
  have h2:=Vq h1
  rw[henc]at h2
  exact Nat.le_trans h2 hb
 refine ⟨gs,henc,?_⟩
 constructor
 ·refine .canon ?_ (by rw[henc];exact hb)
  rw[hgs]
  exact (Wft.opt ox ox dq).app ((Wft.opt ox ox dq).app ((Wft.opt ox ox dq).app (Ks ox dq)))
 ·rw[kZ];unfold kE;rw[hgs];simp only[kz];rw[Vi hk4 dq];simp only[kz,qJ,kw, ↓reduceIte,Nat.reduceEqDiff];omega
 ·rw[kZ];unfold kE;rw[hgs];simp only[kz];rw[Vi hk4 dq];simp only[kz,qJ,kw, ↓reduceIte,Nat.reduceEqDiff];omega
 ·rw[kZ];unfold kE;rw[hgs];simp only[kz];rw[Vi hk4 dq];simp only[kz,qJ,kw, ↓reduceIte,Nat.reduceEqDiff];omega
 ·rw[kZ]
  obtain ⟨h1,h2⟩:=Kk.of (k:=4) (fs:=gs) (xs:=l.lines) (gss:=g) (S:=LnM x) (by
   rw[hgs];simp only[List.filter_append]
   rw[QX JK dq,QX JK dq,QX JK dq,Xt hk4]
   simp only[List.nil_append,qhQ]) (by
   refine ⟨by rw[hg];simp,fun i n a hn ha=>?_⟩
   have hla:=hlen a (mG ha)
   rw[hg,List.getElem?_map,hn]at ha
   simp only[Option.map_some,Option.some.injEq]at ha
   subst ha
   have hnl:=mG hn
   refine ⟨.canon ((Wft.opt ox (hf n) dq).app (Wft.opt ox (kX _) dq)) hla,?_,?_⟩
   ·rw[kZ];unfold kE;simp only[kz,qJ,kw, ↓reduceIte,Nat.reduceEqDiff]
    have:=hr.fnid n.fn
    omega
   ·rw[kZ];unfold kE;simp only[kz,qJ,kw, ↓reduceIte,Nat.reduceEqDiff];exact JU (r3 n hnl))
  exact ⟨_,h1,h2⟩
theorem At.zero {T:List ByteArray} {n:Int} {s:ByteArray} (h:At T n s) (hz:T[0]? =some eB) (hn:n=0):s=eB:=by
 obtain ⟨k,rfl,hk⟩:=h
 obtain rfl:k=0:=by omega
 rw[hz]at hk
 exact (Option.some.inj hk).symm
theorem qcx (a b:List LE) (k:ByteArray):Jw (a++b) k=Jw a k++Jw b k:=List.filterMap_append
theorem qcz (a b:List LE) (k:ByteArray):Jx (a++b) k=Jx a k++Jx b k:=List.filterMap_append
theorem qly (t:xB) (k:ByteArray):Jw (xG t) k=if t.key=k then t.list else []:=by
 unfold Jw xG
 rw[List.filterMap_map]
 split
 ·next h=>rw[show ((fun e:LE=>if e.1=k then e.2.1 else none)∘fun v=>(t.key,some v,(0:Int)))=some from by funext v;simp[h]];exact List.filterMap_some
 ·next h=>rw[show ((fun e:LE=>if e.1=k then e.2.1 else none)∘fun v=>(t.key,some v,(0:Int)))=fun _=>none from by funext v;simp[h]];simp
theorem qlx (t:zf) (k:ByteArray):Jw (yr t) k=[]:=by
 unfold Jw yr
 rw[List.filterMap_map,List.filterMap_eq_nil_iff]
 intro v _
 simp
theorem qlA (t:xB) (k:ByteArray):Jx (xG t) k=[]:=by
 unfold Jx xG
 rw[List.filterMap_map,List.filterMap_eq_nil_iff]
 intro v _
 simp
theorem qlz (t:zf) (k:ByteArray):Jx (yr t) k=if t.key=k then t.list else []:=by
 unfold Jx yr
 rw[List.filterMap_map]
 split
 ·next h=>rw[show ((fun e:LE=>if e.1=k∧e.2.1=none then some e.2.2 else none)∘fun v=>(t.key,none,v))=some from by funext v;simp[h]];exact List.filterMap_some
 ·next h=>rw[show ((fun e:LE=>if e.1=k∧e.2.1=none then some e.2.2 else none)∘fun v=>(t.key,none,v))=fun _=>none from by funext v;simp[h]];simp
theorem Zn {α β:Type} {f:α→List β} {k:α→ByteArray} {l:α→List β} (hf:∀a c,k a≠c→True):∀{xs:List α} {a:α},(xs.map k).Nodup→a∈xs→(∀b∈xs,f b=if k b=k a then l b else [])→xs.flatMap f=l a
 |[],_,_,h,_=>by cases h
 |b::r,a,hn,h,hl=>by
    have hn':=List.nodup_cons.1 (by simpa using hn:(k b::r.map k).Nodup)
    rw[List.flatMap_cons,hl b zp]
    rcases mC h with rfl|h
    ·rw[if_pos rfl]
     have:r.flatMap f=[]:=List.flatMap_eq_nil_iff.2 fun c hc=>by
      rw[hl c (by simp[hc]),if_neg]
      intro e;exact hn'.1 (by rw[← e];exact mq hc)
     rw[this,List.append_nil]
    ·rw[if_neg (fun e=>hn'.1 (by rw[e];exact mq h)),List.nil_append]
     exact Zn (fun _ _ _=>trivial) hn'.2 h fun c hc=>hl c (by simp[hc])
theorem XR {α:Type} (g:α→List LE) (k:ByteArray):∀xs:List α,Jw (xs.flatMap g) k=xs.flatMap fun a=>Jw (g a) k
 |[]=>rfl
 |a::r=>by rw[List.flatMap_cons,qcx,XR g k r,List.flatMap_cons]
theorem XS {α:Type} (g:α→List LE) (k:ByteArray):∀xs:List α,Jx (xs.flatMap g) k=xs.flatMap fun a=>Jx (g a) k
 |[]=>rfl
 |a::r=>by rw[List.flatMap_cons,qcz,XS g k r,List.flatMap_cons]
theorem zQ.lbs (hT:(s.texts.map (·.key)).Nodup) (hN:(s.nums.map (·.key)).Nodup):ZE (QE s) s:=by
 refine ⟨fun t ht=>?_,fun t ht=>?_,fun e he v hv=>?_,fun e he hv=>?_⟩
 ·unfold QE
  rw[qcx,XR,XR,show s.nums.flatMap (fun a=>Jw (yr a) t.key)=[] from List.flatMap_eq_nil_iff.2 fun c _=>qlx c _,List.append_nil]
  exact Zn (k:=(·.key)) (l:=(·.list)) (fun _ _ _=>trivial) hT ht fun b _=>qly b _
 ·unfold QE
  rw[qcz,XS,XS,show s.texts.flatMap (fun a=>Jx (xG a) t.key)=[] from List.flatMap_eq_nil_iff.2 fun c _=>qlA c _,List.nil_append]
  exact Zn (k:=(·.key)) (l:=(·.list)) (fun _ _ _=>trivial) hN ht fun b _=>qlz b _
 ·unfold QE at he
  rcases mA he with he|he
  ·obtain ⟨u,hu,he⟩:=List.mem_flatMap.1 he
   obtain ⟨c,hc,rfl⟩:=List.mem_map.1 he
   exact mq hu
  ·obtain ⟨u,hu,he⟩:=List.mem_flatMap.1 he
   obtain ⟨c,hc,rfl⟩:=List.mem_map.1 he
   cases hv
 ·unfold QE at he
  rcases mA he with he|he
  ·obtain ⟨u,hu,he⟩:=List.mem_flatMap.1 he
   obtain ⟨c,hc,rfl⟩:=List.mem_map.1 he
   cases hv
  ·obtain ⟨u,hu,he⟩:=List.mem_flatMap.1 he
   obtain ⟨c,hc,rfl⟩:=List.mem_map.1 he
   exact mq hu
def lbF (q:Int×Int×Int):List Fld:=qu 1 (Go.Proofs.YtifdadlhmlhfiaaGreatDoor.u64 q.1)++(qu 2 (Go.Proofs.YtifdadlhmlhfiaaGreatDoor.u64 q.2.1)++qu 3 (Go.Proofs.YtifdadlhmlhfiaaGreatDoor.u64 q.2.2))
theorem qjr (q:Int×Int×Int):qX (lbF q)=lbB q.1 q.2.1 q.2.2:=by simp[lbF,lbB,xo,Qo]
theorem qlw {T:List ByteArray} {q:Int×Int×Int} {e:LE} (hb:(qX (lbF q)).length≤2000000000) (hl:T.length≤100000000) (hz:T[0]? =some eB) (hne:∀t,e.2.1=some t→t≠eB) (hw:e.2.1=none→IntKind.i64.wrap e.2.2=e.2.2) (h:qgh T q e):LbM T e (cM (lbF q)):=by
 obtain ⟨h1,h2⟩:=h
 have e1:kE 1 (lbF q)=Go.Proofs.YtifdadlhmlhfiaaGreatDoor.u64 q.1:=by unfold lbF kE;simp only[kz,qJ,kw, ↓reduceIte,Nat.reduceEqDiff]
 have e2:kE 2 (lbF q)=Go.Proofs.YtifdadlhmlhfiaaGreatDoor.u64 q.2.1:=by unfold lbF kE;simp only[kz,qJ,kw, ↓reduceIte,Nat.reduceEqDiff]
 have e3:kE 3 (lbF q)=Go.Proofs.YtifdadlhmlhfiaaGreatDoor.u64 q.2.2:=by unfold lbF kE;simp only[kz,qJ,kw, ↓reduceIte,Nat.reduceEqDiff]
 refine ⟨.canon ((Wft.opt ox (kX _) dq).app ((Wft.opt ox (kX _) dq).app (Wft.opt ox (kX _) dq))) hb,by rw[kZ,e1];exact h1.u64 hl,?_⟩
 rw[kZ]
 cases hc:e.2.1 with
 |some t=>
  rw[hc]at h2
  simp only at h2⊢
  have h3:=h2.1.u64 hl
  rw[e2]
  refine ⟨fun h0=>?_,h3⟩
  rw[h0,hz]at h3
  exact hne t hc (Option.some.inj h3).symm
 |none=>
  rw[hc]at h2
  simp only at h2⊢
  rw[e2,e3,h2.1,h2.2]
  exact ⟨by rw[← Int.ofNat_zero];exact qdZ ox,JU (hw hc)⟩
theorem qch {ks:List ByteArray} (h:ks.Pairwise fun x y=>ltB x y=true):ks.Nodup:=h.imp fun {a b} h e=>by subst e;rw[zv]at h;cases h
theorem MS.go {x:jD} {T:List ByteArray} {M:List Nat} (hx:vW x) (hr:Rng x) (hl:T.length≤100000000) (hz:T[0]? =some eB) (hsx:s∈x.samples) (hb:M.length≤2000000000) (h:MS T x s M):∃gs,qX gs=M∧SmM x T s (cM gs):=by
 obtain ⟨lbs,hlb,hM⟩:=h
 obtain ⟨hv1,hv2,hst,hLab,hsk⟩:=hx.samples s hsx
 have hid:∀n∈s.stack.map fun z=>(lid x z).toNat,n<18446744073709551616:=fun n hn=>by
  obtain ⟨z, -,rfl⟩:=List.mem_map.1 hn
  have:=hr.lid z
  omega
 obtain ⟨g,hg⟩:∃g,g=lbs.map lbF:=⟨_,rfl⟩
 have hge:g.map qX=lbs.map fun q=>lbB q.1 q.2.1 q.2.2:=by rw[hg,List.map_map];exact List.map_congr_left fun q _=>qjr q
 obtain ⟨vs,hvs⟩:∃vs,vs=(s.values.map Go.Proofs.YtifdadlhmlhfiaaGreatDoor.u64).map (Fld.num 2):=⟨_,rfl⟩
 have hk2:∀f∈vs,kn f=2:=by rw[hvs];exact qet
 have hk3:∀f∈msF 3 (g.map qX),kn f=3:=Ke
 obtain ⟨gs,hgs⟩:∃gs,gs=usF 1 (s.stack.map fun z=>(lid x z).toNat)++(vs++msF 3 (g.map qX)):=⟨_,rfl⟩
 have henc:qX gs=M:=by
  rw[hM,hgs,smB,xo,xo,qlK,qbw,hge]
  congr 2
  rw[hvs,qX,List.flatMap_map,List.flatMap_map];rfl
 have hlen:∀a∈g,(qX a).length≤2000000000:=fun a ha=>by
  have h1:Fld.bys 3 (qX a)∈gs:=by
   rw[hgs];simp only[List.mem_append]
   exact .inr (.inr (mq (mq ha)))
  have h2:=Vq h1
  rw[henc]at h2
  exact Nat.le_trans h2 hb
 refine ⟨gs,henc,?_⟩
 constructor
 ·refine .canon ?_ (by rw[henc];exact hb)
  rw[hgs]
  refine Wft.app (fun f hf=>?_) (Wft.app (fun f hf=>?_) (Ks ox dq))
  ·unfold usF at hf
   split at hf
   ·simp only[List.mem_singleton]at hf
    subst hf
    exact ⟨by omega,by decide⟩
   ·obtain ⟨n,hn,rfl⟩:=List.mem_map.1 hf
    exact ⟨by omega,hid n hn,by decide⟩
  ·rw[hvs]at hf
   obtain ⟨n,hn,rfl⟩:=List.mem_map.1 hf
   obtain ⟨z, -,rfl⟩:=List.mem_map.1 hn
   exact ⟨by omega,kX z,by decide⟩
 ·obtain ⟨ns1,hn1,hn1f⟩:=zR.us 1 (s.stack.map fun z=>(lid x z).toNat) hid
  refine ⟨ns1++((vs++msF 3 (g.map qX)).map fun _=>[]),?_,?_⟩
  ·rw[kZ,hgs]
   exact hn1.app (zR.none fun f hf=>by
    rcases mA hf with hf|hf
    ·rw[hk2 f hf];decide
    ·rw[hk3 f hf];decide)
  ·rw[List.flatten_append,Vp,List.append_nil,hn1f,List.map_map]
   refine List.map_congr_left fun z _=>?_
   have:=hr.lid z
   simp only[Function.comp_apply]
   omega
 ·refine ⟨((usF 1 (s.stack.map fun z=>(lid x z).toNat)).map fun _=>[])++(((s.values.map Go.Proofs.YtifdadlhmlhfiaaGreatDoor.u64).map fun n=>[n])++((msF 3 (g.map qX)).map fun _=>[])),?_,?_⟩
  ·rw[kZ,hgs,hvs]
   exact (zR.none fun f hf=>by rw[qhv f hf];decide).app (zR.app (zR.nums 2 _ fun n hn=>by
    obtain ⟨z, -,rfl⟩:=List.mem_map.1 hn
    exact kX z) (zR.none fun f hf=>by rw[hk3 f hf];decide))
  ·rw[List.flatten_append,List.flatten_append,Vp,Vp,List.append_nil,List.nil_append,QY,List.map_map]
   conv=>rhs;rw[← List.map_id s.values]
   refine List.map_congr_left fun z hz=>?_
   exact JU (hr.vals s hsx z hz)
 ·obtain ⟨h1,h2⟩:=Kk.of (k:=3) (fs:=gs) (xs:=QE s) (gss:=g) (S:=LbM T) (by
   rw[hgs];simp only[List.filter_append]
   rw[QX qhv dq,QX hk2 dq,Xt hk3]
   simp only[List.nil_append,qhQ]) (by
   refine ⟨by rw[hg,List.length_map];exact hlb.1,fun i e a hei ha=>?_⟩
   have hla:=hlen a (mG ha)
   rw[hg,List.getElem?_map]at ha
   obtain ⟨q,hq,rfl⟩:=Option.map_eq_some_iff.1 ha
   refine qlw hla hl hz (fun t ht he=>?_) (fun hn=>?_) (hlb.2 i q e hq hei)
   ·have hm:=mG hei
    unfold QE at hm
    rcases mA hm with hm|hm
    ·obtain ⟨u,hu,hm⟩:=List.mem_flatMap.1 hm
     obtain ⟨v,hv,rfl⟩:=List.mem_map.1 hm
     simp at ht
     subst ht;subst he
     exact (hLab.tl u hu).2.2 hv
    ·obtain ⟨u,hu,hm⟩:=List.mem_flatMap.1 hm
     obtain ⟨v,hv,rfl⟩:=List.mem_map.1 hm
     cases ht
   ·have hm:=mG hei
    unfold QE at hm
    rcases mA hm with hm|hm
    ·obtain ⟨u,hu,hm⟩:=List.mem_flatMap.1 hm
     obtain ⟨v,hv,rfl⟩:=List.mem_map.1 hm
     cases hn
    ·obtain ⟨u,hu,hm⟩:=List.mem_flatMap.1 hm
     obtain ⟨v,hv,rfl⟩:=List.mem_map.1 hm
     exact hr.nums s hsx u hu v hv)
  rw[kZ]
  exact ⟨_,QE s,h1,h2,zQ.lbs (qch hLab.tpw) (qch hLab.npw),by have:=Zk hLab;omega⟩
def pfF (q:PIn):List Fld:=msF 1 q.ts++(msF 2 q.ss++(msF 3 q.ms++(msF 4 q.ls++(msF 5 q.fs++(qbO 6 q.tab++(qu 7 (Go.Proofs.YtifdadlhmlhfiaaGreatDoor.u64 q.dx)++(qu 8 (Go.Proofs.YtifdadlhmlhfiaaGreatDoor.u64 q.kx)++(qu 9 (Go.Proofs.YtifdadlhmlhfiaaGreatDoor.u64 q.ti)++(qu 10 (Go.Proofs.YtifdadlhmlhfiaaGreatDoor.u64 q.du)++((if q.tx≠0∨q.ux≠0 then msF 11 [vtB q.tx q.ux] else [])++qu 12 (Go.Proofs.YtifdadlhmlhfiaaGreatDoor.u64 q.pe)))))))))))
theorem YE (q:PIn):qX (pfF q)=pfB q:=by
 unfold pfF pfB
 simp only[xo,qbw,qjI,Qo]
 congr 10
 split
 ·rw[qbw];simp[msB]
 ·rfl
theorem qhw {p:Prop} [Decidable p] {Ms:List (List Nat)}:∀f∈(if p then msF k Ms else []),kn f=k:=fun f hf=>by
 split at hf
 ·exact Ke f hf
 ·cases hf
theorem Xj (k j s:Nat) (Ms:List (List Nat)) (h:j≠k):jP k s (msF j Ms)=s:=Vi Ke h
theorem qgT (k j s:Nat) (Ms:List ByteArray) (h:j≠k):jP k s (qbO j Ms)=s:=Vi YF h
theorem qiQ {p:Prop} [Decidable p] (k j s:Nat) (Ms:List (List Nat)) (h:j≠k):jP k s (if p then msF j Ms else [])=s:=Vi qhw h
theorem uin {x:jD} {T:List ByteArray} {q:PIn} (h:PR x T q) (hx:vW x) (hr:Rng x) (hS:xt (yz x)≤100000000) (hc:x.comments=[]) (hd:x.deflt=eB):UIn x T (cM (pfF q)):=by
 have hTS:xt T≤100000000:=Nat.le_trans (YS h.nd h.sub) hS
 have hl:T.length≤100000000:=Nat.le_trans QU hTS
 have hlen:(pfB q).length≤2000000000:=qgQ h hr hx hTS
 have he:(qX (pfF q)).length≤2000000000:=by rw[YE];exact hlen
 have hin:∀(k:Nat) (M:List Nat),Fld.bys k M∈pfF q→M.length≤2000000000:=fun k M hM=>Nat.le_trans (Vq (f:=.bys k M) hM) he
 obtain ⟨gt,t1,t3⟩:=h.ts.choose (S:=fun t g=>TyM T t (cM g)) (fun M hM=>hin 1 M (by simp only[pfF,List.mem_append];exact .inl (mq hM))) fun a _ M hb hM=>MT.go hl hb hM
 obtain ⟨gs,s1,s3⟩:=h.ss.choose (S:=fun t g=>SmM x T t (cM g)) (fun M hM=>hin 2 M (by simp only[pfF,List.mem_append];exact .inr (.inl (mq hM)))) fun a ha M hb hM=>MS.go hx hr hl h.zero ha hb hM
 obtain ⟨gm,m1,m3⟩:=h.ms.choose (S:=fun t g=>MpM T t (cM g)) (fun M hM=>hin 3 M (by simp only[pfF,List.mem_append];exact .inr (.inr (.inl (mq hM))))) fun a ha M hb hM=>MM.go hl hb (hr.maps a ha) hM
 obtain ⟨gl,l1,l3⟩:=h.ls.choose (S:=fun t g=>LcM x t (cM g)) (fun M hM=>hin 4 M (by simp only[pfF,List.mem_append];exact .inr (.inr (.inr (.inl (mq hM)))))) fun a ha M hb hM=>ML.go hr ha hb hM
 obtain ⟨gf,f1,f3⟩:=h.fs.choose (S:=fun t g=>FnM T t (cM g)) (fun M hM=>hin 5 M (by simp only[pfF,List.mem_append];exact .inr (.inr (.inr (.inr (.inl (mq hM))))))) fun a ha M hb hM=>MF.go hl hb (hr.funs a ha) hM
 have hw:Wft qaR (pfF q):=by
  refine (Ks ox dq).app ((Ks ox dq).app ((Ks ox dq).app ((Ks ox dq).app ((Ks ox dq).app (Wft.app (fun f hf=>?_) ((Wft.opt ox (kX _) dq).app ((Wft.opt ox (kX _) dq).app ((Wft.opt ox (kX _) dq).app ((Wft.opt ox (kX _) dq).app (Wft.app ?_ (Wft.opt ox (kX _) dq)))))))))))
  ·obtain ⟨s, -,rfl⟩:=List.mem_map.1 hf
   exact ⟨by omega,by decide⟩
  ·split
   ·exact Ks ox dq
   ·intro f hf;cases hf
 have one:∀(k:Nat) (n:Nat),(k=7∨k=8∨k=9∨k=10∨k=12∨k=14)→n=(if k=7 then Go.Proofs.YtifdadlhmlhfiaaGreatDoor.u64 q.dx else if k=8 then Go.Proofs.YtifdadlhmlhfiaaGreatDoor.u64 q.kx else if k=9 then Go.Proofs.YtifdadlhmlhfiaaGreatDoor.u64 q.ti else if k=10 then Go.Proofs.YtifdadlhmlhfiaaGreatDoor.u64 q.du else if k=12 then Go.Proofs.YtifdadlhmlhfiaaGreatDoor.u64 q.pe else 0)→kE k (pfF q)=n:=fun k n hk hn=>by
  rw[hn]
  unfold pfF kE
  simp only[kz]
  rcases hk with rfl|rfl|rfl|rfl|rfl|rfl<;>
  ·rw[Xj _ 1 _ _ dq,Xj _ 2 _ _ dq,Xj _ 3 _ _ dq,Xj _ 4 _ _ dq,Xj _ 5 _ _ dq,qgT _ 6 _ _ dq,qiQ _ 11 _ _ dq]
   simp only[qJ,kw, ↓reduceIte,Nat.reduceEqDiff]
 have flt:∀(k:Nat),((pfF q).filter fun f=>kn f=k).map qn=(((msF 1 q.ts).filter fun f=>kn f=k).map qn)++((((msF 2 q.ss).filter fun f=>kn f=k).map qn)++((((msF 3 q.ms).filter fun f=>kn f=k).map qn)++((((msF 4 q.ls).filter fun f=>kn f=k).map qn)++((((msF 5 q.fs).filter fun f=>kn f=k).map qn)++((((qbO 6 q.tab).filter fun f=>kn f=k).map qn)++((((qu 7 (Go.Proofs.YtifdadlhmlhfiaaGreatDoor.u64 q.dx)).filter fun f=>kn f=k).map qn)++((((qu 8 (Go.Proofs.YtifdadlhmlhfiaaGreatDoor.u64 q.kx)).filter fun f=>kn f=k).map qn)++((((qu 9 (Go.Proofs.YtifdadlhmlhfiaaGreatDoor.u64 q.ti)).filter fun f=>kn f=k).map qn)++((((qu 10 (Go.Proofs.YtifdadlhmlhfiaaGreatDoor.u64 q.du)).filter fun f=>kn f=k).map qn)++((((if q.tx≠0∨q.ux≠0 then msF 11 [vtB q.tx q.ux] else []).filter fun f=>kn f=k).map qn)++(((qu 12 (Go.Proofs.YtifdadlhmlhfiaaGreatDoor.u64 q.pe)).filter fun f=>kn f=k).map qn))))))))))):=fun k=>by
  unfold pfF
  simp only[List.filter_append,List.map_append]
 have fm:∀(k j:Nat) (Ms:List (List Nat)),((msF j Ms).filter fun f=>kn f=k).map qn=if j=k then Ms else []:=fun k j Ms=>by
  split
  ·next e=>subst e;rw[Xt Ke,qhQ]
  ·next e=>rw[QX Ke e];rfl
 have fs6:∀(k j:Nat) (Ms:List ByteArray),((qbO j Ms).filter fun f=>kn f=k).map qn=if j=k then Ms.map sB else []:=fun k j Ms=>by
  split
  ·next e=>subst e;rw[Xt YF,qlI]
  ·next e=>rw[QX YF e];rfl
 have fo:∀(k j n:Nat),j≠k→((qu j n).filter fun f=>kn f=k).map qn=[]:=fun k j n e=>by rw[QX JK e];rfl
 have fi:∀(k:Nat),((if q.tx≠0∨q.ux≠0 then msF 11 [vtB q.tx q.ux] else []).filter fun f=>kn f=k).map qn=if 11=k then (if q.tx≠0∨q.ux≠0 then [vtB q.tx q.ux] else []) else []:=fun k=>by
  split
  ·rw[fm]
  ·simp
 have sub:∀(k:Nat) (g:List (List Fld)),k=1∨k=2∨k=3∨k=4∨k=5∨k=11→g.map qX=(if 1=k then q.ts else if 2=k then q.ss else if 3=k then q.ms else if 4=k then q.ls else if 5=k then q.fs else if q.tx≠0∨q.ux≠0 then [vtB q.tx q.ux] else [])→((pfF q).filter fun f=>kn f=k).map qn=g.map qX:=fun k g hk hg=>by
  rw[flt k,hg]
  simp only[fm,fs6,fi]
  rcases hk with rfl|rfl|rfl|rfl|rfl|rfl<;>simp[fo]
 constructor
 ·exact .canon hw he
 ·rw[kZ,flt 6]
  simp only[fm,fs6,fi]
  simp[fo,h.tab]
 ·exact h.zero
 ·omega
 ·rw[kZ,one 7 _ ox rfl];simp only[↓reduceIte];exact h.dx.u64 hl
 ·rw[kZ,one 8 _ ox rfl];simp only[↓reduceIte,Nat.reduceEqDiff];exact h.kx.u64 hl
 ·rw[kZ,one 9 _ ox rfl];simp only[↓reduceIte,Nat.reduceEqDiff,h.ti];exact JU hr.time
 ·rw[kZ,one 10 _ ox rfl];simp only[↓reduceIte,Nat.reduceEqDiff,h.du];exact JU hr.dur
 ·rw[kZ,one 12 _ ox rfl];simp only[↓reduceIte,Nat.reduceEqDiff,h.pe];exact JU hr.period
 ·rw[kZ,one 14 _ ox rfl];simp only[↓reduceIte,Nat.reduceEqDiff,hd];exact h.zero
 ·rw[kZ];obtain ⟨h1,h2⟩:=Kk.of (S:=TyM T) (sub 1 gt ox (by rw[t1];simp)) t3;exact ⟨_,h1,h2⟩
 ·rw[kZ];obtain ⟨h1,h2⟩:=Kk.of (S:=SmM x T) (sub 2 gs ox (by rw[s1];simp)) s3;exact ⟨_,h1,h2⟩
 ·rw[kZ];obtain ⟨h1,h2⟩:=Kk.of (S:=MpM T) (sub 3 gm ox (by rw[m1];simp)) m3;exact ⟨_,h1,h2⟩
 ·rw[kZ];obtain ⟨h1,h2⟩:=Kk.of (S:=LcM x) (sub 4 gl ox (by rw[l1];simp)) l3;exact ⟨_,h1,h2⟩
 ·rw[kZ];obtain ⟨h1,h2⟩:=Kk.of (S:=FnM T) (sub 5 gf ox (by rw[f1];simp)) f3;exact ⟨_,h1,h2⟩
 ·rw[kZ]
  by_cases hp:q.tx≠0∨q.ux≠0
  ·have hvl:(vtB q.tx q.ux).length≤2000000000:=hin 11 _ (by simp only[pfF,List.mem_append];rw[if_pos hp];simp)
   obtain ⟨h1,h2⟩:=Kk.of (xs:=[x.per]) (S:=TyM T) (sub 11 [tyF q.tx q.ux] ox (by simp[qaQ,hp])) ⟨rfl,fun i a b ha hb=>by
    cases i with
    |zero=>simp at ha hb;subst ha;subst hb;exact qgq hl hvl h.tx h.ux
    |succ i=>simp at ha⟩
   refine ⟨_,by rw[h1];simp,fun h0=>by simp at h0,⟨h2.eq,fun i m hm=>?_⟩⟩
   cases i with
   |zero=>exact h2.ok 0 m hm x.per rfl
   |succ i=>simp at hm
  ·refine ⟨[],by simp,fun _=>?_,⟨by rw[sub 11 [] ox (by simp[hp])];rfl,fun i m hm=>by simp at hm⟩⟩
   have h1:=h.tx.zero h.zero ox
   have h2:=h.ux.zero h.zero ox
   cases hpp:x.per with
   |mk a b=>rw[hpp]at h1 h2;simp only at h1 h2;rw[h1,h2]
 ·rw[kZ]
  refine ⟨_,zR.none fun f hf=>?_,by rw[hc,Vp];exact ⟨rfl,by simp⟩⟩
  unfold pfF at hf
  simp only[List.mem_append]at hf
  rcases hf with hf|hf|hf|hf|hf|hf|hf|hf|hf|hf|hf|hf
  ·rw[Ke f hf];decide
  ·rw[Ke f hf];decide
  ·rw[Ke f hf];decide
  ·rw[Ke f hf];decide
  ·rw[Ke f hf];decide
  ·rw[YF f hf];decide
  ·rw[JK f hf];decide
  ·rw[JK f hf];decide
  ·rw[JK f hf];decide
  ·rw[JK f hf];decide
  ·rw[qhw f hf];decide
  ·rw[JK f hf];decide
theorem qiM {x:jD} {T:List ByteArray} {q:PIn} (h:PR x T q):0<(pfB q).length:=by
 rw[← YE]
 have hm:(Fld.bys 6 (sB eB))∈pfF q:=by
  unfold pfF
  simp only[List.mem_append]
  refine .inr (.inr (.inr (.inr (.inr (.inl (List.mem_map.2 ⟨eB,?_,rfl⟩))))))
  rw[h.tab];exact mG h.zero
 obtain ⟨a,b,e⟩:=List.append_of_mem hm
 rw[e]
 have:=qcJ (Fld.bys 6 (sB eB))
 unfold qX
 rw[List.flatMap_append,List.flatMap_cons,lA,lA]
 omega
theorem VC.le {B':Nat} {T:List ByteArray} {x:jD} {vp:Value} (h:VC B T x g vp w) (hB:B'≤B):VC B' T x g vp w:=by
 obtain ⟨f1,f2,f3,f4,f5⟩:=h.fresh
 have lo:∀{n:Nat},B≤n→B'≤n:=fun h=>Nat.le_trans hB h
 exact { h with
  per:=h.per.imp id fun ⟨e1,e2,e3,e4⟩=>⟨e1,e2,lo e3,e4⟩
  locs:=h.locs.mono fun b t hh=>hh.mono (fun _ h=>h) fun b cs hb hk=>⟨hk,lo hb.1,hb.2⟩
  sams:=h.sams.mono fun b t hh=>hh.mono (fun _ h=>h) (fun b cs hb hk=>⟨hk,lo hb⟩) (fun b cs hb hk=>⟨hk,lo hb⟩) (fun b cs hb hk=>⟨hk,lo hb⟩)
  fresh:=⟨fun b hb=>lo (f1 b hb),fun b hb=>lo (f2 b hb),fun b hb=>lo (f3 b hb),fun b hb=>lo (f4 b hb),fun b hb=>lo (f5 b hb)⟩ }
theorem OfQ.fr {x:jD} (h:OfQ B w x g) (k:Fr 0 [] w w'):OfQ B w' x g:=by
 have kr:=fun (b T:Nat) (cs:List Value) (hb:Blk w b T cs)=>k.blk hb (.inr zp)
 have km:∀(b:Nat) (es:Array MapEntry) (ck:Nat),w.heap[b]? =some (.map es ck)→w'.heap[b]? =some (.map es ck):=fun b es ck hb=>k.keep _ _ hb (.inr zp)
 obtain ⟨ty,sa,ma,lo,fu,co,h1,h2,h3,h4,h5,h6,h7⟩:=h.prof
 exact { prof:=⟨ty,sa,ma,lo,fu,co,kr _ _ _ h1,h2.mono fun b cs=>kr _ _ cs,h3.mono fun b cs=>kr _ _ cs,h4.mono fun b cs=>kr _ _ cs,h5.mono fun b cs=>kr _ _ cs,h6.mono fun b cs=>kr _ _ cs,h7.mono fun b cs=>kr _ _ cs⟩
         per:=kr _ _ _ h.per
         types:=h.types.mono fun b t=>kr _ _ _
         maps:=h.maps.mono fun b t=>kr _ _ _
         funs:=h.funs.mono fun b t=>kr _ _ _
         locs:=h.locs.mono fun b l hl=>hl.mono (fun b cs=>kr _ _ cs) (fun b cs=>kr _ _ cs)
         sams:=h.sams.mono fun b l hl=>hl.mono (fun cs=>kr _ _ cs) (fun b cs=>kr _ _ cs) (fun b cs=>kr _ _ cs) (fun b cs=>kr _ _ cs) km
         ntypes:=h.ntypes
         nmaps:=h.nmaps
         nfuns:=h.nfuns
         nlocs:=h.nlocs
         nsams:=h.nsams
         fresh:=h.fresh
         rows:=fun b hb=>(h.rows b hb).mono fun b cs=>kr _ _ cs }
set_option maxHeartbeats 1000000 in
theorem qic (B:Nat) (w:World) (x:jD) (g:G) (hG:OfP B w x g) (hx:vW x) (hr:Rng x) (hS:xt (yz x)≤100000000) (hc:x.comments=[]) (hd:x.deflt=eB):
  Calls Tryz.prog 47 #[ptr g.pb] w (Ret fun v w'=>(∃g',v=ptr g'.pb∧OfQ w.heap.size w' x g'∧∀b∈g'.sams,VR w.heap.size w' b)∧Fr B (ju::wP) w w'):=by
 have hSl:(yz x).length≤100000000:=Nat.le_trans QU hS
 refine jr (args:=[_]) [(0,_)] 0 [] [] func47 rfl ntmps47 rfl rfl .nil ?_
 refine sQ fun K1=>jb (jA (k:=K1 (sQ fun K2=>jb (jM (k:=?_)))))
 refine kQ (R:=fun w1 _ w2=>∃T,qcY B w1 w2 x g T) call86 rfl rfl (fun w1 hH hf=>qck B w1 x g (hG.keep' hf) hx hSl) fun w1 v w2 hH1 hf1 hR=>?_
 obtain ⟨T,hE⟩:=hR
 have hT:xt T≤100000000:=Nat.le_trans (YS hE.nd hE.sub) hS
 have hfr:Fr B (ju::wP) w w2:=Fr.trans (hf1.quiet B (ju::wP)) hE.fr (.inr ⟨Nat.le_refl _,fun _ h=>h⟩)
 refine J.begin ⟨w2,0,[]⟩ [] jx .nil ?_
 refine K2 (sQ fun K3=>jb (jM (k:=?_)))
 refine jn rfl (fun _ _ h=>zK QM rfl rfl h) ?_
 refine kQ (R:=fun w3 v w4=>(∃M,(∃q,PR x T q∧M=pfB q)∧OS tU8 1 w4 v (M.map bv))∧Fr 0 [] w3 w4) call87 rfl rfl (fun w3 hH hf=>qfk w3 (ptr g.pb) (fun M=>∃q,PR x T q∧M=pfB q) fun bb=>by
   obtain ⟨q,h1,h2⟩:=qhS (B:=w3.heap.size) hE hr hx hT bb
   exact ⟨_,⟨q,h1,rfl⟩,h2.later (hf.quiet _ _),qgQ h1 hr hx hT⟩) fun w3 v w4 hH3 hf3 hR=>?_
 obtain ⟨⟨_,⟨q,hq,rfl⟩,hos⟩,hf4⟩:=hR
 have hfr4:Fr B (ju::wP) w w4:=Fr.trans (Fr.trans hfr (hf3.quiet B (ju::wP)) (.inr ⟨Nat.le_refl _,fun _ h=>h⟩)) (hf4.quiet B (ju::wP)) (.inr ⟨Nat.le_refl _,fun _ h=>h⟩)
 have hI:=uin hq hx hr hS hc hd
 obtain ⟨bb,cb,rfl,hB⟩:=qgc hos (qiM hq)
 rw[← YE, ← qep]at hB
 rw[show (pfB q).length=(mB (cM (pfF q))).length by rw[qep,YE]]
 refine J.begin ⟨w4,0,[]⟩ [] jx .nil ?_
 refine jA (k:=K3 (sQ fun K4=>jb ?_))
 refine jn rfl (fun _ _ h=>vb (cs:=[(.slice none 0 0),(.string ⟨#[]⟩),(.slice none 0 0),(.slice none 0 0),(.slice none 0 0),(.slice none 0 0),(.slice none 0 0),(.string ⟨#[]⟩),(.string ⟨#[]⟩),(.int .i64 0),(.int .i64 0),(.pointer none),(.int .i64 0),(.slice none 0 0),(.int .i64 0),(.int .i64 0),(.slice none 0 0),(.int .i64 0)]) qkC rfl rfl h) (qA (vs:=[_,_,_,_,_,_,_,_,_,_,_,_,_,_,_,_,_,_]) rfl rfl fun b13=>jA (k:=K4 (CJ.t [(3,_),(4,_)] (k:=sQ fun K5=>sQ fun K6=>jb (jM (k:=jM (k:=?_)))))))
 refine jn rfl (fun _ _ h=>zK QM rfl rfl h) ?_
 refine kQ (R:=fun w5 v w6=>v=.nilIface∧(∃g' vp,g'.pb=b13∧VC w5.heap.size T x g' vp w6)∧jv [b13] w5 w6) call88 rfl rfl (fun w5 hH hf=>qbJ x T hx w5 bb 0 cb b13 (cM (pfF q)) hI (hB.keep hf) (hH.get (i:=0) rfl rfl)) fun w5 v w6 hH5 hf5 hR=>?_
 obtain ⟨rfl,⟨g',vp,hgb,hRaw⟩,hk6⟩:=hR
 have hnb:w4.heap.size≤b13:=hH5.fresh (i:=0) rfl rfl rfl
 have hww4:w.heap.size≤w4.heap.size:=hfr4.size
 have hfr5:Fr B (ju::wP) w w5:=Fr.trans hfr4 (hf5.quiet B (ju::wP)) (.inr ⟨Nat.le_refl _,fun _ h=>h⟩)
 have hfr6:Fr B (ju::wP) w w6:=frK hfr5 hk6 fun b hb=>by
  simp at hb;subst hb
  exact .inl ox
 subst hgb
 refine J.begin ⟨w6,0,[]⟩ [] jx .nil ?_
 refine jA (k:=K6 (sQ fun K7=>jb (jM (k:=?_))))
 refine jn rfl (fun _ _ h=>xl Jr rfl h) (K7 (jO rfl (jg (K5 (sQ fun K8=>sQ fun K9=>jb (jM (k:=?_)))))))
 refine kQ (R:=fun w7 v w8=>v=.nilIface∧∃g2,g2.pb=g'.pb∧OfQ w.heap.size w8 x g2∧Fr w.heap.size (ju::wP) w7 w8∧∀b∈g2.sams,VR w.heap.size w8 b) call89 rfl rfl (fun w7 hH hf=>ZJ w.heap.size w7 x T g' vp ((hRaw.fr hf).le hfr5.size) hx (Nat.le_trans hww4 hnb) hI.tl hI.z0) fun w7 v w8 hH7 hf7 hR=>?_
 obtain ⟨rfl,g2,hg2,hQ,hfr8,hSG⟩:=hR
 have hfr9:Fr B (ju::wP) w w8:=Fr.trans (Fr.trans hfr6 (hf7.quiet B (ju::wP)) (.inr ⟨Nat.le_refl _,fun _ h=>h⟩)) hfr8 (.inl (Nat.le_refl _))
 rw[← hg2]
 refine J.begin ⟨w8,0,[]⟩ [] jx .nil ?_
 refine jA (k:=K9 (sQ fun K10=>jb (jM (k:=?_))))
 refine jn rfl (fun _ _ h=>xl Jr rfl h) (K10 (CJ.t [(4,_),(6,_),(24,_)] (k:=?_)))
 refine jO rfl (jg (K8 (sQ fun K11=>jb (jM (k:=jA (k:=K11 (jj ?_)))))))
 exact je results47 rfl fun w' hH hf=>⟨⟨g2,rfl,hQ.fr hf,fun b hb=>(hSG b hb).mono fun cs h=>hf.blk h (.inr zp)⟩,Fr.trans hfr9 (hf.quiet B (ju::wP)) (.inr ⟨Nat.le_refl _,fun _ h=>h⟩)⟩
end Go.Proofs.YtifdadlhmlhfiaaGreatDoor
namespace Go.Fw
open Go
variable {y:Ent} {W:List Nat} {cs ds xs:List Value} {B T b c l:Nat} {x:Operand} {p:Option Addr} {w:World}
section
variable {P:Program} {c:Code} {Q:Exit→Act→World→Prop} {n:Nat} {e:Env}
theorem CJ.turnB {ws:World} {H:ko} (hH:Hp ⟨ws,B,W⟩ ws H) (h:CJ P c Q n ⟨ws,B,W⟩ e H):CJ P c Q n ⟨ws,0,[]⟩ e []:=fun w _ hf=>h w (hH.fr hf) (hf.quiet B W)
end
theorem Hp.thr {b2 T2:Nat} (hO:Own T2 1 y p l c xs) (hy:y.on=true→Blk w y.b T2 y.cs∧B≤y.b) (hb:Blk w b T cs) (hb2:Blk w b2 T ds) (hB:B≤b) (hbb:b≠b2) (hT:W.any (fun t=>Nat.beq t T)=true) (hT2:W.any (fun t=>Nat.beq t T2)=true) (hne:T2≠T):
  Hp ⟨w,B,W⟩ w (y::⟨b,T,cs,true,true,none⟩::⟨b2,T,ds,false,true,none⟩::vh w ([b,b2]++qG y)):=by
 have hyx:y.ex=true→y.on=true:=fun he=>by simpa[Ent.ex,hO.ho]using he
 refine ⟨⟨fun ho=>?_,fun o ho=>by rw[hO.ho]at ho;cases ho⟩,fun he _=>.inr ⟨(hy (hyx he)).2,by rw[hO.tag];exact qz hT2⟩,fun he z hz hze=>?_,?_⟩
 ·rw[hO.hT];exact (hy ho).1
 ·have h1:=(hy (hyx he)).1
  rcases mC hz with rfl|hz
  ·exact (h1.ne hb hne).symm
  ·rcases mC hz with rfl|hz
   ·exact (h1.ne hb2 hne).symm
   ·exact vZ (by simp[qG,hyx he]) z hz hze
 ·refine ((Hp.rest _).add hb2 (fun h=>by cases h) (vZ zp)).add hb (fun _=>.inr ⟨hB,qz hT⟩) fun z hz hze=>?_
  rcases mC hz with rfl|hz
  ·exact hbb.symm
  ·exact vZ zp z hz hze
section
variable {P:Program} {Q:Exit→Act→World→Prop} {n:Nat} {f:Fm} {e:Env} {H:ko} {ops:Array Oper} {rest:List Oper} {d ty:Nat} {pos:String} {af:Array Edge}
theorem qbn {sT by_ m c2:Nat} {s:Operand} {y2:Ent} {p2:Option Addr} {zs:List Value} (i:Nat) (hy:H[i]? =some y) (hO:Own T 1 y p l c xs)
  (hu:∀w,(underlying sT).run P w=.ok (.slice T) w) (hT:ElT P T 1 by_) (hby:Nat.ble by_ 1000=true)
  (hs:ev e s=some (.slice p l c)) (hxv:ev e x=some (.slice p2 m c2)) (h2:Own T 1 y2 p2 m c2 zs) (h3:∀w,Hp f w H→f.ok w→y2.on=true→Blk w y2.b T y2.cs) (hsc:∀z∈zs,scal z=true) (hbig:l+m≤100000000000) (hd:Nat.blt d n=true)
  (k:∀y' p' c',Own T 1 y' p' (l+m) c' (xs++zs)→J P ops Q n f ((d,.slice p' (l+m) c')::e) (yn H i y') rest):
  J P ops Q n f e H (⟨some d,.call ⟨.builtin .append, #[s,x], #[sT,sT]⟩,ty,pos,af,none⟩::rest):=by
 have hl:zs.length=m:=by have:=h2.sl.1;simpa using this
 refine KU i hy hO.hT hO.ho hO.hw hu hu (.inl ⟨_,rfl⟩) hT hby hs hxv hO.sl (vJ _ _ _) (fun w w1 hH hf k=>?_) (by simp[hl]) (by simpa[List.all_eq_true]using hsc) hbig hd fun y' p' c' h1 h2 h3 h4=>k y' p' c' ⟨h1,h2,h3,h4⟩
 obtain ⟨-, -,h4⟩:=h2.sl
 rcases h4 with ⟨h5,h6,⟨ex,h7⟩, -⟩|⟨h5,h6,h7⟩
 ·subst h6
  have hb:Blk w1 y2.b T y2.cs:=k _ _ (h3 w hH hf h5)
  exact Zq hb (by rw[List.drop_zero,h7,Nat.mul_one, ← hl,List.take_append_of_le_length (Nat.le_refl _),List.take_length]) (by simp[hl])
 ·subst h6
  have:m=0:=by have:=h2.sl.2.1;omega
  subst this
  rw[List.eq_nil_of_length_eq_zero hl]
  rfl
end
theorem Vf {f:Fm} {ws:World} {y2:Ent} {b2 T2:Nat} {wr:Bool} (hO:Own T2 1 y p l c xs) (hH:Hp f w (y::⟨b,T,cs,wr,true,none⟩::⟨b2,T,ds,false,true,none⟩::vh ws ([b,b2]++qG y))) (h2:Blk ws y2.b T2 y2.cs) (hy:y.on=true→Blk ws y.b T2 y.cs) (h3:Blk ws b2 T ds) (h4:∃cs,Blk ws b T cs) (hne:T2≠T):Blk w y2.b T2 y2.cs:=by
 by_cases he:y2.b∈qG y
 ·unfold qG at he
  split at he
  ·next ho=>
   have e:y2.b=y.b:=by simpa using he
   have h5:=hy ho
   have h6:Blk w y.b y.T y.cs:=hH.1.row ho
   rw[hO.hT]at h6
   have h7:y2.cs=y.cs:=by
    have h8:ws.heap[y2.b]? =some (.cells y2.cs.toArray T2 (0,0)):=h2
    have h9:ws.heap[y.b]? =some (.cells y.cs.toArray T2 (0,0)):=h5
    rw[e,h9]at h8
    have h10:=congrArg (fun o:Obj=>match o with| .cells a _ _=>a.toList|_=>[]) (Option.some.inj h8)
    simpa using h10.symm
   rw[e,h7];exact h6
  ·cases he
 ·obtain ⟨cs0,h4⟩:=h4
  refine Hp.restKeep hH.2.2.2.2.2.2.2.2.2 _ _ h2 fun hm=>?_
  rcases mA hm with hm|hm
  ·rcases mC hm with e|hm
   ·exact h2.ne h4 hne e
   ·exact h2.ne h3 hne (by simpa using hm)
  ·exact he hm
theorem Zz (h:Blk w b T cs) (k:Blk w b T ds):cs=ds:=by
 have h8:w.heap[b]? =some (.cells cs.toArray T (0,0)):=h
 have h9:w.heap[b]? =some (.cells ds.toArray T (0,0)):=k
 rw[h9]at h8
 have h10:=congrArg (fun o:Obj=>match o with| .cells a _ _=>a.toList|_=>[]) (Option.some.inj h8)
 simpa using h10.symm
section
variable {n:Nat} {e:Env} {d ty:Nat} {pos:String} {af:Array Edge}
theorem r_f1 {P:Program} {t t':Nat} {y:Operand} (hx:ev e x=some (.float .f64 4607182418800017408)) (hy:ev e y=some (.float .f64 4607182418800017408)) {a:Act} (ha:Sat n e a):
  (execOp a.eval ⟨some d,.binOp .neq t x y t',ty,pos,af,none⟩).run P w=.ok (.value (.bool false)) w:=by
 have h:(binOp .neq t (.float .f64 4607182418800017408) (.float .f64 4607182418800017408)).run P w=.ok (.bool false) w:=by rfl
 simp only[execOp,ha.ev hx,ha.ev hy]
 simp[eqGuard,h]
end
end Go.Fw
namespace Go.Proofs.YtifdadlhmlhfiaaGreatDoor
open Go Go.Fw Go.Proofs Go.Proofs.Tryz
variable {y:Ent} {z:Int} {bs funs:List Nat} {cs ds:List Value} {B b m n:Nat} {s:ku} {w w':World}
theorem OfQ.keepK {x:jD} {g:G} (h:OfQ B w x g) (k:vQ w w'):OfQ B w' x g:=by
 have kr:=fun (b T:Nat) (cs:List Value) (hb:Blk w b T cs)=>(k b _ hb:Blk w' b T cs)
 have km:∀(b:Nat) (es:Array MapEntry) (ck:Nat),w.heap[b]? =some (.map es ck)→w'.heap[b]? =some (.map es ck):=fun b es ck hb=>k _ _ hb
 obtain ⟨ty,sa,ma,lo,fu,co,h1,h2,h3,h4,h5,h6,h7⟩:=h.prof
 exact { prof:=⟨ty,sa,ma,lo,fu,co,kr _ _ _ h1,h2.mono fun b cs=>kr _ _ cs,h3.mono fun b cs=>kr _ _ cs,h4.mono fun b cs=>kr _ _ cs,h5.mono fun b cs=>kr _ _ cs,h6.mono fun b cs=>kr _ _ cs,h7.mono fun b cs=>kr _ _ cs⟩
         per:=kr _ _ _ h.per
         types:=h.types.mono fun b t=>kr _ _ _
         maps:=h.maps.mono fun b t=>kr _ _ _
         funs:=h.funs.mono fun b t=>kr _ _ _
         locs:=h.locs.mono fun b l hl=>hl.mono (fun b cs=>kr _ _ cs) (fun b cs=>kr _ _ cs)
         sams:=h.sams.mono fun b l hl=>hl.mono (fun cs=>kr _ _ cs) (fun b cs=>kr _ _ cs) (fun b cs=>kr _ _ cs) (fun b cs=>kr _ _ cs) km
         ntypes:=h.ntypes
         nmaps:=h.nmaps
         nfuns:=h.nfuns
         nlocs:=h.nlocs
         nsams:=h.nsams
         fresh:=h.fresh
         rows:=fun b hb=>(h.rows b hb).mono fun b cs=>kr _ _ cs }
theorem OfR.keepK {x:jD} {g:G} (h:OfR B w x g) (k:vQ w w'):OfR B w' x g:=by
 obtain ⟨ty,sa,ma,fu,co,yL,pL,lL,cL,h1,h2,h3,h4,h5,h6,h7⟩:=h
 exact ⟨ty,sa,ma,fu,co,yL,pL,lL,cL,k _ _ h1,h2.keep fun b cs _=>k b _,h3.keep fun b cs _=>k b _,h4.keep fun b cs _=>k b _,h5,fun ho=>⟨⟨k _ _ (h6 ho).1.1,(h6 ho).1.2⟩,(h6 ho).2⟩,fun b hb=>(h7 b hb).mono fun cs=>k _ _⟩
theorem qkp {p q:Nat} (k:jv ([p,q]++qG y) w w') (hp:Blk w p ju cs) (hq:Blk w q ju ds) (hy:y.on=true→Blk w y.b vD y.cs) {T c:Nat} {es:List Value} (hb:Blk w c T es) (hT:T≠ju) (hc:T≠vD∨(y.on=true→c≠y.b)):Blk w' c T es:=k.blk hb fun hm=>by
 rcases mA hm with hm|hm
 ·rcases mC hm with e|hm
  ·exact hb.ne hp hT e
  ·exact hb.ne hq hT (by simpa using hm)
 ·unfold qG at hm
  split at hm
  ·next ho=>
   have e:c=y.b:=by simpa using hm
   rcases hc with hc|hc
   ·exact hb.ne (hy ho) hc e
   ·exact hc ho e
  ·cases hm
theorem samN {p q:Nat} {locs:List Nat} (h:KY w locs b s) (hr:XE y w b) (k:jv ([p,q]++qG y) w w') (hp:Blk w p ju cs) (hq:Blk w q ju ds) (hy:y.on=true→Blk w y.b vD y.cs):KY w' locs b s:=by
 have K:=fun {T c:Nat} {es:List Value} (hb:Blk w c T es) (hT:T≠ju) (hc:T≠vD)=>qkp k hp hq hy hb hT (.inl hc)
 have km:∀(b:Nat) (es:Array MapEntry) (ck:Nat),w.heap[b]? =some (.map es ck)→w'.heap[b]? =some (.map es ck):=fun c es ck hb=>k.keep _ _ hb fun hm=>by
  rcases mA hm with hm|hm
  ·rcases mC hm with e|hm
   ·exact Kt hb hp e
   ·exact Kt hb hq (by simpa using hm)
  ·unfold qG at hm
   split at hm
   ·next ho=>exact Kt hb (hy ho) (by simpa using hm)
   ·cases hm
 obtain ⟨ls,vs,lm,nm,iv,xv,h1,h2,h3,h4,h5,h6⟩:=h
 obtain ⟨cs0,g1,g2⟩:=hr
 have e:=Zz h1 g1
 subst e
 obtain ⟨z,pz,l,c,e,hO,hz⟩:=h2
 subst e
 refine ⟨_,vs,lm,nm,iv,xv,K h1 dq dq,⟨z,pz,l,c,rfl,hO,fun ho=>qkp k hp hq hy (hz ho) dq (.inr fun hyo=>?_)⟩,h3.mono fun b cs hb=>K hb dq dq,h4.mono (fun b cs hb=>K hb dq dq) km,h5.mono (fun b cs hb=>K hb dq dq) km,h6⟩
 rcases hO.sl.2.2 with ⟨-,hpz, -⟩|⟨h0, -, -⟩
 ·subst hpz
  exact g2 z.b l c rfl hyo
 ·rw[h0]at ho;cases ho
theorem qE.app {α:Type} {cs:List Nat} {xs ys:List α} {φ:Nat→α→Prop} (h:qE bs xs φ) (k:qE cs ys φ):qE (bs++cs) (xs++ys) φ:=by
 refine ⟨by rw[lA,lA,h.1,k.1],fun i b x hb hx=>?_⟩
 by_cases hi:i<bs.length
 ·rw[aq hi]at hb
  rw[aq (by rw[← h.1];exact hi)]at hx
  exact h.2 i b x hb hx
 ·rw[List.getElem?_append_right ox]at hb
  rw[List.getElem?_append_right (by rw[← h.1];omega), ← h.1]at hx
  exact k.2 _ b x hb hx
theorem qE.rn {α:Type} {xs:List α} {f:Nat→α→α} {k:Nat} {φ:World→Nat→α→Prop} (h:qE bs (rn f k xs) (φ w)) (hn:bs.Nodup) {a:α} (hb:bs[k]? =some b) (ha:xs[k]? =some a) (hk:∀b' x,b'≠b→φ w b' x→φ w' b' x) (hp:φ w' b (f k a)):qE bs (Go.Proofs.YtifdadlhmlhfiaaGreatDoor.rn f (k+1) xs) (φ w'):=by
 refine ⟨by rw[h.1,qgH,qgH],fun i b' x hb' hx=>?_⟩
 rw[XI]at hx
 by_cases hi:i=k
 ·subst hi
  rw[hb]at hb'
  cases hb'
  rw[ha]at hx
  simp at hx
  subst hx;exact hp
 ·have hne:b'≠b:=fun e=>by
   subst e
   have h1:=(List.getElem?_eq_some_iff.1 hb').1
   have h2:=(List.getElem?_eq_some_iff.1 hb).1
   exact hi (zN hn h1 h2 (by rw[(List.getElem?_eq_some_iff.1 hb').2,(List.getElem?_eq_some_iff.1 hb).2]))
  refine hk _ _ hne (h.2 i b' x hb' ?_)
  rw[XI]
  cases hx0:xs[i]? with
  |none=>rw[hx0]at hx;cases hx
  |some z=>
   rw[hx0]at hx
   simp only[Option.map_some]at hx⊢
   rw[← hx]
   by_cases h2:i<k
   ·rw[if_pos h2,if_pos ox]
   ·rw[if_neg h2,if_neg ox]
theorem qbc {cs:List Nat} (h:z<bs.length):qe (bs++cs) z=qe bs z:=by
 unfold qe
 split
 ·rw[aq ox]
 ·rfl
theorem qbb {cs:List Nat}:qe (bs++cs) (if 0≤z then z+(bs.length:Nat) else z)=qe cs z:=by
 unfold qe
 by_cases h:0≤z
 ·rw[if_pos h,if_pos ox,if_pos h,List.getElem?_append_right ox]
  congr 3
  omega
 ·rw[if_neg h,if_neg h,if_neg h]
def Kj (B:Nat) (w:World) (maps funs:List Nat) (b:Nat) (l:vP):Prop:=∃ls,Blk w b qH (KB maps l ls)∧OS kq 3 w ls (l.lines.flatMap (qk funs))∧∀rb n c,ls=.slice (some ⟨rb,0,none⟩) n c→B≤rb
theorem Kj.p {maps:List Nat} {l:vP} (h:Kj B w maps funs b l):ZS w maps funs b l:=by
 obtain ⟨ls,h1,h2, -⟩:=h
 exact ⟨ls,h1,h2⟩
theorem Kj.row {maps:List Nat} {l:vP} (h:Kj B w maps funs b l):KZ B w b:=by
 obtain ⟨ls,h1, -,h3⟩:=h
 exact ⟨_,h1,fun rb n c h=>h3 rb n c (Option.some.inj h)⟩
theorem Kj.mk' {B':Nat} {maps:List Nat} {l:vP} (h:ZS w maps funs b l) (hr:KZ B' w b) (hB:B≤B'):Kj B w maps funs b l:=by
 obtain ⟨ls,h1,h2⟩:=h.ex
 obtain ⟨cs,h3,h4⟩:=hr
 have:=Zz h1 h3
 subst this
 exact ⟨ls,h1,h2,fun rb n c e=>Nat.le_trans hB (h4 rb n c (by rw[e];rfl))⟩
theorem Kj.mono {maps:List Nat} {l:vP} (h:Kj B w maps funs b l) (k1:∀cs,Blk w b qH cs→Blk w' b qH cs) (k2:∀b cs,Blk w b kq cs→Blk w' b kq cs):Kj B w' maps funs b l:=by
 obtain ⟨ls,h1,h2,h3⟩:=h
 exact ⟨ls,k1 _ h1,h2.mono k2,h3⟩
theorem qjT {fs gs:List Nat} {n:vz} (h:n.fn<fs.length):qk (fs++gs) n=qk fs n:=by unfold qk;rw[qbc h]
theorem qjS {fs gs:List Nat} {n:vz}:qk (fs++gs) (Xk fs.length n)=qk gs n:=by
 unfold qk Xk
 show [qe (fs++gs) (if 0≤n.fn then n.fn+(fs.length:Nat) else n.fn),_,_]=_
 rw[qbb]
theorem Kj.left {maps maps' funs':List Nat} {l:vP} (h:Kj B w maps funs b l) (hm:l.mapping<maps.length) (hf:∀n∈l.lines,n.fn<funs.length):Kj B w (maps++maps') (funs++funs') b l:=by
 obtain ⟨ls,h1,h2,h3⟩:=h
 refine ⟨ls,?_,?_,h3⟩
 ·have e:KB (maps++maps') l ls=KB maps l ls:=by unfold KB;rw[qbc hm]
  rw[e];exact h1
 ·have e:l.lines.flatMap (qk (funs++funs'))=l.lines.flatMap (qk funs):=by
   rw[List.flatMap_def,List.flatMap_def,List.map_congr_left fun n hn=>qjT (hf n hn)]
  rw[e];exact h2
theorem Kj.right {maps maps' funs':List Nat} {l:vP} (h:Kj B w maps' funs' b l) (hm:maps.length=m) (hn:funs.length=n):Kj B w (maps++maps') (funs++funs') b (yf m n l):=by
 subst hm;subst hn
 obtain ⟨ls,h1,h2,h3⟩:=h
 refine ⟨ls,?_,?_,h3⟩
 ·have e:KB (maps++maps') (yf maps.length funs.length l) ls=KB maps' l ls:=by
   unfold KB yf
   show [_,qe (maps++maps') (if 0≤l.mapping then l.mapping+(maps.length:Nat) else l.mapping),_,_,_,_]=_
   rw[qbb]
  rw[e];exact h1
 ·have e:(yf maps.length funs.length l).lines.flatMap (qk (funs++funs'))=l.lines.flatMap (qk funs'):=by
   show (l.lines.map (Xk funs.length)).flatMap _=_
   rw[List.flatMap_def,List.flatMap_def,List.map_map]
   congr 1
   exact List.map_congr_left fun n _=>qjS
  rw[e];exact h2
theorem KY.left {locs locs':List Nat} (h:KY w locs b s) (hl:∀k∈s.stack,k<locs.length):KY w (locs++locs') b s:=by
 obtain ⟨ls,vs,lm,nm,iv,xv,h1,h2,h3⟩:=h
 exact ⟨ls,vs,lm,nm,iv,xv,h1,by rw[List.map_congr_left fun k hk=>qbc (cs:=locs') (hl k hk)];exact h2,h3⟩
theorem KY.right {locs locs':List Nat} (h:KY w locs' b s) (hn:locs.length=n) (hl:∀k∈s.stack,0≤k):KY w (locs++locs') b (XN n s):=by
 subst hn
 obtain ⟨ls,vs,lm,nm,iv,xv,h1,h2,h3⟩:=h
 refine ⟨ls,vs,lm,nm,iv,xv,h1,?_,h3⟩
 have e:(XN locs.length s).stack.map (qe (locs++locs'))=s.stack.map (qe locs'):=by
  show (s.stack.map (· +(locs.length:Int))).map _=_
  rw[List.map_map]
  refine List.map_congr_left fun k hk=>?_
  have:=qbb (bs:=locs) (cs:=locs') (z:=k)
  rw[if_pos (hl k hk)]at this
  exact this
 rw[e];exact h2
theorem Vj {a b:List Nat} (ha:a.Nodup) (hb:b.Nodup) (h1:∀x∈a,x<m) (h2:∀x∈b,m≤x):(a++b).Nodup:=List.nodup_append.2 ⟨ha,hb,fun x hx y hy e=>by
 have:=h1 x hx
 have:=h2 y hy
 omega⟩
abbrev wJ:List Nat:=[ju,tVT,kY,vO,qH,kq,xi,xZ,vD,yq,xS]
theorem frJ {W W1 W2:List Nat} {a b c:World} (h:Fr B W1 a b) (k:Fr B W2 b c) (h1:∀x∈W1,x∈W) (h2:∀x∈W2,x∈W):Fr B W a c:=Fr.trans (h.mono (.inr ⟨Nat.le_refl _,h1⟩)) k (.inr ⟨Nat.le_refl _,h2⟩)
set_option maxHeartbeats 4000000 in
theorem qgZ (B B2:Nat) (w0 w:World) (x y:jD) (g g2:G) (hG0:OfQ B w0 x g) (hR0:OfR B w0 x g) (hK0:vQ w0 w) (hB2:w0.heap.size≤B2) (hBB:B≤w0.heap.size) (hG2:OfP B2 w y g2) (hx:vW x) (hy:vW y) (rx:Rng x) (ry:Rng y) (ht:x.types=y.types) (hp:x.per=y.per) (hS:xt (yz y)≤100000000) (hc:y.comments=[]) (hd:y.deflt=eB):
  Calls Tryz.prog 50 #[ptr g.pb,ptr g2.pb,.float .f64 4607182418800017408] w (Ret fun v w'=>v=.nilIface∧(∃g',g'.pb=g.pb∧OfQ B w' (qy x y) g')∧Fr B wJ w w'):=by
 obtain ⟨-,n2,n3,n5,n4⟩:True∧(qy x y).samples.length≤120∧(qy x y).mappings.length≤120∧(qy x y).funcs.length≤120∧(qy x y).locs.length≤120:=⟨trivial,yw hx hy⟩
 simp only[qy,lA,List.length_mapIdx,List.length_map]at n2 n3 n5 n4
 refine jr (args:=[_,_,_]) [(0,_),(1,_),(2,_)] 0 [] [] func50 rfl ntmps50 rfl rfl .nil ?_
 refine sQ fun K1=>jb (jA (k:=K1 ?_))
 refine qP fun K2 hK2=>qP fun K3 hK3=>jb (jM (k:=jM (k:=?_)))
 refine kg (φ:=fun v=>v=.nilIface) call90 rfl rfl (fun w' hH hf=>qbA w' x y g g2 B B2 (hG0.keepK (hK0.trans (hf.keepAll (.inr rfl)))) ((hG2.q fun s hs=>(hy.samples s hs).2.2.2.1).fr hf) ht hp (by have:=hx.ntyp;omega)) fun v hv=>?_
 subst hv
 refine jA (k:=jw (ji (hK3 _ _ _ ?_)))
 refine qP fun K4 hK4=>jb (jM (k:=?_))
 refine jn rfl (fun _ _ h=>xl Jr rfl h) (jw (ji (hK4 _ _ _ (jO rfl (jg (ji (hK2 _ _ _ (sQ fun K5=>jb (jM (k:=?_))))))))))
 refine kQ (R:=fun w3 v w4=>(∃g',v=ptr g'.pb∧OfQ w3.heap.size w4 y g'∧∀b∈g'.sams,VR w3.heap.size w4 b)∧Fr B2 (ju::wP) w3 w4) call47 rfl rfl (fun w3 hH hf=>qic B2 w3 y g2 (hG2.keep' hf) hy ry hS hc hd) fun w3 v w4 hH3 hf3 hR=>?_
 obtain ⟨⟨g3,rfl,hQ3,hSG3⟩,hf4⟩:=hR
 have hK3:vQ w0 w3:=hK0.trans (hf3.keepAll (.inr rfl))
 have hK4:vQ w0 w4:=Je hK3 hB2 w4 hf4
 have hfr4:Fr B wJ w w4:=Fr.trans (hf3.quiet B wJ) hf4 (.inr ⟨by omega,by decide⟩)
 have hs3:w0.heap.size≤w3.heap.size:=by
  rcases Nat.eq_zero_or_pos w0.heap.size with e|e
  ·omega
  ·have h1:w0.heap[w0.heap.size - 1]? =some (w0.heap[w0.heap.size - 1]' ox):=Array.getElem?_eq_getElem ox
   have:=(Array.getElem?_eq_some_iff.1 (hK3 _ _ h1)).1
   omega
 have hB4:B≤w4.heap.size:=by have:=hf4.size;omega
 have hB3:B≤w3.heap.size:=by omega
 have hG:=hG0.keepK hK4
 obtain ⟨tyv,sav,mav,fuv,cov,yL,pL,lL,cL,hpb0,hsa0,hma0,hfu0,hOL,hyL00,hNe0⟩:=hR0
 have hyLlt:yL.on=true→yL.b<w3.heap.size:=fun ho=>Nat.lt_of_lt_of_le (hyL00 ho).1.1.lt hs3
 have hpb:Blk w4 g.pb ju _:=hK4 _ _ hpb0
 have hsa:=hsa0.keep (w':=w4) fun b cs _=>hK4 b _
 have hma:=hma0.keep (w':=w4) fun b cs _=>hK4 b _
 have hfu:=hfu0.keep (w':=w4) fun b cs _=>hK4 b _
 have hyL:yL.on=true→Blk w4 yL.b vD yL.cs∧B≤yL.b:=fun ho=>⟨hK4 _ _ (hyL00 ho).1.1,(hyL00 ho).1.2⟩
 have hNe:∀b∈g.sams,XE yL w4 b:=fun b hb=>(hNe0 b hb).mono fun cs=>hK4 b _
 obtain ⟨tyv',sav',mav',lov',fuv',cov',hpb',hty, -, -, -, -,hco⟩:=hG.prof
 have hEq:=Zz hpb hpb'
 simp only[zz,List.cons.injEq,and_true,true_and]at hEq
 obtain ⟨rfl,rfl,rfl,rfl,rfl,rfl⟩:=hEq
 clear hpb'
 obtain ⟨ty3,sa3,ma3,lo3,fu3,co3,hpb3, -,hsa3,hma3,hlo3,hfu3, -⟩:=hQ3.prof
 obtain ⟨yM,pM,lM,cM,rfl,hOM,hyM⟩:=hma
 obtain rfl:lM=x.mappings.length:=by have:=hG.maps.1;have:=hOM.sl.1;simp at this;omega
 obtain ⟨zM,qM,mM,dzM,rfl,hZM,hzM⟩:=hma3
 obtain rfl:mM=y.mappings.length:=by have:=hQ3.maps.1;have:=hZM.sl.1;simp at this;omega
 obtain rfl:lL=x.locs.length:=by have:=hG.locs.1;have:=hOL.sl.1;simp at this;omega
 obtain ⟨zL,qL,mL,dzL,rfl,hZL,hzL⟩:=hlo3
 obtain rfl:mL=y.locs.length:=by have:=hQ3.locs.1;have:=hZL.sl.1;simp at this;omega
 obtain ⟨yF,pF,lF,cF,rfl,hOF,hyF⟩:=hfu
 obtain rfl:lF=x.funcs.length:=by have:=hG.funs.1;have:=hOF.sl.1;simp at this;omega
 obtain ⟨zF,qF,mF,dzF,rfl,hZF,hzF⟩:=hfu3
 obtain rfl:mF=y.funcs.length:=by have:=hQ3.funs.1;have:=hZF.sl.1;simp at this;omega
 obtain ⟨yS,pS,lS,cS,rfl,hOS,hyS⟩:=hsa
 obtain rfl:lS=x.samples.length:=by have:=hG.sams.1;have:=hOS.sl.1;simp at this;omega
 obtain ⟨zS,qS,mS,dzS,rfl,hZS,hzS⟩:=hsa3
 obtain rfl:mS=y.samples.length:=by have:=hQ3.sams.1;have:=hZS.sl.1;simp at this;omega
 have hlt:∀{b T:Nat} {cs:List Value},Blk w0 b T cs→b<w3.heap.size:=fun h=>Nat.lt_of_lt_of_le h.lt hs3
 have hne:g.pb≠g3.pb:=by
  obtain ⟨_,_,_,_,_,_,h, -⟩:=hG0.prof
  have:=hlt h
  have:=hQ3.fresh.1
  omega
 have ltM:∀b∈g.maps,b<w3.heap.size:=qE.all (hG0.maps.mono (ψ:=fun b _=>b<w3.heap.size) fun b m h=>hlt h)
 have ltF:∀b∈g.funs,b<w3.heap.size:=qE.all (hG0.funs.mono (ψ:=fun b _=>b<w3.heap.size) fun b m h=>hlt h)
 have ltL:∀b∈g.locs,b<w3.heap.size:=qE.all (hG0.locs.mono (ψ:=fun b _=>b<w3.heap.size) fun b m h=>by obtain ⟨_,h, -⟩:=h.ex;exact hlt h)
 have ltS:∀b∈g.sams,b<w3.heap.size:=qE.all (hG0.sams.mono (ψ:=fun b _=>b<w3.heap.size) fun b m h=>by obtain ⟨_,_,_,_,_,_,h, -⟩:=h;exact hlt h)
 obtain ⟨fpb,fpe,fty,fma,ffu,flo,fsa⟩:=hG.fresh
 obtain ⟨-, -, -,fma3,ffu3,flo3,fsa3⟩:=hQ3.fresh
 have ndM:(g.maps++g3.maps).Nodup:=Vj hG.nmaps hQ3.nmaps ltM fma3
 have ndF:(g.funs++g3.funs).Nodup:=Vj hG.nfuns hQ3.nfuns ltF ffu3
 have ndL:(g.locs++g3.locs).Nodup:=Vj hG.nlocs hQ3.nlocs ltL flo3
 have ndS:(g.sams++g3.sams).Nodup:=Vj hG.nsams hQ3.nsams ltS fsa3
 have geM:∀b∈g.maps++g3.maps,B≤b:=fun b hb=>(mA hb).elim (fma b) fun h=>Nat.le_trans hB3 (fma3 b h)
 have geF:∀b∈g.funs++g3.funs,B≤b:=fun b hb=>(mA hb).elim (ffu b) fun h=>Nat.le_trans hB3 (ffu3 b h)
 have geL:∀b∈g.locs++g3.locs,B≤b:=fun b hb=>(mA hb).elim (flo b) fun h=>Nat.le_trans hB3 (flo3 b h)
 have geS:∀b∈g.sams++g3.sams,B≤b:=fun b hb=>(mA hb).elim (fsa b) fun h=>Nat.le_trans hB3 (fsa3 b h)
 have aM:qE (g.maps++g3.maps) (x.mappings++y.mappings) fun b m=>Blk w4 b vO (qcP m):=hG.maps.app hQ3.maps
 have aF:qE (g.funs++g3.funs) (x.funcs++y.funcs) fun b m=>Blk w4 b xi (qcR m):=hG.funs.app hQ3.funs
 have aL:qE (g.locs++g3.locs) (x.locs++y.locs.map (yf x.mappings.length x.funcs.length)) (Kj B w4 (g.maps++g3.maps) (g.funs++g3.funs)):=by
  refine qE.app ⟨hG.locs.1,fun i b l hb hl=>?_⟩ ⟨by rw[List.length_map];exact hQ3.locs.1,fun i b l hb hl=>?_⟩
  ·have hm:=mG hl
   obtain ⟨⟨-,h1⟩, -,h2⟩:=hx.tab.locs l hm
   exact (Kj.mk' (hG.locs.2 i b l hb hl) (hG.rows b (mG hb)) (Nat.le_refl _)).left (by rw[hG.maps.1];exact h1) fun n hn=>by rw[hG.funs.1];exact (h2 n hn).2
  ·rw[List.getElem?_map]at hl
   cases hl0:y.locs[i]? with
   |none=>rw[hl0]at hl;cases hl
   |some l0=>
    rw[hl0]at hl
    cases hl
    exact (Kj.mk' (hQ3.locs.2 i b l0 hb hl0) (hQ3.rows b (mG hb)) hB3).right hG.maps.1 hG.funs.1
 have aS:qE (g.sams++g3.sams) (x.samples++y.samples.map (XN x.locs.length)) (fun b s=>KY w4 (g.locs++g3.locs) b s∧XE yL w4 b):=by
  refine qE.app ⟨hG.sams.1,fun i b l hb hl=>?_⟩ ⟨by rw[List.length_map];exact hQ3.sams.1,fun i b l hb hl=>?_⟩
  ·exact ⟨(hG.sams.2 i b l hb hl).left fun k hk=>by rw[hG.locs.1];exact ((hx.samples l (mG hl)).2.2.2.2 k hk).2,hNe b (mG hb)⟩
  ·rw[List.getElem?_map]at hl
   cases hl0:y.samples[i]? with
   |none=>rw[hl0]at hl;cases hl
   |some l0=>
    rw[hl0]at hl
    cases hl
    obtain ⟨cs0,s1,s2⟩:=hSG3 b (mG hb)
    exact ⟨(hQ3.sams.2 i b l0 hb hl0).right hG.locs.1 fun k hk=>((hy.samples l0 (mG hl0)).2.2.2.2 k hk).1,cs0,s1,fun rb n c h ho=>by
      have:=s2 rb n c h
      have:=hyLlt ho
      omega⟩
 refine J.begin ⟨w4,B,[ju,xZ]⟩ (yM::⟨g.pb,ju,zz x tyv (.slice pS x.samples.length cS) (.slice pM x.mappings.length cM) (.slice pL x.locs.length cL) (.slice pF x.funcs.length cF) cov g.per,true,true,none⟩::⟨g3.pb,ju,zz y ty3 (.slice qS y.samples.length dzS) (.slice qM y.mappings.length dzM) (.slice qL y.locs.length dzL) (.slice qF y.funcs.length dzF) co3 g3.per,false,true,none⟩::vh w4 ([g.pb,g3.pb]++qG yM)) jx (Hp.thr hOM hyM hpb hpb3 fpb hne rfl rfl dq) ?_
 refine jA (k:=K5 (CJ.t [(0,_),(1,_),(2,_)] (k:=?_)))
 refine qP fun K6 hK6=>?_
 have hJ34:∀(qq:Int) (v':World),qq=(if x.period<y.period then y.period else x.period)→Fm.ok ⟨w4,B,[ju,xZ]⟩ v'→Hp ⟨w4,B,[ju,xZ]⟩ v' (yM::⟨g.pb,ju,zz (xJ x x.dur qq) tyv (.slice pS x.samples.length cS) (.slice pM x.mappings.length cM) (.slice pL x.locs.length cL) (.slice pF x.funcs.length cF) cov g.per,true,true,none⟩::⟨g3.pb,ju,zz y ty3 (.slice qS y.samples.length dzS) (.slice qM y.mappings.length dzM) (.slice qL y.locs.length dzL) (.slice qF y.funcs.length dzF) co3 g3.per,false,true,none⟩::vh w4 ([g.pb,g3.pb]++qG yM))→N K6 188 [(0,ptr g.pb),(1,ptr g3.pb),(2,.float .f64 4607182418800017408)] v':=by
  intro qq v7 hqq hf7 hH7
  refine hK6 ⟨w4,B,[ju,xZ]⟩ _ (yM::⟨g.pb,ju,zz (xJ x x.dur qq) tyv (.slice pS x.samples.length cS) (.slice pM x.mappings.length cM) (.slice pL x.locs.length cL) (.slice pF x.funcs.length cF) cov g.per,true,true,none⟩::⟨g3.pb,ju,zz y ty3 (.slice qS y.samples.length dzS) (.slice qM y.mappings.length dzM) (.slice qL y.locs.length dzL) (.slice qF y.funcs.length dzF) co3 g3.per,false,true,none⟩::vh w4 ([g.pb,g3.pb]++qG yM)) ?_ v7 hH7 hf7
  refine sQ fun K7=>jC 9 (lts [0,1,2,3,4,5,6,7,8]++(9,false)::(10,false)::(11,false)::[]) [1,2] rfl (by kernel_rfl) (by kernel_rfl) (dM [1,2] (k:=dN [1,2] (k:=dF [1,2] 10 jz so2 (k:=dH [1,2] 0 ag2 (k:=dM [1,2] (k:=dN [1,2] (k:=dF [1,2] 10 jz so2 (k:=dH [1,2] 1 ag2 (k:=?_)))))))))
  refine jo rfl rfl (jd [1,2] rfl) (fun _ _ h=>Yj rfl rfl h) (dE (h:=fun Kd=>jN (k:=Kd (.inl rfl) (dE (h:=fun Kd=>jF 10 jz so2 (k:=Kd (.inl rfl) (dE (h:=fun Kd=>jB [_,_,_,_,_,_,_,_,_,_,_,_,_,_,_,_,_,_] (_::_::_::_) 1 so2 (k:=Kd (.inl rfl) (K7 (CJ.t [(0,_),(1,_),(2,_)] (k:=sQ fun K8=>?_))))))))))))
  refine jC 12 (lts [0,1,2,3,4,5,6,7,8]++(9,false)::(lts [10,11]++(12,false)::[])) [1,2] rfl (by kernel_rfl) (by kernel_rfl) (dM [1,2] (k:=dM [1,2] (k:=dN [1,2] (k:=dF [1,2] 3 jz zD (k:=dH [1,2] 0 KX (k:=dM [1,2] (k:=dN [1,2] (k:=dF [1,2] 3 jz zD (k:=dH [1,2] 1 KX (k:=dE (h:=fun Kd=>?_)))))))))))
  refine qbn 0 rfl hOM zn qhZ rfl rfl rfl hZM (fun w' hH hf ho=>Vf (T:=ju) hOM hH (hzM ho) (fun ho=>(hyM ho).1) hpb3 ⟨_,hpb⟩ dq) (fun z hz=>by obtain ⟨u, -,rfl⟩:=List.mem_map.1 hz;rfl) ox rfl fun y62 p62 c62 hO62=>?_
  refine Kd (sb [1,2]) (dN [1,2] (k:=dF [1,2] 3 jz zD (k:=dE (h:=fun Kd=>jB [_,_,_,_,_,_,_,_,_,_,_,_,_,_,_,_,_,_] (_::_::_::_) 1 zD (k:=Kd (.inl rfl) (K8 (CJ.t [(0,_),(1,_),(2,_)] (k:=sQ fun K9=>sQ fun K10=>jb (jM (k:=jN (k:=jF 3 jz zD (k:=?_))))))))))))
  refine jH 1 KX (k:=jE zn (k:=jM (k:=K10 (jh ?_))))
  intro vM hHv hfM
  have hfM':Fr B [ju,xZ] w4 vM:=hfM
  have hFv:Fr B [ju,xZ] w4 vM:=hfM
  have hPM0:Blk vM g.pb ju (zz (xJ x (IntKind.i64.wrap (x.dur+y.dur)) qq) tyv (.slice pS x.samples.length cS) (.slice p62 (x.mappings.length+y.mappings.length) c62) (.slice pL x.locs.length cL) (.slice pF x.funcs.length cF) cov g.per):=hHv.get (i:=1) rfl rfl
  have hQM0:Blk vM g3.pb ju (zz y ty3 (.slice qS y.samples.length dzS) (.slice qM y.mappings.length dzM) (.slice qL y.locs.length dzL) (.slice qF y.funcs.length dzF) co3 g3.per):=hHv.get (i:=2) rfl rfl
  have hg62:=hHv.geT hO62.hw (show B≤w4.heap.size by exact hB4)
  have hMM0:OSn B xZ 1 vM (.slice p62 (x.mappings.length+y.mappings.length) c62) ((g.maps++g3.maps).map ptr):=by rw[List.map_append];exact hO62.osn (i:=0) hHv rfl hg62
  have hEM0:qE (g.maps++g3.maps) (rn rnM 0 (x.mappings++y.mappings)) (fun b m=>Blk vM b vO (qcP m)):=by rw[qaY];exact aM.mono (fun b m h=>jk hFv rfl _ _ h)
  clear hHv hfM
  refine vk (σ:=Nat) (fun s=>[(0,ptr g.pb),(1,ptr g3.pb),(2,.float .f64 4607182418800017408),(68,.slice p62 (x.mappings.length+y.mappings.length) c62),(69,.int .i64 ((x.mappings.length+y.mappings.length:Nat):Int)),(70,.int .i64 (s:Nat))])
   (fun s w'=>s≤x.mappings.length+y.mappings.length∧Fr B [vO] vM w'∧qE (g.maps++g3.maps) (rn rnM s (x.mappings++y.mappings)) (fun b m=>Blk w' b vO (qcP m))) (fun s=>(x.mappings.length+y.mappings.length) - s) 0 sR ⟨Nat.zero_le _,Fr.refl _ _ _,hEM0⟩ ?_
  rintro kM uM ⟨hkM,hFMu,hEM⟩ KM hKM
  try dsimp only at hkM hFMu hEM
  refine C.begin ⟨uM,0,[]⟩ [] jx .nil ?_
  try dsimp only
  refine sQ fun K11=>jb (jS (k:=K11 (sQ fun K12=>?_)))
  refine jq rfl (fun h71=>?_) (fun h71=>?_)
  ·have hk':kM<x.mappings.length+y.mappings.length:=by omega
   have hkb:kM<(g.maps++g3.maps).length:=by have h1:=hG.maps.1;have h2:=hQ3.maps.1;rw[lA];omega
   have hkx:kM<(x.mappings++y.mappings).length:=by simp only[lA,List.length_map];omega
   have hbe:(g.maps++g3.maps)[kM]? =some (g.maps++g3.maps)[kM]:=gE hkb
   have hxe:(x.mappings++y.mappings)[kM]? =some (x.mappings++y.mappings)[kM]:=gE hkx
   have hbB:=geM _ (List.getElem_mem hkb)
   obtain ⟨bq,rfl,hsq⟩:=OS.openS hMM0.os ox
   have hcell:=Kq (k:=kM) (v:=ptr (g.maps++g3.maps)[kM]) (W1:=[vO]) hFMu rfl rfl hsq (by rw[List.getElem?_map,hbe];rfl)
   have hcur:=hEM.2 kM _ _ hbe (by rw[XI,hxe];rfl)
   simp only[Nat.lt_irrefl,if_false]at hcur
   have hst:Blk uM (g.maps++g3.maps)[kM] vO (qcP (x.mappings++y.mappings)[kM]):=hcur
   refine CJ.turnB (B:=0) (W:=[vO]) (Hp.one hst (Nat.zero_le _) rfl) ?_
   refine jg (K12 (sQ fun K13=>jh (sQ fun K14=>jb (jM (k:=jJ zn zT (k:=jL Qw hcell 0 (k:=jA (k:=jA (k:=K14 (jb (jM (k:=jM (k:=?_)))))))))))))
   refine jI (k:=?_)
   refine jn rfl (fun _ _ h=>qO ru3 xu rfl h) ?_
   refine jV (u:=.int .u64 ((kM+1:Nat):Int)) (congrArg (Value.int .u64) (yY ox)) ?_
   refine jN (k:=jF 0 vg kU (k:=jB [_,_,_,_,_,_,_,_,_,_,_,_] (_::_) 0 kU (k:=K13 (CJ.t [(0,_),(1,_),(2,_),(68,_),(69,_),(70,_)] (k:=jb (jI (k:=jM (k:=jw (ji ?_)))))))))
   exact fun w' hH hf=>by
    have kx:=Hp.keepX (l:=[(g.maps++g3.maps)[kM]]) hH.2.2.2 hf
    refine hKM (kM+1) _ w' ⟨hk',frK hFMu kx fun b' hb'=>?_,qE.rn (φ:=fun w b m=>Blk w b vO (qcP m)) hEM ndM hbe hxe (fun b' m hn h=>kx.blk h (by simpa using hn)) (hH.get (i:=0) rfl rfl)⟩ ox ⟨rfl,rfl,rfl,rfl,rfl,rfl,trivial⟩
    have e:b'=(g.maps++g3.maps)[kM]:=by simpa using hb'
    subst e
    exact .inr ⟨hbB,fun o ho=>by
     have h:uM.heap[(g.maps++g3.maps)[kM]]? =some _:=hst
     rw[h]at ho;cases ho;exact List.mem_singleton.2 rfl⟩
  ·have hk':kM=x.mappings.length+y.mappings.length:=by omega
   subst hk'
   rw[qds (by simp only[lA,List.length_map];omega)]at hEM
   have hPM:=jk hFMu rfl _ _ hPM0
   have hQM:=jk hFMu rfl _ _ hQM0
   have FL:Fr B [ju,xZ,vO] w4 uM:=Fr.trans (hFv.mono (.inr ⟨Nat.le_refl _,by decide⟩)) hFMu (.inr ⟨Nat.le_refl _,by decide⟩)
   have hMM:=hMM0.keep fun b cs _=>jk hFMu rfl b cs
   clear hEM0 hKM h71 hPM0 hQM0 hMM0 hFv
   refine CJ.turnB (B:=B) (W:=[ju,vD]) (Hp.thr hOL (fun ho=>⟨jk FL rfl _ _ (hyL ho).1,(hyL ho).2⟩) hPM hQM fpb hne rfl rfl dq) ?_
   refine jt (K9 (sQ fun K15=>jC 12 (lts [0,1,2,3,4,5,6,7,8]++(9,false)::(lts [10,11]++(12,false)::[])) [1,2] rfl (by kernel_rfl) (by kernel_rfl) (dM [1,2] (k:=dM [1,2] (k:=dN [1,2] (k:=dF [1,2] 4 jz xq (k:=dH [1,2] 0 zY (k:=dM [1,2] (k:=dN [1,2] (k:=dF [1,2] 4 jz xq (k:=dH [1,2] 1 zY (k:=dE (h:=fun Kd=>?_)))))))))))))
   refine qbn 0 rfl hOL xw qay rfl rfl rfl hZL (fun w' hH hf ho=>Vf (T:=ju) hOL hH (jk FL rfl _ _ (hzL ho)) (fun ho=>jk FL rfl _ _ (hyL ho).1) hQM ⟨_,hPM⟩ dq) (fun z hz=>by obtain ⟨u, -,rfl⟩:=List.mem_map.1 hz;rfl) ox rfl fun y91 p91 c91 hO91=>?_
   refine Kd (sb [1,2]) (dN [1,2] (k:=dF [1,2] 4 jz xq (k:=dE (h:=fun Kd=>jB [_,_,_,_,_,_,_,_,_,_,_,_,_,_,_,_,_,_] (_::_::_::_) 1 xq (k:=Kd (.inl rfl) (K15 (CJ.t [(0,_),(1,_),(2,_)] (k:=sQ fun K16=>sQ fun K17=>jb (jM (k:=jN (k:=jF 4 jz xq (k:=?_))))))))))))
   refine jH 1 zY (k:=jE xw (k:=jM (k:=K17 (jh ?_))))
   intro vL hHv hfL
   have hfL':Fr B [ju,vD] uM vL:=hfL
   have hFv:Fr B [ju,xZ,vO,vD] w4 vL:=Fr.trans (FL.mono (.inr ⟨Nat.le_refl _,by decide⟩)) hfL' (.inr ⟨Nat.le_refl _,by decide⟩)
   have hPL0:Blk vL g.pb ju (zz (xJ x (IntKind.i64.wrap (x.dur+y.dur)) qq) tyv (.slice pS x.samples.length cS) (.slice p62 (x.mappings.length+y.mappings.length) c62) (.slice p91 (x.locs.length+y.locs.length) c91) (.slice pF x.funcs.length cF) cov g.per):=hHv.get (i:=1) rfl rfl
   have hQL0:Blk vL g3.pb ju (zz y ty3 (.slice qS y.samples.length dzS) (.slice qM y.mappings.length dzM) (.slice qL y.locs.length dzL) (.slice qF y.funcs.length dzF) co3 g3.per):=hHv.get (i:=2) rfl rfl
   have hg91:=hHv.geT hO91.hw (show B≤uM.heap.size by have:=FL.size;omega)
   have hML0:OSn B vD 1 vL (.slice p91 (x.locs.length+y.locs.length) c91) ((g.locs++g3.locs).map ptr):=by rw[List.map_append];exact hO91.osn (i:=0) hHv rfl hg91
   have hEL0:qE (g.locs++g3.locs) (rn rnL 0 (x.locs++y.locs.map (yf x.mappings.length x.funcs.length))) (Kj B vL (g.maps++g3.maps) (g.funs++g3.funs)):=by rw[qaY];exact aL.mono (fun b m h=>h.mono (jk hFv rfl b) (jk hFv rfl))
   have kxL:jv ([g.pb,g3.pb]++qG yL) uM vL:=Hp.keepX (l:=[g.pb,g3.pb]++qG yL) hHv.2.2.2.2.2.2.2.2.2 hfL
   have aSv:qE (g.sams++g3.sams) (x.samples++y.samples.map (XN x.locs.length)) (KY vL (g.locs++g3.locs)):=aS.mono fun b s h=>samN (h.1.mono (jk FL rfl b) (jk FL rfl) (jk FL rfl) (jk FL rfl) fun b es ck h=>yo FL rfl es ck h) (h.2.mono (jk FL rfl b)) kxL hPM hQM fun ho=>jk FL rfl _ _ (hyL ho).1
   clear hHv hfL
   refine vk (σ:=Nat) (fun s=>[(0,ptr g.pb),(1,ptr g3.pb),(2,.float .f64 4607182418800017408),(97,.slice p91 (x.locs.length+y.locs.length) c91),(98,.int .i64 ((x.locs.length+y.locs.length:Nat):Int)),(99,.int .i64 (s:Nat))])
    (fun s w'=>s≤x.locs.length+y.locs.length∧Fr B [qH] vL w'∧qE (g.locs++g3.locs) (rn rnL s (x.locs++y.locs.map (yf x.mappings.length x.funcs.length))) (Kj B w' (g.maps++g3.maps) (g.funs++g3.funs))) (fun s=>(x.locs.length+y.locs.length) - s) 0 sR ⟨Nat.zero_le _,Fr.refl _ _ _,hEL0⟩ ?_
   rintro kL uL ⟨hkL,hFLu,hEL⟩ KL hKL
   try dsimp only at hkL hFLu hEL
   refine C.begin ⟨uL,0,[]⟩ [] jx .nil ?_
   try dsimp only
   refine sQ fun K18=>jb (jS (k:=K18 (sQ fun K19=>?_)))
   refine jq rfl (fun h100=>?_) (fun h100=>?_)
   ·have hk':kL<x.locs.length+y.locs.length:=by omega
    have hkb:kL<(g.locs++g3.locs).length:=by have h1:=hG.locs.1;have h2:=hQ3.locs.1;rw[lA];omega
    have hkx:kL<(x.locs++y.locs.map (yf x.mappings.length x.funcs.length)).length:=by simp only[lA,List.length_map];omega
    have hbe:(g.locs++g3.locs)[kL]? =some (g.locs++g3.locs)[kL]:=gE hkb
    have hxe:(x.locs++y.locs.map (yf x.mappings.length x.funcs.length))[kL]? =some (x.locs++y.locs.map (yf x.mappings.length x.funcs.length))[kL]:=gE hkx
    have hbB:=geL _ (List.getElem_mem hkb)
    obtain ⟨bq,rfl,hsq⟩:=OS.openS hML0.os ox
    have hcell:=Kq (k:=kL) (v:=ptr (g.locs++g3.locs)[kL]) (W1:=[qH]) hFLu rfl rfl hsq (by rw[List.getElem?_map,hbe];rfl)
    have hcur:=hEL.2 kL _ _ hbe (by rw[XI,hxe];rfl)
    simp only[Nat.lt_irrefl,if_false]at hcur
    obtain ⟨lsv,hst,hlr,hlg⟩:=hcur
    refine CJ.turnB (B:=0) (W:=[qH]) (Hp.one hst (Nat.zero_le _) rfl) ?_
    refine jg (K19 (sQ fun K20=>jh (sQ fun K21=>jb (jM (k:=jJ xw JW (k:=jL VO hcell 0 (k:=jA (k:=jA (k:=K21 (jb (jM (k:=jM (k:=?_)))))))))))))
    refine jI (k:=?_)
    refine jn rfl (fun _ _ h=>qO ru3 xu rfl h) ?_
    refine jV (u:=.int .u64 ((kL+1:Nat):Int)) (congrArg (Value.int .u64) (yY ox)) ?_
    refine jN (k:=jF 0 vc kU (k:=jB [_,_,_,_,_,_] (_::_) 0 kU (k:=K20 (CJ.t [(0,_),(1,_),(2,_),(97,_),(98,_),(99,_)] (k:=jb (jI (k:=jM (k:=jw (ji ?_)))))))))
    exact fun w' hH hf=>by
     have kx:=Hp.keepX (l:=[(g.locs++g3.locs)[kL]]) hH.2.2.2 hf
     refine hKL (kL+1) _ w' ⟨hk',frK hFLu kx fun b' hb'=>?_,qE.rn (φ:=fun w=>Kj B w (g.maps++g3.maps) (g.funs++g3.funs)) hEL ndL hbe hxe (fun b' m hn h=>h.mono (fun cs hb=>kx.blk hb (by simpa using hn)) fun b2 cs hb=>kx.blk hb (by simpa using hb.ne hst dq)) (⟨lsv,hH.get (i:=0) rfl rfl,hlr.mono fun b2 cs hb=>kx.blk hb (by simpa using hb.ne hst dq),hlg⟩)⟩ ox sR
     have e:b'=(g.locs++g3.locs)[kL]:=by simpa using hb'
     subst e
     exact .inr ⟨hbB,fun o ho=>by
      have h:uL.heap[(g.locs++g3.locs)[kL]]? =some _:=hst
      rw[h]at ho;cases ho;exact List.mem_singleton.2 rfl⟩
   ·have hk':kL=x.locs.length+y.locs.length:=by omega
    subst hk'
    rw[qds (by simp only[lA,List.length_map];omega)]at hEL
    have hPL:=jk hFLu rfl _ _ hPL0
    have hQL:=jk hFLu rfl _ _ hQL0
    have FF:Fr B [ju,xZ,vO,vD,qH] w4 uL:=Fr.trans (hFv.mono (.inr ⟨Nat.le_refl _,by decide⟩)) hFLu (.inr ⟨Nat.le_refl _,by decide⟩)
    have hML:=hML0.keep fun b cs _=>jk hFLu rfl b cs
    clear hEL0 hKL h100 hPL0 hQL0 hML0 hFv
    refine CJ.turnB (B:=B) (W:=[ju,yq]) (Hp.thr hOF (fun ho=>⟨jk FF rfl _ _ (hyF ho).1,(hyF ho).2⟩) hPL hQL fpb hne rfl rfl dq) ?_
    refine jt (K16 (sQ fun K22=>jC 12 (lts [0,1,2,3,4,5,6,7,8]++(9,false)::(lts [10,11]++(12,false)::[])) [1,2] rfl (by kernel_rfl) (by kernel_rfl) (dM [1,2] (k:=dM [1,2] (k:=dN [1,2] (k:=dF [1,2] 5 jz zw (k:=dH [1,2] 0 Kw (k:=dM [1,2] (k:=dN [1,2] (k:=dF [1,2] 5 jz zw (k:=dH [1,2] 1 Kw (k:=dE (h:=fun Kd=>?_)))))))))))))
    refine qbn 0 rfl hOF ze qhY rfl rfl rfl hZF (fun w' hH hf ho=>Vf (T:=ju) hOF hH (jk FF rfl _ _ (hzF ho)) (fun ho=>jk FF rfl _ _ (hyF ho).1) hQL ⟨_,hPL⟩ dq) (fun z hz=>by obtain ⟨u, -,rfl⟩:=List.mem_map.1 hz;rfl) ox rfl fun y120 p120 c120 hO120=>?_
    refine Kd (sb [1,2]) (dN [1,2] (k:=dF [1,2] 5 jz zw (k:=dE (h:=fun Kd=>jB [_,_,_,_,_,_,_,_,_,_,_,_,_,_,_,_,_,_] (_::_::_::_) 1 zw (k:=Kd (.inl rfl) (K22 (CJ.t [(0,_),(1,_),(2,_)] (k:=sQ fun K23=>sQ fun K24=>jb (jM (k:=jN (k:=jF 5 jz zw (k:=?_))))))))))))
    refine jH 1 Kw (k:=jE ze (k:=jM (k:=K24 (jh ?_))))
    intro vF hHv hfF
    have hfF':Fr B [ju,yq] uL vF:=hfF
    have hFv:Fr B [ju,xZ,vO,vD,qH,yq] w4 vF:=Fr.trans (FF.mono (.inr ⟨Nat.le_refl _,by decide⟩)) hfF' (.inr ⟨Nat.le_refl _,by decide⟩)
    have hPF0:Blk vF g.pb ju (zz (xJ x (IntKind.i64.wrap (x.dur+y.dur)) qq) tyv (.slice pS x.samples.length cS) (.slice p62 (x.mappings.length+y.mappings.length) c62) (.slice p91 (x.locs.length+y.locs.length) c91) (.slice p120 (x.funcs.length+y.funcs.length) c120) cov g.per):=hHv.get (i:=1) rfl rfl
    have hQF0:Blk vF g3.pb ju (zz y ty3 (.slice qS y.samples.length dzS) (.slice qM y.mappings.length dzM) (.slice qL y.locs.length dzL) (.slice qF y.funcs.length dzF) co3 g3.per):=hHv.get (i:=2) rfl rfl
    have hg120:=hHv.geT hO120.hw (show B≤uL.heap.size by have:=FF.size;omega)
    have hMF0:OSn B yq 1 vF (.slice p120 (x.funcs.length+y.funcs.length) c120) ((g.funs++g3.funs).map ptr):=by rw[List.map_append];exact hO120.osn (i:=0) hHv rfl hg120
    have hEF0:qE (g.funs++g3.funs) (rn rnF 0 (x.funcs++y.funcs)) (fun b m=>Blk vF b xi (qcR m)):=by rw[qaY];exact aF.mono (fun b m h=>jk hFv rfl _ _ h)
    clear hHv hfF
    refine vk (σ:=Nat) (fun s=>[(0,ptr g.pb),(1,ptr g3.pb),(2,.float .f64 4607182418800017408),(126,.slice p120 (x.funcs.length+y.funcs.length) c120),(127,.int .i64 ((x.funcs.length+y.funcs.length:Nat):Int)),(128,.int .i64 (s:Nat))])
     (fun s w'=>s≤x.funcs.length+y.funcs.length∧Fr B [xi] vF w'∧qE (g.funs++g3.funs) (rn rnF s (x.funcs++y.funcs)) (fun b m=>Blk w' b xi (qcR m))) (fun s=>(x.funcs.length+y.funcs.length) - s) 0 sR ⟨Nat.zero_le _,Fr.refl _ _ _,hEF0⟩ ?_
    rintro kF uF ⟨hkF,hFFu,hEF⟩ KF hKF
    try dsimp only at hkF hFFu hEF
    refine C.begin ⟨uF,0,[]⟩ [] jx .nil ?_
    try dsimp only
    refine sQ fun K25=>jb (jS (k:=K25 (sQ fun K26=>?_)))
    refine jq rfl (fun h129=>?_) (fun h129=>?_)
    ·have hk':kF<x.funcs.length+y.funcs.length:=by omega
     have hkb:kF<(g.funs++g3.funs).length:=by have h1:=hG.funs.1;have h2:=hQ3.funs.1;rw[lA];omega
     have hkx:kF<(x.funcs++y.funcs).length:=by simp only[lA,List.length_map];omega
     have hbe:(g.funs++g3.funs)[kF]? =some (g.funs++g3.funs)[kF]:=gE hkb
     have hxe:(x.funcs++y.funcs)[kF]? =some (x.funcs++y.funcs)[kF]:=gE hkx
     have hbB:=geF _ (List.getElem_mem hkb)
     obtain ⟨bq,rfl,hsq⟩:=OS.openS hMF0.os ox
     have hcell:=Kq (k:=kF) (v:=ptr (g.funs++g3.funs)[kF]) (W1:=[xi]) hFFu rfl rfl hsq (by rw[List.getElem?_map,hbe];rfl)
     have hcur:=hEF.2 kF _ _ hbe (by rw[XI,hxe];rfl)
     simp only[Nat.lt_irrefl,if_false]at hcur
     have hst:Blk uF (g.funs++g3.funs)[kF] xi (qcR (x.funcs++y.funcs)[kF]):=hcur
     refine CJ.turnB (B:=0) (W:=[xi]) (Hp.one hst (Nat.zero_le _) rfl) ?_
     refine jg (K26 (sQ fun K27=>jh (sQ fun K28=>jb (jM (k:=jJ ze zd (k:=jL Kv hcell 0 (k:=jA (k:=jA (k:=K28 (jb (jM (k:=jM (k:=?_)))))))))))))
     refine jI (k:=?_)
     refine jn rfl (fun _ _ h=>qO ru3 xu rfl h) ?_
     refine jV (u:=.int .u64 ((kF+1:Nat):Int)) (congrArg (Value.int .u64) (yY ox)) ?_
     refine jN (k:=jF 0 xc kU (k:=jB [_,_,_,_,_,_,_,_] (_::_) 0 kU (k:=K27 (CJ.t [(0,_),(1,_),(2,_),(126,_),(127,_),(128,_)] (k:=jb (jI (k:=jM (k:=jw (ji ?_)))))))))
     exact fun w' hH hf=>by
      have kx:=Hp.keepX (l:=[(g.funs++g3.funs)[kF]]) hH.2.2.2 hf
      refine hKF (kF+1) _ w' ⟨hk',frK hFFu kx fun b' hb'=>?_,qE.rn (φ:=fun w b m=>Blk w b xi (qcR m)) hEF ndF hbe hxe (fun b' m hn h=>kx.blk h (by simpa using hn)) (hH.get (i:=0) rfl rfl)⟩ ox ⟨rfl,rfl,rfl,rfl,rfl,rfl,trivial⟩
      have e:b'=(g.funs++g3.funs)[kF]:=by simpa using hb'
      subst e
      exact .inr ⟨hbB,fun o ho=>by
       have h:uF.heap[(g.funs++g3.funs)[kF]]? =some _:=hst
       rw[h]at ho;cases ho;exact List.mem_singleton.2 rfl⟩
    ·have hk':kF=x.funcs.length+y.funcs.length:=by omega
     subst hk'
     rw[qds (by simp only[lA,List.length_map];omega)]at hEF
     have hPF:=jk hFFu rfl _ _ hPF0
     have hQF:=jk hFFu rfl _ _ hQF0
     have FS:Fr B [ju,xZ,vO,vD,qH,yq,xi] w4 uF:=Fr.trans (hFv.mono (.inr ⟨Nat.le_refl _,by decide⟩)) hFFu (.inr ⟨Nat.le_refl _,by decide⟩)
     have hMF:=hMF0.keep fun b cs _=>jk hFFu rfl b cs
     clear hEF0 hKF h129 hPF0 hQF0 hMF0 hFv
     refine CJ.turnB (B:=B) (W:=[ju,xS]) (Hp.thr hOS (fun ho=>⟨jk FS rfl _ _ (hyS ho).1,(hyS ho).2⟩) hPF hQF fpb hne rfl rfl dq) ?_
     refine jt (K23 (sQ fun K29=>sQ fun K30=>jb (jM (k:=?_))))
     refine jn rfl (fun _ _ h=>r_f1 rfl rfl h) (K30 (jO rfl (jg (K29 (sQ fun K31=>jC 12 (lts [0,1,2,3,4,5,6,7,8]++(9,false)::(lts [10,11]++(12,false)::[])) [1,2] rfl (by kernel_rfl) (by kernel_rfl) (dM [1,2] (k:=dM [1,2] (k:=dN [1,2] (k:=dF [1,2] 2 jz Jz (k:=dH [1,2] 0 VP (k:=dM [1,2] (k:=dN [1,2] (k:=dF [1,2] 2 jz Jz (k:=?_))))))))))))))
     refine dH [1,2] 1 VP (k:=dE (h:=fun Kd=>?_))
     refine qbn 0 rfl hOS JB qhX rfl rfl rfl hZS (fun w' hH hf ho=>Vf (T:=ju) hOS hH (jk FS rfl _ _ (hzS ho)) (fun ho=>jk FS rfl _ _ (hyS ho).1) hQF ⟨_,hPF⟩ dq) (fun z hz=>by obtain ⟨u, -,rfl⟩:=List.mem_map.1 hz;rfl) ox rfl fun y183 p183 c183 hO183=>?_
     refine Kd (sb [1,2]) (dN [1,2] (k:=dF [1,2] 2 jz Jz (k:=dE (h:=fun Kd=>jB [_,_,_,_,_,_,_,_,_,_,_,_,_,_,_,_,_,_] (_::_::_::_) 1 Jz (k:=Kd (.inl rfl) (K31 (CJ.t [(0,_)] (k:=sQ fun K32=>jb (jM (k:=?_))))))))))
     have hFin:∀(w':World),Blk w' g.pb ju (zz (qy x y) tyv (.slice p183 (x.samples.length+y.samples.length) c183) (.slice p62 (x.mappings.length+y.mappings.length) c62) (.slice p91 (x.locs.length+y.locs.length) c91) (.slice p120 (x.funcs.length+y.funcs.length) c120) cov g.per)→OSn B xS 1 w' (.slice p183 (x.samples.length+y.samples.length) c183) ((g.sams++g3.sams).map ptr)→Fm.ok ⟨uF,B,[ju,xS]⟩ w'→OfQ B w' (qy x y) ⟨g.pb,g.per,g.types,g.maps++g3.maps,g.funs++g3.funs,g.locs++g3.locs,g.sams++g3.sams⟩:=fun w' hb hr hf0=>by
      have hf:Fr B [ju,xS] uF w':=hf0
      have FT:Fr B [ju,xZ,vO,vD,qH,yq,xi,xS] w4 w':=frJ FS hf dq dq
      have f3:Fr B [ju,yq,xi,xS] uL w':=frJ (frJ (W:=[ju,yq,xi]) hfF' hFFu dq dq) hf dq dq
      have f2:Fr B [ju,vD,qH,yq,xi,xS] uM w':=frJ (frJ (W:=[ju,vD,qH]) hfL' hFLu dq dq) f3 dq dq
      have f4:Fr B [ju,xS] uF w':=hf
      have f5:Fr B [qH,ju,yq,xi,xS] vL w':=frJ hFLu f3 dq dq
      exact { prof:=⟨_,_,_,_,_,_,hb,hty.mono (jk FT rfl),hr.os,(hMM.keep fun b cs _=>jk f2 rfl b cs).os,(hML.keep fun b cs _=>jk f3 rfl b cs).os,(hMF.keep fun b cs _=>jk f4 rfl b cs).os,hco.mono (jk FT rfl)⟩
              per:=jk FT rfl _ _ hG.per
              types:=hG.types.mono fun b t h=>jk FT rfl _ _ h
              maps:=hEM.mono fun b m h=>jk f2 rfl _ _ h
              funs:=hEF.mono fun b m h=>jk f4 rfl _ _ h
              locs:=hEL.mono fun b l h=>(Kj.mono h (jk f3 rfl b) (jk f3 rfl)).p
              sams:=aSv.mono fun b s h=>KY.mono h (jk f5 rfl b) (jk f5 rfl) (jk f5 rfl) (jk f5 rfl) fun b es ck h=>yo f5 rfl es ck h
              ntypes:=hG.ntypes
              nmaps:=ndM
              nfuns:=ndF
              nlocs:=ndL
              nsams:=ndS
              fresh:=⟨fpb,fpe,fty,geM,geF,geL,geS⟩
              rows:=qE.all (hEL.mono (ψ:=fun b _=>KZ B w' b) fun b l h=>(Kj.mono h (jk f3 rfl b) (jk f3 rfl)).row) }
     have hrow:∀(w':World),(y183.on=true→Blk w' y183.b xS y183.cs∧B≤y183.b)→OSn B xS 1 w' (.slice p183 (x.samples.length+y.samples.length) c183) ((g.sams++g3.sams).map ptr):=fun w' h=>by rw[List.map_append];exact ⟨y183,_,_,_,rfl,hO183,h⟩
     have hsF:B≤uF.heap.size:=by have:=FS.size;omega
     refine kg (φ:=fun v=>v=.nilIface) call65 rfl rfl (fun w' hH hf=>qbD B w' (qy x y) ⟨g.pb,g.per,g.types,g.maps++g3.maps,g.funs++g3.funs,g.locs++g3.locs,g.sams++g3.sams⟩ (hFin w' (by subst hqq;exact hH.get (i:=1) rfl rfl) (hrow w' fun ho=>⟨by have:=hH.1.row ho;rw[hO183.hT]at this;exact this,hH.geT hO183.hw hsF ho⟩) hf) (qfx hx hy ht)) fun v hv=>?_
     subst hv
     refine jA (k:=K32 (jj ?_))
     exact je results50 rfl fun w' hH hf=>⟨rfl,⟨⟨g.pb,g.per,g.types,g.maps++g3.maps,g.funs++g3.funs,g.locs++g3.locs,g.sams++g3.sams⟩,rfl,hFin w' (by subst hqq;exact hH.get (i:=1) rfl rfl) (hrow w' fun ho=>⟨by have:=hH.1.row ho;rw[hO183.hT]at this;exact this,hH.geT hO183.hw hsF ho⟩) hf⟩,Fr.trans hfr4 (frJ (W:=wJ) FS (show Fr B [ju,xS] uF w' from hf) dq dq) (.inr ⟨Nat.le_refl _,fun _ h=>h⟩)⟩
 clear hK6
 refine sQ fun K33=>jC 9 (lts [0,1,2,3,4,5,6,7,8]) [1,2] rfl (by kernel_rfl) (by kernel_rfl) (dM [1,2] (k:=dN [1,2] (k:=dF [1,2] 12 jz so2 (k:=dH [1,2] 1 ag2 (k:=dM [1,2] (k:=dN [1,2] (k:=dF [1,2] 12 jz so2 (k:=dH [1,2] 0 ag2 (k:=?_)))))))))
 refine jo rfl rfl (jd [1,2] rfl) (fun _ _ h=>Yi rfl rfl h) (K33 (CJ.t [(0,_),(1,_),(2,_),(34,_)] (k:=?_)))
 refine jq rfl (fun h34=>?_) (fun h34=>?_)
 ·refine jb (jM (k:=jM (k:=jN (k:=jF 12 jz so2 (k:=jH 2 ag2 (k:=jN (k:=jF 12 jz so2 (k:=jB [_,_,_,_,_,_,_,_,_,_,_,_,_,_,_,_,_,_] (_::_::_::_) 1 so2 (k:=jw (ji ?_))))))))))
  first
  |exact fun v' hH hf=>N.sub' (hJ34 y.period v' (by rw[if_pos h34]) hf hH) ⟨rfl,rfl,rfl,trivial⟩
  |exact fun v' hH hf=>N.sub' (hJ34 x.period v' (by rw[if_neg h34]) hf hH) ⟨rfl,rfl,rfl,trivial⟩
 ·refine jg (ji ?_)
  first
  |exact fun v' hH hf=>N.sub' (hJ34 y.period v' (by rw[if_pos h34]) hf hH) ⟨rfl,rfl,rfl,trivial⟩
  |exact fun v' hH hf=>N.sub' (hJ34 x.period v' (by rw[if_neg h34]) hf hH) ⟨rfl,rfl,rfl,trivial⟩
end Go.Proofs.YtifdadlhmlhfiaaGreatDoor
